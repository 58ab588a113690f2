import PyProof.Rows.All
import Wide.All
import OpenK.AllK
import Wide.FinOn
import PySem.Challenge.RW_pg0247_01
set_option Elab.async false
section
set_option autoImplicit false
namespace HQ
open PySem

inductive V where
  | none
  | bool (b : Bool)
  | int (i : Int)
  | str (s : List Nat)
  | tup (l : List V)
  | lst (l : List V)
  | ref (c : Nat)
  | rng (a b : Int)
  | its (c : Nat)
  | any (t : Nat)
  | keys (c : Nat)

inductive Cell where
  | list (l : List V)
  | dict (l : List (Int × V))
  | inst (cls : Addr) (d : Nat)
  | attrs (l : List (Str × V))

abbrev Sto := List Cell
abbrev Vars := List (Str × V)

inductive Fl where
  | next | brk | cont
  | ret (v : V)

structure FDef where
  addr : Addr
  params : List Str
  body : List Stmt
  scope : Scope

structure CDef where
  addr : Addr
  init : FDef

structure Prog where
  fn : Str → Option FDef
  cls : Str → Option CDef
  meth : Addr → Str → Option FDef
  cattr : Str → Str → Option V
  iattr : Addr → Str → Bool
  oattr : Nat → Str → Option V
  ometh : Nat → Str → Option FDef

structure Fm where
  scope : Scope
  vars : Vars

/-- lists by their recursors: cheaper in the kernel -/
noncomputable def getF {α : Type} (l : List α) : Nat → Option α := @List.rec α (fun _ => Nat → Option α) (fun _ => .none) (fun h _ ih n => @Nat.rec (fun _ => Option α) (some h) (fun m _ => ih m) n) l
noncomputable def setF {α : Type} (l : List α) : Nat → α → List α := @List.rec α (fun _ => Nat → α → List α) (fun _ _ => []) (fun h t ih n v => @Nat.rec (fun _ => List α) (v :: t) (fun m _ => h :: ih m v) n) l
noncomputable def appF {α : Type} (l r : List α) : List α := @List.rec α (fun _ => List α) r (fun h _ ih => h :: ih) l
noncomputable def lenF {α : Type} (l : List α) : Nat := @List.rec α (fun _ => Nat) 0 (fun _ _ ih => Nat.add ih 1) l
noncomputable def look {α : Type} (x : Str) (l : List (Str × α)) : Option α := @List.rec (Str × α) (fun _ => Option α) .none (fun p _ ih => @Prod.rec Str α (fun _ => Option α) (fun n v => @Bool.rec (fun _ => Option α) ih (some v) (PySem.W.Fast.sEq x n)) p) l
noncomputable def setv {α : Type} (x : Str) (v : α) (l : List (Str × α)) : List (Str × α) := @List.rec (Str × α) (fun _ => List (Str × α)) [(x, v)] (fun p t ih => @Prod.rec Str α (fun _ => List (Str × α)) (fun n w => @Bool.rec (fun _ => List (Str × α)) ((n, w) :: ih) ((x, v) :: t) (PySem.W.Fast.sEq x n)) p) l
theorem getF_eq {α : Type} : ∀ (l : List α) (n : Nat), getF l n = l[n]?
  | [], _ => rfl
  | _ :: _, 0 => rfl
  | _ :: r, n + 1 => by rw [List.getElem?_cons_succ, ← getF_eq r n]; rfl
theorem setF_eq {α : Type} : ∀ (l : List α) (n : Nat) (v : α), setF l n v = l.set n v
  | [], _, _ => rfl
  | _ :: _, 0, _ => rfl
  | h :: r, n + 1, v => by rw [List.set_cons_succ, ← setF_eq r n]; rfl
theorem appF_eq {α : Type} : ∀ (l r : List α), appF l r = l ++ r
  | [], _ => rfl
  | h :: t, r => by rw [List.cons_append, ← appF_eq t r]; rfl
theorem lenF_eq {α : Type} : ∀ (l : List α), lenF l = l.length
  | [] => rfl
  | h :: t => by rw [List.length_cons, ← lenF_eq t]; rfl
theorem look_nil {α : Type} (x : Str) : look x ([] : List (Str × α)) = .none := rfl
theorem look_cons {α : Type} (x y : Str) (v : α) (r : List (Str × α)) : look x ((y, v) :: r) = if x = y then some v else look x r := by
  show @Bool.rec (fun _ => Option α) (look x r) (some v) (PySem.W.Fast.sEq x y) = _
  cases h : PySem.W.Fast.sEq x y with
  | true => rw [if_pos (PySem.W.Fast.sEq_iff.mp h)]
  | false => rw [if_neg (fun e => by rw [PySem.W.Fast.sEq_iff.mpr e] at h; cases h)]
theorem setv_nil {α : Type} (x : Str) (v : α) : setv x v [] = [(x, v)] := rfl
theorem setv_cons {α : Type} (x : Str) (v : α) (y : Str) (w : α) (r : List (Str × α)) : setv x v ((y, w) :: r) = if x = y then (x, v) :: r else (y, w) :: setv x v r := by
  show @Bool.rec (fun _ => List (Str × α)) ((y, w) :: setv x v r) ((x, v) :: r) (PySem.W.Fast.sEq x y) = _
  cases h : PySem.W.Fast.sEq x y with
  | true => rw [if_pos (PySem.W.Fast.sEq_iff.mp h)]
  | false => rw [if_neg (fun e => by rw [PySem.W.Fast.sEq_iff.mpr e] at h; cases h)]
theorem look_lookup {α : Type} (x : Str) : ∀ l : List (Str × α), look x l = l.lookup x
  | [] => rfl
  | (n, v) :: r => by
    rw [look_cons, List.lookup_cons, look_lookup x r]
    by_cases h : x = n
    · simp [h]
    · have : (x == n) = false := by simp [h]
      rw [if_neg h, this]

/-- a global name, by the scope alone -/
noncomputable def globS (sc : Scope) (x : Str) : Bool := match look x sc.names with
  | some .globalImplicit => true
  | _ => false
noncomputable def isGlob (F : Fm) (x : Str) : Bool := match F with
  | ⟨sc, vars⟩ => globS sc x && (look x vars).isNone

/-- a name that may be stored -/
noncomputable def storeOk (sc : Scope) (x : Str) : Bool := match look x sc.names with
  | some .local => true
  | some .cell => true
  | _ => false
noncomputable def localOk (sc : Scope) (x : Str) : Bool := match look x sc.names with
  | some .local => true
  | _ => false
noncomputable def neS (a b : Str) : Bool := @Bool.rec (fun _ => Bool) true false (PySem.W.Fast.sEq a b)
noncomputable def namesOk (sc : Scope) : Bool := sc.kind == .function && sc.names.all fun p => neS p.1 "__debug__" && neS p.1 "__classdict__" && look p.1 sc.names == some p.2
/-- a comprehension's scope within another -/
noncomputable def compOk (out sc : Scope) (xs : List Str) : Bool := namesOk sc && xs.all (localOk sc) && sc.names.all fun p => match p.2 with
  | .local => true
  | .globalImplicit => true
  | .free => (match look p.1 out.names with | some .cell => true | some .free => true | _ => false)
  | _ => false
noncomputable def cellAt (σ : Sto) (c : Nat) : Option Cell := (getF σ c)
noncomputable def listAt (σ : Sto) (c : Nat) : Option (List V) := match (getF σ c) with | some (.list l) => some l | _ => .none
noncomputable def dictAt (σ : Sto) (c : Nat) : Option (List (Int × V)) := match (getF σ c) with | some (.dict l) => some l | _ => .none
noncomputable def attrsAt (σ : Sto) (c : Nat) : Option (Addr × Nat × List (Str × V)) := match (getF σ c) with
  | some (.inst k d) => (match (getF σ d) with | some (.attrs l) => some (k, d, l) | _ => .none)
  | _ => .none
noncomputable def noSet : Expr → Bool
  | .Set .. => false
  | _ => true
noncomputable def recvOk : Expr → Bool
  | .Name .. => true
  | .Constant .. => true
  | _ => false
noncomputable def plainE : Expr → Bool
  | .Starred .. => false
  | _ => true

/-- items of a list or a tuple -/
noncomputable def itemsOf (σ : Sto) : V → Option (List V)
  | .tup l => some l
  | .lst l => some l
  | .ref c => listAt σ c
  | _ => .none
noncomputable def listOf? (σ : Sto) : V → Option (List V)
  | .lst l => some l
  | .ref c => listAt σ c
  | _ => .none

noncomputable def dLook (k : Int) : List (Int × V) → Option V
  | [] => .none
  | (j, v) :: r => if k = j then some v else dLook k r
noncomputable def dPut (k : Int) (v : V) : List (Int × V) → List (Int × V)
  | [] => [(k, v)]
  | (j, w) :: r => if k = j then (j, v) :: r else (j, w) :: dPut k v r

/-- equality, as the program asks it: intsV, texts, tuples and lists of such, dicts of intsV -/
inductive Ord3 where | lt | eq | gt
noncomputable def cmpI (a b : Int) : Ord3 := if a < b then .lt else if a = b then .eq else .gt
noncomputable def cmpL (f : V → V → Option Ord3) : List V → List V → Option Ord3
  | [], [] => some .eq
  | [], _ :: _ => some .lt
  | _ :: _, [] => some .gt
  | x :: r, y :: t => match f x y with
    | some .eq => cmpL f r t
    | o => o
/-- views: what a value is -/
noncomputable def asInt : V → Option Int
  | .int i => some i
  | _ => .none
noncomputable def asStr : V → Option (List Nat)
  | .str s => some s
  | _ => .none
noncomputable def asTup : V → Option (List V)
  | .tup l => some l
  | _ => .none
noncomputable def asRef : V → Option Nat
  | .ref c => some c
  | _ => .none
noncomputable def both {α β : Type} (f : V → Option α) (g : V → Option β) (a b : V) : Option (α × β) := match f a with
  | some x => (match g b with | some y => some (x, y) | .none => .none)
  | .none => .none

noncomputable def cmpV : Nat → V → V → Option Ord3
  | 0, _, _ => .none
  | n + 1, a, b => match both asInt asInt a b with
    | some (i, j) => some (cmpI i j)
    | .none => match both asTup asTup a b with
      | some (l, m) => cmpL (cmpV n) l m
      | .none => .none
noncomputable def isEq : Ord3 → Bool
  | .eq => true
  | _ => false
noncomputable def dEq : List (Int × V) → List (Int × V) → Option Bool
  | [], _ => some true
  | (k, .int v) :: r, l => (match dLook k l with
    | some (.int w) => (dEq r l).map fun b => decide (v = w) && b
    | some _ => .none
    | .none => some false)
  | _, _ => .none
noncomputable def intsV : List V → Option (List Int)
  | [] => some []
  | .int i :: r => (intsV r).map (i :: ·)
  | _ => .none
noncomputable def eqDD (σ : Sto) (a b : V) : Option Bool := match both asRef asRef a b with
  | some (c, d) => if c = d then .none else (match dictAt σ c, dictAt σ d with
    | some a, some b => if a.length = b.length then dEq a b else some false
    | _, _ => .none)
  | .none => .none
noncomputable def pairOf {α : Type} : List α → Option (α × α)
  | [a, b] => some (a, b)
  | _ => .none
noncomputable def eqT (σ : Sto) (x y : List V) : Option Bool := match pairOf x with
  | some (p, q) => (match pairOf y with
    | some (x1, y1) => (match eqDD σ p x1 with
      | some b => (match b with
        | true => eqDD σ q y1
        | false => some false)
      | .none => (cmpV 3 (.tup x) (.tup y)).map isEq)
    | .none => (cmpV 3 (.tup x) (.tup y)).map isEq)
  | .none => (cmpV 3 (.tup x) (.tup y)).map isEq
noncomputable def eqLi (x y : List V) : Option Bool := if x.length = y.length then (match intsV x with
    | some m => (match intsV y with
      | some n => some (decide (m = n))
      | .none => .none)
    | .none => .none) else some false
noncomputable def eqV (σ : Sto) (a b : V) : Option Bool := match both asInt asInt a b with
  | some (i, j) => some (decide (i = j))
  | .none => match both asStr asStr a b with
    | some (i, j) => some (decide (i = j))
    | .none => match both asTup asTup a b with
      | some (x, y) => eqT σ x y
      | .none => match both (listOf? σ) (listOf? σ) a b with
        | some (x, y) => eqLi x y
        | .none => .none

noncomputable def cmpOp (σ : Sto) (op : CmpOp) (a b : V) : Option Bool := match op with
  | .Eq => eqV σ a b
  | .NotEq => (match both asInt asInt a b with
    | some (i, j) => some (decide (i ≠ j))
    | .none => (cmpV 3 a b).map fun o => !isEq o)
  | .Lt => (match both asInt asInt a b with
    | some (i, j) => some (decide (i < j))
    | .none => (cmpV 3 a b).map fun o => match o with | .lt => true | _ => false)
  | .LtE => (match both asInt asInt a b with
    | some (i, j) => some (decide (i ≤ j))
    | .none => (cmpV 3 a b).map fun o => match o with | .gt => false | _ => true)
  | .Gt => (match both asInt asInt a b with
    | some (i, j) => some (decide (j < i))
    | .none => .none)
  | .GtE => (match both asInt asInt a b with
    | some (i, j) => some (decide (j ≤ i))
    | .none => .none)
  | .In => (match both asInt asRef a b with
    | some (k, c) => (match dictAt σ c with | some l => some (dLook k l).isSome | .none => .none)
    | .none => .none)
  | _ => .none

noncomputable def truthyV (σ : Sto) : V → Option Bool
  | .bool b => some b
  | .ref c => (match listAt σ c with
    | some l => if l.length ≤ 1000 then some (!l.isEmpty) else .none
    | _ => .none)
  | _ => .none

noncomputable def addL (σ : Sto) (a b : V) : Option (V × Sto) := match listOf? σ a, listOf? σ b with
  | some x, some y => if x.length + y.length ≤ 1000 then some (.ref (lenF σ), appF σ [.list (x ++ y)]) else .none
  | _, _ => .none
noncomputable def addV (σ : Sto) (a b : V) : Option (V × Sto) := match both asInt asInt a b with
  | some (i, j) => some (.int (i + j), σ)
  | .none => match both asStr asStr a b with
    | some (x, y) => if x.length + y.length ≤ 1000 then some (.str (x ++ y), σ) else .none
    | .none => match both asTup asTup a b with
      | some (x, y) => if x.length + y.length ≤ 1000 then some (.tup (x ++ y), σ) else .none
      | .none => addL σ a b
noncomputable def strMul (s : List Nat) (j : Int) : Option V := match s with
  | [] => .none
  | c :: r => (match r with
    | [] => if 0 ≤ j ∧ j ≤ 1000 then some (.str (List.replicate j.toNat c)) else .none
    | _ :: _ => .none)
noncomputable def lstMul (σ : Sto) (l : List V) (j : Int) : Option (V × Sto) := match l with
  | [] => .none
  | v :: r => (match r with
    | [] => if 0 ≤ j ∧ j ≤ 1000 then some (.ref (lenF σ), appF σ [.list (List.replicate j.toNat v)]) else .none
    | _ :: _ => .none)
noncomputable def mulV (σ : Sto) (a b : V) : Option (V × Sto) := match asInt b with
  | some j => (match asInt a with
    | some i => if -4611686018427387904 < j ∧ j < 4611686018427387904 then some (.int (i * j), σ) else .none
    | .none => match asStr a with
      | some s => (match strMul s j with | some v => some (v, σ) | .none => .none)
      | .none => match a with
        | .ref c => (match listAt σ c with
          | some l => lstMul σ l j
          | .none => .none)
        | _ => .none)
  | .none => .none
noncomputable def intOp (op : Operator) (i j : Int) : Option Int := match op with
  | .Sub => some (i - j)
  | .FloorDiv => if j ≠ 0 ∧ j.natAbs < 1073741824 then some (i.fdiv j) else .none
  | .Mod => if j ≠ 0 then some (i.fmod j) else .none
  | .RShift => if j = 1 ∧ 0 ≤ i then some (i / 2) else .none
  | _ => .none
noncomputable def binV (σ : Sto) (op : Operator) (a b : V) : Option (V × Sto) := match op with
  | .Add => addV σ a b
  | .Mult => mulV σ a b
  | op => (match both asInt asInt a b with
    | some (i, j) => (match intOp op i j with | some r => some (.int r, σ) | .none => .none)
    | .none => .none)

/-- the place of an index in a sequence of n items -/
noncomputable def place (n : Nat) (k : Int) : Option Nat :=
  if 0 ≤ k ∧ k < n ∧ k < 4611686018427387904 then some k.toNat else .none
noncomputable def indexV (σ : Sto) (o i : V) : Option V := match o, i with
  | .ref c, .int k => (match (getF σ c) with
      | some (.list l) => (match place l.length k with | some n => l[n]? | _ => .none)
      | some (.dict l) => dLook k l
      | _ => .none)
  | .tup l, .int k => (match place l.length k with | some n => l[n]? | _ => .none)
  | .lst l, .int k => (match place l.length k with | some n => l[n]? | _ => .none)
  | _, _ => .none
noncomputable def loOf (n : Nat) : Option Int → Option Nat
  | .none => some 0
  | some k => if 0 ≤ k then some (min k.toNat n) else .none
noncomputable def hiOf (n : Nat) : Option Int → Option Nat
  | .none => some n
  | some k => if 0 ≤ k then some (min k.toNat n) else .none
/-- l[lo:hi], with lo, hi not negative -/
noncomputable def pickP (lo hi : Option Int) (l : List V) : Option (List V) :=
  if l.length ≤ 1000 then (match loOf l.length lo, hiOf l.length hi with
    | some a, some b => some ((l.drop a).take (b - a))
    | _, _ => .none) else .none
/-- l[lo:hi:k] -/
noncomputable def pickS (lo hi k : Int) (l : List V) : Option (List V) :=
  if 0 ≤ lo ∧ 0 ≤ hi ∧ 0 < k ∧ l.length ≤ 1000 then some ((sliceRange (min lo l.length) (min hi l.length) k).filterMap (l[·]?)) else .none
noncomputable def sliceL (lo hi step : Option Int) (l : List V) : Option (List V) := match step with
  | .none => pickP lo hi l
  | some k => (match lo, hi with
    | some a, some b => pickS a b k l
    | _, _ => .none)
noncomputable def sliceV (σ : Sto) (o : V) (lo hi step : Option Int) : Option V := match o with
  | .tup l => (match step with
    | .none => (match pickP lo hi l with | some m => some (.tup m) | .none => .none)
    | some _ => .none)
  | o => (match listOf? σ o with
    | some l => (match sliceL lo hi step l with | some m => some (.lst m) | .none => .none)
    | .none => .none)

noncomputable def sumL : List V → Option Int
  | [] => some 0
  | .int i :: r => (sumL r).map (i + ·)
  | _ => .none
noncomputable def sumFrom (a : Int) : List V → Option Int
  | [] => some a
  | .int i :: r => sumFrom (a + i) r
  | _ => .none
noncomputable def insI (x : Int) : List Int → List Int
  | [] => [x]
  | y :: r => if x < y then x :: y :: r else y :: insI x r
noncomputable def sortI : List Int → List Int
  | [] => []
  | x :: r => insI x (sortI r)
noncomputable def strsOf : List V → Option (List (List Nat))
  | [] => some []
  | .str s :: r => (strsOf r).map (s :: ·)
  | _ => .none
noncomputable def lenOk (l : List V) : Option Int := if l.length ≤ 1000 then some (l.length : Int) else .none
noncomputable def lenV (σ : Sto) : V → Option Int
  | .tup l => lenOk l
  | .lst l => lenOk l
  | .ref c => (match listAt σ c with | some l => lenOk l | _ => .none)
  | _ => .none

/-- what a loop goes over, and how many turns it takes -/
noncomputable def startV (σ : Sto) : V → Option (V × Nat)
  | .tup l => some (.tup l, l.length)
  | .lst l => some (.lst l, l.length)
  | .rng a b => if -1000 ≤ a ∧ a ≤ 1000 ∧ -1000 ≤ b ∧ b ≤ 1000 then some (.rng a b, (b - a).toNat) else .none
  | .str s => if s.all (· < 128) then some (.str s, s.length) else .none
  | .ref c => (match (getF σ c) with
      | some (.list l) => some (.ref c, l.length)
      | some (.dict l) => some (.keys c, l.length)
      | _ => .none)
  | .its c => (match (getF σ c) with
      | some (.dict l) => some (.its c, l.length)
      | _ => .none)
  | _ => .none
/-- what the turn i of n gets; none at the end -/
noncomputable def nextV (σ : Sto) (n i : Nat) : V → Option (Option V)
  | .tup l => some l[i]?
  | .lst l => some l[i]?
  | .rng a _ => some (if i < n then some (.int (a + i)) else .none)
  | .str s => some (s[i]?.map fun c => .str [c])
  | .ref c => (match (getF σ c) with
      | some (.list l) => some l[i]?
      | _ => .none)
  | .keys c => (match (getF σ c) with
      | some (.dict l) => if l.length = n then some (l[i]?.map fun p => .int p.1) else .none
      | _ => .none)
  | .its c => (match (getF σ c) with
      | some (.dict l) => if l.length = n then some (l[i]?.map fun p => .tup [.int p.1, p.2]) else .none
      | _ => .none)
  | _ => .none
/-- may a name, a target take what the loop gives -/
noncomputable def fitN : V → Bool
  | .its _ => false
  | _ => true
noncomputable def fitT (t : Expr) (src : V) : Bool := match t with
  | .Tuple .. => true
  | .Name .. => fitN src
  | _ => false
noncomputable def short (l : List V) : Option (List V) := if l.length ≤ 1000 then some l else .none

noncomputable def builtinV (σ : Sto) (f : Str) (as : List V) : Option V :=
  if (PySem.W.Fast.sEq f "len") = true then (match as with | [a] => (lenV σ a).map .int | _ => .none)
  else if (PySem.W.Fast.sEq f "range") = true then (match as with
    | [.int n] => some (.rng 0 n)
    | [.int a, .int b] => some (.rng a b)
    | _ => .none)
  else if (PySem.W.Fast.sEq f "sum") = true then (match as with | [a] => (listOf? σ a).bind fun l => (sumFrom 0 l).map .int | _ => .none)
  else if (PySem.W.Fast.sEq f "tuple") = true then (match as with | [a] => ((listOf? σ a).bind short).map .tup | _ => .none)
  else if (PySem.W.Fast.sEq f "list") = true then (match as with | [.tup l] => (short l).map .lst | _ => .none)
  else if (PySem.W.Fast.sEq f "sorted") = true then (match as with | [.tup l] => if l.length < 64 then (intsV l).map fun ns => .lst ((sortI ns).map .int) else .none | _ => .none)
  else if (PySem.W.Fast.sEq f "max") = true then (match as with | [.int a, .int b] => some (.int (if b > a then b else a)) | _ => .none)
  else if (PySem.W.Fast.sEq f "min") = true then (match as with | [.int a, .int b] => some (.int (if b < a then b else a)) | _ => .none)
  else .none

noncomputable def joinL : List (List Nat) → List Nat
  | [] => []
  | x :: r => x ++ joinL r

abbrev Res (α : Type) := Option (α × Sto)

structure Evs where
  e : Fm → Expr → Sto → Res V
  l : Fm → List Expr → Sto → Res (List V)
  t : Fm → Expr → Sto → Res Bool
  s : Fm → Stmt → Sto → Option (Fl × Vars × Sto)
  ss : Fm → List Stmt → Sto → Option (Fl × Vars × Sto)
  c : FDef → List V → Sto → Res V

noncomputable def Evs.none : Evs := ⟨fun _ _ _ => .none, fun _ _ _ => .none, fun _ _ _ => .none, fun _ _ _ => .none, fun _ _ _ => .none, fun _ _ _ => .none⟩
/-- a piece of program, matched once -/
structure BE where
  run : Evs → Fm → Sto → Res V
structure BT where
  run : Evs → Fm → Sto → Res Bool
structure BS where
  run : Evs → Fm → Sto → Option (Fl × Vars × Sto)
structure BA where
  run : Evs → Fm → V → Sto → Option (Vars × Sto)
noncomputable def BE.no : BE := ⟨fun _ _ _ => .none⟩
noncomputable def BT.no : BT := ⟨fun _ _ _ => .none⟩
noncomputable def BS.no : BS := ⟨fun _ _ _ => .none⟩
noncomputable def BA.no : BA := ⟨fun _ _ _ _ => .none⟩

section
variable (P : Prog) (Ω : Str → List V → Sto → Option (V × Sto)) (R : Evs)

noncomputable def optInt (F : Fm) (σ : Sto) : Option Expr → Res (Option Int)
  | .none => some (.none, σ)
  | some e => match R.e F e σ with
    | some (.int i, σ) => some (some i, σ)
    | _ => .none

noncomputable def callG (f : Str) (as : List V) (σ : Sto) : Res V :=
  match P.fn f with
  | some d => (match Ω f as σ with
    | some r => some r
    | .none => R.c d as σ)
  | .none => match P.cls f with
    | some cd =>
      let n := (lenF σ)
      match R.c cd.init (.ref n :: as) (appF σ [.inst cd.addr (n + 1), .attrs []]) with
      | some (.none, σ) => some (.ref n, σ)
      | _ => .none
    | .none => (builtinV σ f as).map fun v => (v, σ)

noncomputable def freeOf (scope : Scope) (vars : Vars) : Vars := scope.names.filterMap fun (n, k) => match k with
  | .free => (look n vars).map fun v => (n, v)
  | _ => .none

/-- the tests of a comprehension -/
noncomputable def ifsC (F : Fm) : List Expr → Sto → Res Bool
  | [], σ => some (true, σ)
  | c :: r, σ => match R.t F c σ with
    | some (true, σ) => ifsC F r σ
    | x => x
/-- a new item at the end of the list in cell n -/
noncomputable def putL (n : Nat) (y : V) (σ : Sto) : Option Sto := match listAt σ n with
  | some l => if l.length ≤ 1000 then some (setF σ n (.list (l ++ [y]))) else .none
  | _ => .none
noncomputable def putD (n : Nat) (k : Int) (y : V) (σ : Sto) : Option Sto := match dictAt σ n with
  | some l => if l.length ≤ 1000 then some (setF σ n (.dict (dPut k y l))) else .none
  | _ => .none
/-- the runs of a comprehension's inmost loop: n the cell of the made list, r the turns to go, i the turn, m all the turns -/
noncomputable def compL (elt : Expr) (ifs : List Expr) (x : Str) (src : V) (n m : Nat) : Nat → Nat → Vars → Scope → Sto → Option (Vars × Sto)
  | 0, i, vars, _, σ => (match nextV σ m i src with
      | some .none => some (vars, σ)
      | _ => .none)
  | r + 1, i, vars, sc, σ => if !fitN src then .none else (match nextV σ m i src with
      | some (some v) => (match ifsC R ⟨sc, setv x v vars⟩ ifs σ with
          | some (true, σ) => (match R.e ⟨sc, setv x v vars⟩ elt σ with
              | some (y, σ) => (match putL n y σ with
                  | some σ => compL elt ifs x src n m r (i + 1) (setv x v vars) sc σ
                  | _ => .none)
              | _ => .none)
          | some (false, σ) => compL elt ifs x src n m r (i + 1) (setv x v vars) sc σ
          | _ => .none)
      | _ => .none)
noncomputable def compL2 (elt : Expr) (it2 : Expr) (ifs : List Expr) (x y : Str) (src : V) (n m : Nat) : Nat → Nat → Vars → Scope → Sto → Option (Vars × Sto)
  | 0, i, vars, _, σ => (match nextV σ m i src with
      | some .none => some (vars, σ)
      | _ => .none)
  | r + 1, i, vars, sc, σ => if !fitN src then .none else (match nextV σ m i src with
      | some (some v) => (match R.e ⟨sc, setv x v vars⟩ it2 σ with
          | some (w, σ) => (match startV σ w with
              | some (src2, m2) => if !fitN src2 then .none else (match compL R elt ifs y src2 n m2 m2 0 (setv x v vars) sc σ with
                  | some (vars, σ) => compL2 elt it2 ifs x y src n m r (i + 1) vars sc σ
                  | _ => .none)
              | _ => .none)
          | _ => .none)
      | _ => .none)
noncomputable def compD (k v : Expr) (x : Str) (src : V) (n m : Nat) : Nat → Nat → Vars → Scope → Sto → Option (Vars × Sto)
  | 0, i, vars, _, σ => (match nextV σ m i src with
      | some .none => some (vars, σ)
      | _ => .none)
  | r + 1, i, vars, sc, σ => if !fitN src then .none else (match nextV σ m i src with
      | some (some u) => (match R.e ⟨sc, setv x u vars⟩ k σ with
          | some (.int kv, σ) => (match R.e ⟨sc, setv x u vars⟩ v σ with
              | some (vv, σ) => (match putD n kv vv σ with
                  | some σ => compD k v x src n m r (i + 1) (setv x u vars) sc σ
                  | _ => .none)
              | _ => .none)
          | _ => .none)
      | _ => .none)

end
section
variable (P : Prog) (Ω : Str → List V → Sto → Option (V × Sto))
noncomputable def cE (ex : Expr) : BE := match ex with
  | .Constant c _ _ => ⟨fun R F σ => (match c with
      | .int i => some (.int i, σ)
      | .str s => some (.str s.cps.toList, σ)
      | _ => .none)⟩
  | .Name id _ => ⟨fun R F σ => (look id F.vars).map fun v => (v, σ)⟩
  | .Tuple es _ _ => ⟨fun R F σ => (match R.l F es σ with
      | some (l, σ) => if l.length ≤ 1000 then some (.tup l, σ) else .none
      | _ => .none)⟩
  | .List es _ => ⟨fun R F σ => (match R.l F es σ with
      | some (l, σ) => if l.length ≤ 1000 then some (.ref (lenF σ), appF σ [.list l]) else .none
      | _ => .none)⟩
  | .Dict ks vs _ => ⟨fun R F σ => (match ks, vs with
      | [], [] => some (.ref (lenF σ), appF σ [.dict []])
      | [some k], [v] => (match R.e F k (appF σ [.dict []]) with
          | some (.int kv, σ1) => (match R.e F v σ1 with
              | some (vv, σ2) => (match putD (lenF σ) kv vv σ2 with
                  | some σ3 => some (.ref (lenF σ), σ3)
                  | _ => .none)
              | _ => .none)
          | _ => .none)
      | _, _ => .none)⟩
  | .BinOp l op r _ => ⟨fun R F σ => (match R.e F l σ with
      | some (a, σ) => (match R.e F r σ with
          | some (b, σ) => binV σ op a b
          | _ => .none)
      | _ => .none)⟩
  | .UnaryOp op x _ => ⟨fun R F σ => (match op with
      | .USub => (match R.e F x σ with
          | some (.int i, σ) => some (.int (-i), σ)
          | _ => .none)
      | _ => .none)⟩
  | .Compare l ops rs _ => ⟨fun R F σ => (match ops, rs with
      | [op], [r] => if behindInMarks op r then .none else (match R.e F l σ with
          | some (a, σ) => (match R.e F r σ with
              | some (b, σ) => (cmpOp σ op a b).map fun c => (.bool c, σ)
              | _ => .none)
          | _ => .none)
      | _, _ => .none)⟩
  | .BoolOp op vs _ => ⟨fun R F σ => (match op, vs with
      | .Or, [a, b] => (match R.e F a σ with
          | some (.bool true, σ) => some (.bool true, σ)
          | some (.bool false, σ) => R.e F b σ
          | _ => .none)
      | _, _ => .none)⟩
  | .Subscript o sl _ => (match sl with
      | .Slice lo hi st _ => ⟨fun R F σ => (match R.e F o σ with
          | some (a, σ) => (match optInt R F σ lo with
              | some (lo, σ) => (match optInt R F σ hi with
                  | some (hi, σ) => (match optInt R F σ st with
                      | some (st, σ) => (sliceV σ a lo hi st).map fun v => (v, σ)
                      | _ => .none)
                  | _ => .none)
              | _ => .none)
          | _ => .none)⟩
      | i => ⟨fun R F σ => (match R.e F o σ with
          | some (a, σ) => (match R.e F i σ with
              | some (b, σ) => (indexV σ a b).map fun v => (v, σ)
              | _ => .none)
          | _ => .none)⟩)
  | .Attribute o a _ => (match o with
      | .Name c _ => ⟨fun R F σ => (match look c F.vars with
          | some (.ref i) => (match attrsAt σ i with
            | some (k, _, l) => if P.iattr k a then (look a l).map fun v => (v, σ) else .none
            | _ => .none)
          | some (.any t) => (P.oattr t a).map fun v => (v, σ)
          | some _ => .none
          | .none => if isGlob F c then (P.cattr c a).map fun v => (v, σ) else .none)⟩
      | _ => .no)
  | .Call f as ks pos => (match ks with
      | [] => (match f with
          | .Name g _ => ⟨fun R F σ =>
            if isGlob F g then
              (if (PySem.W.Fast.sEq g "isinstance") = true then (match as with
                | [a, .Name t _] => if t = "tuple" ∧ isGlob F t = true ∧ plainE a = true then (match R.e F a σ with
                    | some (.int _, σ) => some (.bool false, σ)
                    | _ => .none) else .none
                | _ => .none)
              else if !as.all plainE then .none else (match R.l F as σ with
                | some (vs, σ) => callG P Ω R g vs σ
                | _ => .none))
            else .none⟩
          | .Attribute o m apos => ⟨fun R F σ => if !(apos.endLine == pos.line && decide (as.length < 30) && recvOk o && as.all plainE) then .none else (match R.e F o σ with
              | some (ov, σ1) => (match ov with
                  | .str s => if m = "join" ∧ s = [] then (match R.l F as σ1 with
                      | some ([a], σ2) => (listOf? σ2 a).bind fun l => (strsOf l).bind fun ss => if (joinL ss).length ≤ 1000 then some (.str (joinL ss), σ2) else .none
                      | _ => .none) else .none
                  | .ref c => (match (getF σ1 c) with
                      | some (.list _) =>
                        if (PySem.W.Fast.sEq m "append") = true then (match R.l F as σ1 with
                          | some ([v], σ2) => (match listAt σ2 c with
                              | some l => if l.length ≤ 1000 then some (.none, setF σ2 c (.list (l ++ [v]))) else .none
                              | _ => .none)
                          | _ => .none)
                        else if (PySem.W.Fast.sEq m "pop") = true then (match R.l F as σ1 with
                          | some ([], σ2) => (match listAt σ2 c with
                              | some l => if l.length ≤ 1000 then (match l.getLast? with
                                | some v => some (v, setF σ2 c (.list l.dropLast))
                                | _ => .none) else .none
                              | _ => .none)
                          | _ => .none)
                        else .none
                      | some (.dict _) => if (PySem.W.Fast.sEq m "items") = true then (match R.l F as σ1 with
                          | some ([], σ2) => (match dictAt σ2 c with
                              | some _ => some (.its c, σ2)
                              | _ => .none)
                          | _ => .none) else .none
                      | some (.inst k d) => (match (getF σ1 d) with
                          | some (.attrs l) => if (look m l).isSome then .none else (match P.meth k m with
                            | some fd => (match R.l F as σ1 with
                                | some (vs, σ2) => R.c fd (ov :: vs) σ2
                                | _ => .none)
                            | _ => .none)
                          | _ => .none)
                      | _ => .none)
                  | .any t => (match P.ometh t m with
                      | some fd => (match R.l F as σ1 with
                          | some (vs, σ2) => (match Ω m (ov :: vs) σ2 with
                              | some r => some r
                              | .none => R.c fd (ov :: vs) σ2)
                          | _ => .none)
                      | _ => .none)
                  | _ => .none)
              | _ => .none)⟩
          | _ => .no)
      | _ => .no)
  | .ListComp elt gens scope _ => (match gens with
      | [⟨.Name x _, it, ifs, 0⟩] => ⟨fun R F σ => match F with | ⟨fsc, fvars⟩ => if !(compOk fsc scope [x] && noSet it) then .none else (match R.e ⟨fsc, fvars⟩ it σ with
          | some (w, σ) => (match startV σ w with
              | some (src, m) => if !fitN src then .none else (match compL R elt ifs x src (lenF σ) m m 0 (freeOf scope fvars) scope (appF σ [.list []]) with
                  | some (_, σ') => some (.ref (lenF σ), σ')
                  | _ => .none)
              | _ => .none)
          | _ => .none)⟩
      | [⟨.Name x _, it, [], 0⟩, ⟨.Name y _, it2, ifs, 0⟩] => ⟨fun R F σ => match F with | ⟨fsc, fvars⟩ => if !(compOk fsc scope [x, y] && noSet it && noSet it2) then .none else (match R.e ⟨fsc, fvars⟩ it σ with
          | some (w, σ) => (match startV σ w with
              | some (src, m) => if !fitN src then .none else (match compL2 R elt it2 ifs x y src (lenF σ) m m 0 (freeOf scope fvars) scope (appF σ [.list []]) with
                  | some (_, σ') => some (.ref (lenF σ), σ')
                  | _ => .none)
              | _ => .none)
          | _ => .none)⟩
      | _ => .no)
  | .DictComp k v gens scope _ => (match gens with
      | [⟨.Name x _, it, [], 0⟩] => ⟨fun R F σ => match F with | ⟨fsc, fvars⟩ => if !(compOk fsc scope [x] && noSet it) then .none else (match R.e ⟨fsc, fvars⟩ it σ with
          | some (w, σ) => (match startV σ w with
              | some (src, m) => if !fitN src then .none else (match compD R k v x src (lenF σ) m m 0 (freeOf scope fvars) scope (appF σ [.dict []]) with
                  | some (_, σ') => some (.ref (lenF σ), σ')
                  | _ => .none)
              | _ => .none)
          | _ => .none)⟩
      | _ => .no)
  | _ => .no
noncomputable def evE (R : Evs) (F : Fm) (ex : Expr) (σ : Sto) : Res V := (cE P Ω ex).run R F σ

end
section
variable (P : Prog) (Ω : Str → List V → Sto → Option (V × Sto)) (R : Evs)
noncomputable def evL (F : Fm) (es : List Expr) (σ : Sto) : Res (List V) := match es with
  | [] => some ([], σ)
  | e :: r => if !plainE e then .none else (match R.e F e σ with
      | some (v, σ) => (match R.l F r σ with
          | some (vs, σ) => some (v :: vs, σ)
          | _ => .none)
      | _ => .none)

noncomputable def testV (F : Fm) (ex : Expr) (σ : Sto) : Res Bool := match R.e F ex σ with
  | some (v, σ) => (truthyV σ v).map fun b => (b, σ)
  | _ => .none
end
noncomputable def cT (ex : Expr) : BT := match ex with
  | .UnaryOp op x _ => ⟨fun R F σ => (match op with
      | .Not => (R.t F x σ).map fun p => (!p.1, p.2)
      | _ => .none)⟩
  | .BoolOp op vs _ => ⟨fun R F σ => (match vs with
      | [a, b] => (match R.t F a σ with
          | some (x, σ) => (match op, x with
              | .And, false => some (false, σ)
              | .Or, true => some (true, σ)
              | _, _ => R.t F b σ)
          | _ => .none)
      | _ => .none)⟩
  | .Name .. => ⟨fun R F σ => testV R F ex σ⟩
  | .Compare _ [_] [_] _ => ⟨fun R F σ => testV R F ex σ⟩
  | .Call .. => ⟨fun R F σ => testV R F ex σ⟩
  | _ => .no
noncomputable def evT (R : Evs) (F : Fm) (ex : Expr) (σ : Sto) : Res Bool := (cT ex).run R F σ

section
variable (P : Prog) (Ω : Str → List V → Sto → Option (V × Sto)) (R : Evs)
noncomputable def setNames (sc : Scope) (vars : Vars) : List Expr → List V → Option Vars
  | [], [] => some vars
  | .Name x _ :: r, v :: vs => if storeOk sc x then setNames sc (setv x v vars) r vs else .none
  | _, _ => .none

end
section
variable (P : Prog)
noncomputable def cA (t : Expr) : BA := match t with
  | .Name x _ => ⟨fun R F v σ => if storeOk F.scope x then some (setv x v F.vars, σ) else .none⟩
  | .Tuple ts _ _ => ⟨fun R F v σ => (match v with
      | .tup vs => (setNames F.scope F.vars ts vs).map fun w => (w, σ)
      | _ => .none)⟩
  | .Attribute o a _ => ⟨fun R F v σ => (match R.e F o σ with
      | some (.ref c, σ) => (match attrsAt σ c with
          | some (k, d, l) => if P.iattr k a && decide (l.length ≤ 100) then some (F.vars, setF σ d (.attrs (setv a v l))) else .none
          | _ => .none)
      | _ => .none)⟩
  | .Subscript o i _ => ⟨fun R F v σ => (match R.e F o σ with
      | some (.ref c, σ) => (match R.e F i σ with
          | some (.int k, σ) => (match (getF σ c) with
              | some (.list l) => (place l.length k).map fun n => (F.vars, setF σ c (.list (l.set n v)))
              | some (.dict l) => if l.length ≤ 1000 then some (F.vars, setF σ c (.dict (dPut k v l))) else .none
              | _ => .none)
          | _ => .none)
      | _ => .none)⟩
  | _ => .no
noncomputable def assignV (R : Evs) (F : Fm) (t : Expr) (v : V) (σ : Sto) : Option (Vars × Sto) := (cA P t).run R F v σ
end
section
variable (P : Prog) (Ω : Str → List V → Sto → Option (V × Sto)) (R : Evs)
noncomputable def assignAllV (F : Fm) (ts : List Expr) (v : V) (σ : Sto) : Option (Vars × Sto) := match ts with
  | [] => some (F.vars, σ)
  | t :: r => (match assignV P R F t v σ with
      | some (vars, σ) => (match F with | ⟨sc, _⟩ => assignAllV ⟨sc, vars⟩ r v σ)
      | _ => .none)

noncomputable def forL (t : Expr) (body : List Stmt) (src : V) (m : Nat) : Nat → Nat → Fm → Sto → Option (Fl × Vars × Sto)
  | 0, i, F, σ => (match nextV σ m i src with
      | some .none => some (.next, F.vars, σ)
      | _ => .none)
  | r + 1, i, ⟨sc, vars⟩, σ => if !fitT t src then .none else (match nextV σ m i src with
    | some (some v) => (match assignV P R ⟨sc, vars⟩ t v σ with
      | some (vars, σ) => (match R.ss ⟨sc, vars⟩ body σ with
          | some (.next, vars, σ) => forL t body src m r (i + 1) ⟨sc, vars⟩ σ
          | some (.cont, vars, σ) => forL t body src m r (i + 1) ⟨sc, vars⟩ σ
          | some (.brk, vars, σ) => some (.next, vars, σ)
          | x => x)
      | _ => .none)
    | _ => .none)
noncomputable def whileL (test : Expr) (body : List Stmt) : Nat → Fm → Sto → Option (Fl × Vars × Sto)
  | 0, _, _ => .none
  | n + 1, ⟨sc, vars⟩, σ => match R.t ⟨sc, vars⟩ test σ with
    | some (false, σ) => some (.next, vars, σ)
    | some (true, σ) => (match R.ss ⟨sc, vars⟩ body σ with
        | some (.next, vars, σ) => whileL test body n ⟨sc, vars⟩ σ
        | some (.cont, vars, σ) => whileL test body n ⟨sc, vars⟩ σ
        | some (.brk, vars, σ) => some (.next, vars, σ)
        | x => x)
    | _ => .none

noncomputable def asgV (F : Fm) (ts : List Expr) (v : Expr) (σ : Sto) : Option (Fl × Vars × Sto) := match R.e F v σ with
  | some (v, σ) => (assignAllV P R F ts v σ).map fun p => (.next, p.1, p.2)
  | _ => .none
/-- an assignment that swaps nothing -/
noncomputable def plainAsg (ts : List Expr) (v : Expr) : Bool := match v with
  | .ListComp .. => false
  | .DictComp .. => false
  | .SetComp .. => false
  | .Tuple .. => (match ts with
    | [.Name ..] => true
    | [.Attribute ..] => true
    | _ => false)
  | _ => true
noncomputable def nameOf : Expr → Option (Str × Pos)
  | .Name a p => some (a, p)
  | _ => .none
noncomputable def attrForm : Expr → Bool
  | .Attribute .. => true
  | _ => false
noncomputable def tupForm : Expr → Option (List Expr)
  | .Tuple es _ _ => some es
  | _ => .none
/-- a, b = x.c, x.d -/
noncomputable def swapOf (ts : List Expr) (v : Expr) : Option (Str × Pos × Str × Pos) := match ts with
  | [t] => (match tupForm t, tupForm v with
    | some l, some m => (match pairOf l, pairOf m with
      | some (n1, n2), some (w1, w2) => if attrForm w1 && attrForm w2 then (match nameOf n1, nameOf n2 with
        | some (a, pa), some (b, pb) => some (a, pa, b, pb)
        | _, _ => .none) else .none
      | _, _ => .none)
    | _, _ => .none)
  | _ => .none
end
section
variable (P : Prog)
noncomputable def cS (st : Stmt) : BS := match st with
  | .Expr v _ => (match v with
      | .Call .. => ⟨fun R F σ => (match R.e F v σ with
          | some (_, σ) => some (.next, F.vars, σ)
          | _ => .none)⟩
      | _ => .no)
  | .Return o _ => ⟨fun R F σ => (match o with
      | some v => (match R.e F v σ with
          | some (v, σ) => some (.ret v, F.vars, σ)
          | _ => .none)
      | _ => .none)⟩
  | .Assign ts v _ => ⟨fun R F σ => if plainAsg ts v then asgV P R F ts v σ else (match swapOf ts v with
      | some (a, pa, b, pb) => if localOk F.scope a && localOk F.scope b && pa.line == pb.line && a != b then (match R.e F v σ with
          | some (w, σ) => (match asTup w with
            | some l => (match pairOf l with
              | some (x, y) => some (.next, setv a x (setv b y F.vars), σ)
              | .none => .none)
            | .none => .none)
          | .none => .none) else .none
      | .none => .none)⟩
  | .AugAssign t op v _ => (match t, op with
      | .Subscript o (.Name x px) _, .Add => ⟨fun R F σ => (match R.e F o σ with
          | some (.ref c, σ) => (match R.e F (.Name x px) σ with
              | some (.int k, σ) => (match dictAt σ c with
                  | some l => (match dLook k l with
                      | some (.int old) => (match R.e F v σ with
                          | some (.int x, σ) => (match dictAt σ c with
                              | some l => if l.length ≤ 1000 then some (.next, F.vars, setF σ c (.dict (dPut k (.int (old + x)) l))) else .none
                              | _ => .none)
                          | _ => .none)
                      | _ => .none)
                  | _ => .none)
              | _ => .none)
          | _ => .none)⟩
      | _, _ => .no)
  | .If test body orelse _ => ⟨fun R F σ => (match R.t F test σ with
      | some (true, σ) => R.ss F body σ
      | some (false, σ) => R.ss F orelse σ
      | _ => .none)⟩
  | .While test body orelse _ => ⟨fun R F σ => (match orelse with
      | [] => whileL R test body 64 F σ
      | _ => .none)⟩
  | .For t it body orelse _ => ⟨fun R F σ => (match orelse with
      | [] => if !noSet it then .none else (match R.e F it σ with
          | some (w, σ) => (match startV σ w with
              | some (src, m) => forL P R t body src m m 0 F σ
              | _ => .none)
          | _ => .none)
      | _ => .none)⟩
  | .Break _ => ⟨fun R F σ => some (.brk, F.vars, σ)⟩
  | .Continue _ => ⟨fun R F σ => some (.cont, F.vars, σ)⟩
  | _ => .no
noncomputable def evS (R : Evs) (F : Fm) (st : Stmt) (σ : Sto) : Option (Fl × Vars × Sto) := (cS P st).run R F σ

end
section
variable (P : Prog) (Ω : Str → List V → Sto → Option (V × Sto)) (R : Evs)
noncomputable def evSS (F : Fm) (b : List Stmt) (σ : Sto) : Option (Fl × Vars × Sto) := match b with
  | [] => some (.next, F.vars, σ)
  | s :: r => (match F with
    | ⟨sc, vars⟩ => (match R.s ⟨sc, vars⟩ s σ with
      | some (.next, vars, σ) => R.ss ⟨sc, vars⟩ r σ
      | x => x))

noncomputable def bindP : List Str → List V → Option Vars
  | [], [] => some []
  | x :: r, v :: vs => (bindP r vs).map ((x, v) :: ·)
  | _, _ => .none
noncomputable def evC (d : FDef) (as : List V) (σ : Sto) : Res V := match bindP d.params as with
  | some vars => (match R.ss ⟨d.scope, vars⟩ d.body σ with
      | some (.ret v, _, σ) => some (v, σ)
      | some (.next, _, σ) => some (.none, σ)
      | _ => .none)
  | .none => .none
end

noncomputable def ev (P : Prog) (Ω : Str → List V → Sto → Option (V × Sto)) : Nat → Evs
  | 0 => .none
  | n + 1 => ⟨evE P Ω (ev P Ω n), evL (ev P Ω n), evT (ev P Ω n), evS P (ev P Ω n), evSS (ev P Ω n), evC (ev P Ω n)⟩

-- the program's table
/-- a def that is plain: its names are local, cell or global, its parameters are stored -/
noncomputable def defOk (d : FDef) : Bool := namesOk d.scope && !d.scope.isCoroutine && !d.scope.isGenerator && d.params.all (storeOk d.scope) && decide ((d.scope.names.map (·.1)).Nodup) && decide d.params.Nodup && d.scope.names.all fun p => match p.2 with
  | .local => true
  | .cell => true
  | .globalImplicit => true
  | _ => false
noncomputable def defNamed (n : Str) : List Stmt → Option (Arguments × List Stmt × Scope)
  | [] => .none
  | .FunctionDef m a b _ _ _ sc _ _ _ :: r => if n = m then some (a, b, sc) else defNamed n r
  | _ :: r => defNamed n r
noncomputable def clsNamed (n : Str) : List Stmt → Option (List Stmt)
  | [] => .none
  | .ClassDef m _ _ b _ _ _ _ _ _ _ :: r => if n = m then some b else clsNamed n r
  | _ :: r => clsNamed n r
noncomputable def fdefOf (a : Addr) : Option (Arguments × List Stmt × Scope) → Option FDef
  | some (ar, b, sc) => some ⟨a, ar.args.map (·.arg), b, sc⟩
  | .none => .none
end HQ
end
section
set_option autoImplicit false
namespace HQ
open PySem
noncomputable def body0 : List Stmt := PySem.Challenge.pw_pg0247_01.main.body
noncomputable def clsB (n : Str) : List Stmt := match clsNamed n body0 with | some b => b | Option.none => []
noncomputable def mkF (a : Addr) (n : Str) (b : List Stmt) : FDef := match defNamed n b with
  | some (ar, bd, sc) => ⟨a, ar.args.map (·.arg), bd, sc⟩
  | Option.none => ⟨a, [], [], default⟩
noncomputable def fns : List (Str × FDef) := [
  ("heappush", mkF 28 "heappush" body0), ("heappop", mkF 35 "heappop" body0), ("heapreplace", mkF 42 "heapreplace" body0), ("_siftdown", mkF 49 "_siftdown" body0), ("_siftup", mkF 56 "_siftup" body0),
  ("add_callers", mkF 91 "add_callers" body0), ("_law_draws", mkF 162 "_law_draws" body0), ("_law_keys", mkF 169 "_law_keys" body0), ("_law_orders", mkF 176 "_law_orders" body0), ("_law_kinds", mkF 183 "_law_kinds" body0),
  ("_law_passed", mkF 188 "_law_passed" body0), ("_law_falls", mkF 193 "_law_falls" body0), ("_law_after", mkF 200 "_law_after" body0), ("_law_tables", mkF 205 "_law_tables" body0), ("_law_product", mkF 210 "_law_product" body0), ("law", mkF 215 "law" body0)]
noncomputable def tcM : List (Str × FDef) := [("compare", mkF 77 "compare" (clsB "TupleComp"))]
noncomputable def wsM : List (Str × FDef) := [("longest_run_of_spaces", mkF 115 "longest_run_of_spaces" (clsB "Whitespace")), ("indent_level", mkF 122 "indent_level" (clsB "Whitespace")), ("not_equal_witness", mkF 136 "not_equal_witness" (clsB "Whitespace"))]
noncomputable def clss : List (Str × CDef) := [("TupleComp", ⟨80, mkF 70 "__init__" (clsB "TupleComp")⟩), ("Whitespace", ⟨153, mkF 108 "__init__" (clsB "Whitespace")⟩)]
noncomputable def wsA : List (Str × V) := [("S", .str [32]), ("T", .str [9])]
noncomputable def tcI : List (Str × Unit) := [("comp_select_list", ())]
noncomputable def wsI : List (Str × Unit) := [("raw", ()), ("n", ()), ("nt", ()), ("norm", ()), ("is_simple", ())]
noncomputable def P0 : Prog where
  fn := fun n => look n fns
  cls := fun n => look n clss
  meth := fun a m => if a = 80 then look m tcM else if a = 153 then look m wsM else Option.none
  cattr := fun c a => if c = ("Whitespace" : Str) then look a wsA else Option.none
  iattr := fun a m => if a = 80 then (look m tcI).isSome else if a = 153 then (look m wsI).isSome else false
  oattr := fun _ _ => Option.none
  ometh := fun _ _ => Option.none
noncomputable def Ω0 : Str → List V → Sto → Option (V × Sto) := fun _ _ _ => Option.none
end HQ
end
section
set_option autoImplicit false
set_option linter.unusedVariables false
set_option maxRecDepth 100000
namespace HQ
open PySem
noncomputable def sN (l : List Nat) : Str := ⟨⟨l⟩⟩
noncomputable def dE (P : Params) (n : List Nat) (t : Nat) (v : Value) : DictEntry := ⟨PyData.keyHash P (sN n), .str (sN n) t, v⟩
noncomputable def d0 : Arguments × List Stmt × Scope := (⟨[], [], .none, [], [], .none, []⟩, [], default)
noncomputable def dTop (n : Str) : Arguments × List Stmt × Scope := match defNamed n body0 with | some d => d | .none => d0
noncomputable def dIn (c n : Str) : Arguments × List Stmt × Scope := match clsNamed c body0 with | some b => (match defNamed n b with | some d => d | .none => d0) | .none => d0
/-- the part of the heap that the law's walk asks, after the text's run -/
noncomputable def K39 : Params → List (Addr × Obj) := fun P => [
  (2, (Obj.mk Value.none .none (Data.dict (List.toArray []) 0) (List.toArray []))),
  (3, (Obj.mk (Value.type "dict") .none (Data.dict (List.toArray [(dE P [95, 95, 110, 97, 109, 101, 95, 95] 165 (Value.str (sN [108, 97, 119, 95, 112, 103, 48, 50, 52, 55, 95, 48, 49]) 405)), (dE P [95, 95, 100, 111, 99, 95, 95] 166 Value.none), (dE P [95, 95, 112, 97, 99, 107, 97, 103, 101, 95, 95] 167 Value.none), (dE P [95, 95, 108, 111, 97, 100, 101, 114, 95, 95] 168 (Value.builtin "__main__.__loader__#opaque")), (dE P [95, 95, 115, 112, 101, 99, 95, 95] 169 Value.none), (dE P [95, 95, 97, 110, 110, 111, 116, 97, 116, 105, 111, 110, 115, 95, 95] 170 (Value.ref 6)), (dE P [95, 95, 98, 117, 105, 108, 116, 105, 110, 115, 95, 95] 171 (Value.ref 4)), (dE P [95, 95, 102, 105, 108, 101, 95, 95] 173 (Value.str (sN [47, 99, 108, 97, 105, 109, 47, 99, 117, 116, 46, 112, 121]) 172)), (dE P [95, 95, 99, 97, 99, 104, 101, 100, 95, 95] 174 Value.none), (dE P [95, 119, 97, 108, 108] 193 (Value.ref 21)), (dE P [104, 101, 97, 112, 112, 117, 115, 104] 203 (Value.ref 28)), (dE P [104, 101, 97, 112, 112, 111, 112] 212 (Value.ref 35)), (dE P [104, 101, 97, 112, 114, 101, 112, 108, 97, 99, 101] 221 (Value.ref 42)), (dE P [95, 115, 105, 102, 116, 100, 111, 119, 110] 233 (Value.ref 49)), (dE P [95, 115, 105, 102, 116, 117, 112] 246 (Value.ref 56)), (dE P [84, 117, 112, 108, 101, 67, 111, 109, 112] 290 (Value.ref 80)), (dE P [97, 100, 100, 95, 99, 97, 108, 108, 101, 114, 115] 301 (Value.ref 91)), (dE P [87, 104, 105, 116, 101, 115, 112, 97, 99, 101] 404 (Value.ref 153)), (dE P [95, 108, 97, 119, 95, 100, 114, 97, 119, 115] 412 (Value.ref 162)), (dE P [95, 108, 97, 119, 95, 107, 101, 121, 115] 420 (Value.ref 169)), (dE P [95, 108, 97, 119, 95, 111, 114, 100, 101, 114, 115] 431 (Value.ref 176)), (dE P [95, 108, 97, 119, 95, 107, 105, 110, 100, 115] 446 (Value.ref 183)), (dE P [95, 108, 97, 119, 95, 112, 97, 115, 115, 101, 100] 452 (Value.ref 188)), (dE P [95, 108, 97, 119, 95, 102, 97, 108, 108, 115] 458 (Value.ref 193)), (dE P [95, 108, 97, 119, 95, 97, 102, 116, 101, 114] 469 (Value.ref 200)), (dE P [95, 108, 97, 119, 95, 116, 97, 98, 108, 101, 115] 475 (Value.ref 205)), (dE P [95, 108, 97, 119, 95, 112, 114, 111, 100, 117, 99, 116] 481 (Value.ref 210)), (dE P [108, 97, 119] 487 (Value.ref 215))]) 28) (List.toArray []))),
  (20, (Obj.mk (Value.type "code") .none (Data.fields (List.toArray [(Value.str (sN [95, 119, 97, 108, 108]) 187), (Value.str (sN [95, 119, 97, 108, 108]) 188), (Value.str (sN [47, 99, 108, 97, 105, 109, 47, 99, 117, 116, 46, 112, 121]) 189), (Value.int 1 0), (Value.int 1 0), (Value.int 0 0), (Value.int 0 0), (Value.int 3 0), (Value.ref 15), (Value.bool Bool.true), (Value.int 181 0), (Value.ref 16), Value.none, (Value.ref 17), (Value.ref 18), (Value.ref 19), (Value.int 191 0), (Value.int 1 0), (Value.str (sN [47, 99, 108, 97, 105, 109, 47, 99, 117, 116, 46, 112, 121]) 192)])) (List.toArray []))),
  (21, (Obj.mk (Value.type "function") .none (Data.func (FuncData.mk (sN [95, 119, 97, 108, 108]) (sN [95, 119, 97, 108, 108]) (dTop (sN [95, 119, 97, 108, 108])).1 (.stmts (dTop (sN [95, 119, 97, 108, 108])).2.1) (dTop (sN [95, 119, 97, 108, 108])).2.2 3 [] Value.none Value.none Value.none (Value.str (sN [95, 95, 109, 97, 105, 110, 95, 95]) 164) .none (Value.ref 20) Value.none 0)) (List.toArray []))),
  (27, (Obj.mk (Value.type "code") .none (Data.fields (List.toArray [(Value.str (sN [104, 101, 97, 112, 112, 117, 115, 104]) 196), (Value.str (sN [104, 101, 97, 112, 112, 117, 115, 104]) 197), (Value.str (sN [47, 99, 108, 97, 105, 109, 47, 99, 117, 116, 46, 112, 121]) 198), (Value.int 5 0), (Value.int 2 0), (Value.int 0 0), (Value.int 0 0), (Value.int 3 0), (Value.ref 22), (Value.bool Bool.true), (Value.int 181 0), (Value.ref 23), Value.none, (Value.ref 24), (Value.ref 25), (Value.ref 26), (Value.int 201 0), (Value.int 5 0), (Value.str (sN [47, 99, 108, 97, 105, 109, 47, 99, 117, 116, 46, 112, 121]) 202)])) (List.toArray []))),
  (28, (Obj.mk (Value.type "function") .none (Data.func (FuncData.mk (sN [104, 101, 97, 112, 112, 117, 115, 104]) (sN [104, 101, 97, 112, 112, 117, 115, 104]) (dTop (sN [104, 101, 97, 112, 112, 117, 115, 104])).1 (.stmts (dTop (sN [104, 101, 97, 112, 112, 117, 115, 104])).2.1) (dTop (sN [104, 101, 97, 112, 112, 117, 115, 104])).2.2 3 [] Value.none Value.none Value.none (Value.str (sN [99, 112, 121, 51, 49, 51, 46, 104, 101, 97, 112, 113]) 194) .none (Value.ref 27) Value.none 0)) (List.toArray []))),
  (34, (Obj.mk (Value.type "code") .none (Data.fields (List.toArray [(Value.str (sN [104, 101, 97, 112, 112, 111, 112]) 204), (Value.str (sN [104, 101, 97, 112, 112, 111, 112]) 205), (Value.str (sN [47, 99, 108, 97, 105, 109, 47, 99, 117, 116, 46, 112, 121]) 206), (Value.int 8 0), (Value.int 1 0), (Value.int 0 0), (Value.int 0 0), (Value.int 3 0), (Value.ref 29), (Value.bool Bool.true), (Value.int 181 0), (Value.ref 30), Value.none, (Value.ref 31), (Value.ref 32), (Value.ref 33), (Value.int 210 0), (Value.int 8 0), (Value.str (sN [47, 99, 108, 97, 105, 109, 47, 99, 117, 116, 46, 112, 121]) 211)])) (List.toArray []))),
  (35, (Obj.mk (Value.type "function") .none (Data.func (FuncData.mk (sN [104, 101, 97, 112, 112, 111, 112]) (sN [104, 101, 97, 112, 112, 111, 112]) (dTop (sN [104, 101, 97, 112, 112, 111, 112])).1 (.stmts (dTop (sN [104, 101, 97, 112, 112, 111, 112])).2.1) (dTop (sN [104, 101, 97, 112, 112, 111, 112])).2.2 3 [] Value.none Value.none Value.none (Value.str (sN [99, 112, 121, 51, 49, 51, 46, 104, 101, 97, 112, 113]) 194) .none (Value.ref 34) Value.none 0)) (List.toArray []))),
  (41, (Obj.mk (Value.type "code") .none (Data.fields (List.toArray [(Value.str (sN [104, 101, 97, 112, 114, 101, 112, 108, 97, 99, 101]) 213), (Value.str (sN [104, 101, 97, 112, 114, 101, 112, 108, 97, 99, 101]) 214), (Value.str (sN [47, 99, 108, 97, 105, 109, 47, 99, 117, 116, 46, 112, 121]) 215), (Value.int 16 0), (Value.int 2 0), (Value.int 0 0), (Value.int 0 0), (Value.int 3 0), (Value.ref 36), (Value.bool Bool.true), (Value.int 181 0), (Value.ref 37), Value.none, (Value.ref 38), (Value.ref 39), (Value.ref 40), (Value.int 219 0), (Value.int 16 0), (Value.str (sN [47, 99, 108, 97, 105, 109, 47, 99, 117, 116, 46, 112, 121]) 220)])) (List.toArray []))),
  (42, (Obj.mk (Value.type "function") .none (Data.func (FuncData.mk (sN [104, 101, 97, 112, 114, 101, 112, 108, 97, 99, 101]) (sN [104, 101, 97, 112, 114, 101, 112, 108, 97, 99, 101]) (dTop (sN [104, 101, 97, 112, 114, 101, 112, 108, 97, 99, 101])).1 (.stmts (dTop (sN [104, 101, 97, 112, 114, 101, 112, 108, 97, 99, 101])).2.1) (dTop (sN [104, 101, 97, 112, 114, 101, 112, 108, 97, 99, 101])).2.2 3 [] Value.none Value.none Value.none (Value.str (sN [99, 112, 121, 51, 49, 51, 46, 104, 101, 97, 112, 113]) 194) .none (Value.ref 41) Value.none 0)) (List.toArray []))),
  (48, (Obj.mk (Value.type "code") .none (Data.fields (List.toArray [(Value.str (sN [95, 115, 105, 102, 116, 100, 111, 119, 110]) 222), (Value.str (sN [95, 115, 105, 102, 116, 100, 111, 119, 110]) 223), (Value.str (sN [47, 99, 108, 97, 105, 109, 47, 99, 117, 116, 46, 112, 121]) 224), (Value.int 21 0), (Value.int 3 0), (Value.int 0 0), (Value.int 0 0), (Value.int 3 0), (Value.ref 43), (Value.bool Bool.true), (Value.int 181 0), (Value.ref 44), Value.none, (Value.ref 45), (Value.ref 46), (Value.ref 47), (Value.int 231 0), (Value.int 21 0), (Value.str (sN [47, 99, 108, 97, 105, 109, 47, 99, 117, 116, 46, 112, 121]) 232)])) (List.toArray []))),
  (49, (Obj.mk (Value.type "function") .none (Data.func (FuncData.mk (sN [95, 115, 105, 102, 116, 100, 111, 119, 110]) (sN [95, 115, 105, 102, 116, 100, 111, 119, 110]) (dTop (sN [95, 115, 105, 102, 116, 100, 111, 119, 110])).1 (.stmts (dTop (sN [95, 115, 105, 102, 116, 100, 111, 119, 110])).2.1) (dTop (sN [95, 115, 105, 102, 116, 100, 111, 119, 110])).2.2 3 [] Value.none Value.none Value.none (Value.str (sN [99, 112, 121, 51, 49, 51, 46, 104, 101, 97, 112, 113]) 194) .none (Value.ref 48) Value.none 0)) (List.toArray []))),
  (55, (Obj.mk (Value.type "code") .none (Data.fields (List.toArray [(Value.str (sN [95, 115, 105, 102, 116, 117, 112]) 234), (Value.str (sN [95, 115, 105, 102, 116, 117, 112]) 235), (Value.str (sN [47, 99, 108, 97, 105, 109, 47, 99, 117, 116, 46, 112, 121]) 236), (Value.int 32 0), (Value.int 2 0), (Value.int 0 0), (Value.int 0 0), (Value.int 3 0), (Value.ref 50), (Value.bool Bool.true), (Value.int 181 0), (Value.ref 51), Value.none, (Value.ref 52), (Value.ref 53), (Value.ref 54), (Value.int 244 0), (Value.int 32 0), (Value.str (sN [47, 99, 108, 97, 105, 109, 47, 99, 117, 116, 46, 112, 121]) 245)])) (List.toArray []))),
  (56, (Obj.mk (Value.type "function") .none (Data.func (FuncData.mk (sN [95, 115, 105, 102, 116, 117, 112]) (sN [95, 115, 105, 102, 116, 117, 112]) (dTop (sN [95, 115, 105, 102, 116, 117, 112])).1 (.stmts (dTop (sN [95, 115, 105, 102, 116, 117, 112])).2.1) (dTop (sN [95, 115, 105, 102, 116, 117, 112])).2.2 3 [] Value.none Value.none Value.none (Value.str (sN [99, 112, 121, 51, 49, 51, 46, 104, 101, 97, 112, 113]) 194) .none (Value.ref 55) Value.none 0)) (List.toArray []))),
  (69, (Obj.mk (Value.type "code") .none (Data.fields (List.toArray [(Value.str (sN [95, 95, 105, 110, 105, 116, 95, 95]) 261), (Value.str (sN [84, 117, 112, 108, 101, 67, 111, 109, 112, 46, 95, 95, 105, 110, 105, 116, 95, 95]) 262), (Value.str (sN [47, 99, 108, 97, 105, 109, 47, 99, 117, 116, 46, 112, 121]) 263), (Value.int 49 0), (Value.int 2 0), (Value.int 0 0), (Value.int 0 0), (Value.int 3 0), (Value.ref 64), (Value.bool Bool.true), (Value.int 181 0), (Value.ref 65), Value.none, (Value.ref 66), (Value.ref 67), (Value.ref 68), (Value.int 266 0), (Value.int 49 0), (Value.str (sN [47, 99, 108, 97, 105, 109, 47, 99, 117, 116, 46, 112, 121]) 267)])) (List.toArray []))),
  (70, (Obj.mk (Value.type "function") .none (Data.func (FuncData.mk (sN [95, 95, 105, 110, 105, 116, 95, 95]) (sN [84, 117, 112, 108, 101, 67, 111, 109, 112, 46, 95, 95, 105, 110, 105, 116, 95, 95]) (dIn (sN [84, 117, 112, 108, 101, 67, 111, 109, 112]) (sN [95, 95, 105, 110, 105, 116, 95, 95])).1 (.stmts (dIn (sN [84, 117, 112, 108, 101, 67, 111, 109, 112]) (sN [95, 95, 105, 110, 105, 116, 95, 95])).2.1) (dIn (sN [84, 117, 112, 108, 101, 67, 111, 109, 112]) (sN [95, 95, 105, 110, 105, 116, 95, 95])).2.2 3 [] Value.none Value.none Value.none (Value.str (sN [99, 112, 121, 51, 49, 51, 46, 112, 115, 116, 97, 116, 115]) 247) .none (Value.ref 69) Value.none 0)) (List.toArray []))),
  (76, (Obj.mk (Value.type "code") .none (Data.fields (List.toArray [(Value.str (sN [99, 111, 109, 112, 97, 114, 101]) 269), (Value.str (sN [84, 117, 112, 108, 101, 67, 111, 109, 112, 46, 99, 111, 109, 112, 97, 114, 101]) 270), (Value.str (sN [47, 99, 108, 97, 105, 109, 47, 99, 117, 116, 46, 112, 121]) 271), (Value.int 52 0), (Value.int 3 0), (Value.int 0 0), (Value.int 0 0), (Value.int 3 0), (Value.ref 71), (Value.bool Bool.true), (Value.int 181 0), (Value.ref 72), Value.none, (Value.ref 73), (Value.ref 74), (Value.ref 75), (Value.int 279 0), (Value.int 52 0), (Value.str (sN [47, 99, 108, 97, 105, 109, 47, 99, 117, 116, 46, 112, 121]) 280)])) (List.toArray []))),
  (77, (Obj.mk (Value.type "function") .none (Data.func (FuncData.mk (sN [99, 111, 109, 112, 97, 114, 101]) (sN [84, 117, 112, 108, 101, 67, 111, 109, 112, 46, 99, 111, 109, 112, 97, 114, 101]) (dIn (sN [84, 117, 112, 108, 101, 67, 111, 109, 112]) (sN [99, 111, 109, 112, 97, 114, 101])).1 (.stmts (dIn (sN [84, 117, 112, 108, 101, 67, 111, 109, 112]) (sN [99, 111, 109, 112, 97, 114, 101])).2.1) (dIn (sN [84, 117, 112, 108, 101, 67, 111, 109, 112]) (sN [99, 111, 109, 112, 97, 114, 101])).2.2 3 [] Value.none Value.none Value.none (Value.str (sN [99, 112, 121, 51, 49, 51, 46, 112, 115, 116, 97, 116, 115]) 247) .none (Value.ref 76) Value.none 0)) (List.toArray []))),
  (79, (Obj.mk (Value.type "dict") .none (Data.dict (List.toArray [(dE P [95, 95, 109, 111, 100, 117, 108, 101, 95, 95] 256 (Value.str (sN [99, 112, 121, 51, 49, 51, 46, 112, 115, 116, 97, 116, 115]) 247)), (dE P [95, 95, 102, 105, 114, 115, 116, 108, 105, 110, 101, 110, 111, 95, 95] 260 (Value.int 47 259)), (dE P [95, 95, 105, 110, 105, 116, 95, 95] 268 (Value.ref 70)), (dE P [99, 111, 109, 112, 97, 114, 101] 281 (Value.ref 77)), (dE P [95, 95, 115, 116, 97, 116, 105, 99, 95, 97, 116, 116, 114, 105, 98, 117, 116, 101, 115, 95, 95] 283 (Value.ref 78)), (dE P [95, 95, 100, 105, 99, 116, 95, 95] 285 (Value.ref 81)), (dE P [95, 95, 119, 101, 97, 107, 114, 101, 102, 95, 95] 287 (Value.ref 82)), (dE P [95, 95, 100, 111, 99, 95, 95] 288 Value.none)]) 4) (List.toArray []))),
  (80, (Obj.mk (Value.type "type") .none (Data.cls (ClassData.mk (sN [84, 117, 112, 108, 101, 67, 111, 109, 112]) [(Value.type "object")] [(Value.ref 80), (Value.type "object")] 79 (sN [84, 117, 112, 108, 101, 67, 111, 109, 112]) Bool.true [] [] Bool.false .none Bool.false)) (List.toArray [.none, .none, (Option.some (Value.str (sN [84, 117, 112, 108, 101, 67, 111, 109, 112]) 249)), (Option.some (Value.str (sN [84, 117, 112, 108, 101, 67, 111, 109, 112]) 257)), (Option.some (Value.builtin "object.__new__")), (Option.some (Value.bool Bool.true))]))),
  (81, (Obj.mk (Value.type "getset_descriptor") .none (Data.fields (List.toArray [(Value.str (sN [95, 95, 100, 105, 99, 116, 95, 95]) 284), (Value.ref 80), (Value.builtin "function.__dict__"), (Value.builtin "function.__dict__#set")])) (List.toArray []))),
  (82, (Obj.mk (Value.type "getset_descriptor") .none (Data.fields (List.toArray [(Value.str (sN [95, 95, 119, 101, 97, 107, 114, 101, 102, 95, 95]) 286), (Value.ref 80), (Value.builtin "ExceptionGroup.__weakref__"), Value.none])) (List.toArray []))),
  (90, (Obj.mk (Value.type "code") .none (Data.fields (List.toArray [(Value.str (sN [97, 100, 100, 95, 99, 97, 108, 108, 101, 114, 115]) 291), (Value.str (sN [97, 100, 100, 95, 99, 97, 108, 108, 101, 114, 115]) 292), (Value.str (sN [47, 99, 108, 97, 105, 109, 47, 99, 117, 116, 46, 112, 121]) 293), (Value.int 61 0), (Value.int 2 0), (Value.int 0 0), (Value.int 0 0), (Value.int 3 0), (Value.ref 85), (Value.bool Bool.true), (Value.int 181 0), (Value.ref 86), Value.none, (Value.ref 87), (Value.ref 88), (Value.ref 89), (Value.int 299 0), (Value.int 61 0), (Value.str (sN [47, 99, 108, 97, 105, 109, 47, 99, 117, 116, 46, 112, 121]) 300)])) (List.toArray []))),
  (91, (Obj.mk (Value.type "function") .none (Data.func (FuncData.mk (sN [97, 100, 100, 95, 99, 97, 108, 108, 101, 114, 115]) (sN [97, 100, 100, 95, 99, 97, 108, 108, 101, 114, 115]) (dTop (sN [97, 100, 100, 95, 99, 97, 108, 108, 101, 114, 115])).1 (.stmts (dTop (sN [97, 100, 100, 95, 99, 97, 108, 108, 101, 114, 115])).2.1) (dTop (sN [97, 100, 100, 95, 99, 97, 108, 108, 101, 114, 115])).2.2 3 [] Value.none Value.none Value.none (Value.str (sN [99, 112, 121, 51, 49, 51, 46, 112, 115, 116, 97, 116, 115]) 247) .none (Value.ref 90) Value.none 0)) (List.toArray []))),
  (107, (Obj.mk (Value.type "code") .none (Data.fields (List.toArray [(Value.str (sN [95, 95, 105, 110, 105, 116, 95, 95]) 321), (Value.str (sN [87, 104, 105, 116, 101, 115, 112, 97, 99, 101, 46, 95, 95, 105, 110, 105, 116, 95, 95]) 322), (Value.str (sN [47, 99, 108, 97, 105, 109, 47, 99, 117, 116, 46, 112, 121]) 323), (Value.int 78 0), (Value.int 2 0), (Value.int 0 0), (Value.int 0 0), (Value.int 3 0), (Value.ref 102), (Value.bool Bool.true), (Value.int 181 0), (Value.ref 103), Value.none, (Value.ref 104), (Value.ref 105), (Value.ref 106), (Value.int 333 0), (Value.int 78 0), (Value.str (sN [47, 99, 108, 97, 105, 109, 47, 99, 117, 116, 46, 112, 121]) 334)])) (List.toArray []))),
  (108, (Obj.mk (Value.type "function") .none (Data.func (FuncData.mk (sN [95, 95, 105, 110, 105, 116, 95, 95]) (sN [87, 104, 105, 116, 101, 115, 112, 97, 99, 101, 46, 95, 95, 105, 110, 105, 116, 95, 95]) (dIn (sN [87, 104, 105, 116, 101, 115, 112, 97, 99, 101]) (sN [95, 95, 105, 110, 105, 116, 95, 95])).1 (.stmts (dIn (sN [87, 104, 105, 116, 101, 115, 112, 97, 99, 101]) (sN [95, 95, 105, 110, 105, 116, 95, 95])).2.1) (dIn (sN [87, 104, 105, 116, 101, 115, 112, 97, 99, 101]) (sN [95, 95, 105, 110, 105, 116, 95, 95])).2.2 3 [] Value.none Value.none Value.none (Value.str (sN [99, 112, 121, 51, 49, 51, 46, 116, 97, 98, 110, 97, 110, 110, 121]) 302) .none (Value.ref 107) Value.none 0)) (List.toArray []))),
  (114, (Obj.mk (Value.type "code") .none (Data.fields (List.toArray [(Value.str (sN [108, 111, 110, 103, 101, 115, 116, 95, 114, 117, 110, 95, 111, 102, 95, 115, 112, 97, 99, 101, 115]) 336), (Value.str (sN [87, 104, 105, 116, 101, 115, 112, 97, 99, 101, 46, 108, 111, 110, 103, 101, 115, 116, 95, 114, 117, 110, 95, 111, 102, 95, 115, 112, 97, 99, 101, 115]) 337), (Value.str (sN [47, 99, 108, 97, 105, 109, 47, 99, 117, 116, 46, 112, 121]) 338), (Value.int 101 0), (Value.int 1 0), (Value.int 0 0), (Value.int 0 0), (Value.int 3 0), (Value.ref 109), (Value.bool Bool.true), (Value.int 181 0), (Value.ref 110), Value.none, (Value.ref 111), (Value.ref 112), (Value.ref 113), (Value.int 342 0), (Value.int 101 0), (Value.str (sN [47, 99, 108, 97, 105, 109, 47, 99, 117, 116, 46, 112, 121]) 343)])) (List.toArray []))),
  (115, (Obj.mk (Value.type "function") .none (Data.func (FuncData.mk (sN [108, 111, 110, 103, 101, 115, 116, 95, 114, 117, 110, 95, 111, 102, 95, 115, 112, 97, 99, 101, 115]) (sN [87, 104, 105, 116, 101, 115, 112, 97, 99, 101, 46, 108, 111, 110, 103, 101, 115, 116, 95, 114, 117, 110, 95, 111, 102, 95, 115, 112, 97, 99, 101, 115]) (dIn (sN [87, 104, 105, 116, 101, 115, 112, 97, 99, 101]) (sN [108, 111, 110, 103, 101, 115, 116, 95, 114, 117, 110, 95, 111, 102, 95, 115, 112, 97, 99, 101, 115])).1 (.stmts (dIn (sN [87, 104, 105, 116, 101, 115, 112, 97, 99, 101]) (sN [108, 111, 110, 103, 101, 115, 116, 95, 114, 117, 110, 95, 111, 102, 95, 115, 112, 97, 99, 101, 115])).2.1) (dIn (sN [87, 104, 105, 116, 101, 115, 112, 97, 99, 101]) (sN [108, 111, 110, 103, 101, 115, 116, 95, 114, 117, 110, 95, 111, 102, 95, 115, 112, 97, 99, 101, 115])).2.2 3 [] Value.none Value.none Value.none (Value.str (sN [99, 112, 121, 51, 49, 51, 46, 116, 97, 98, 110, 97, 110, 110, 121]) 302) .none (Value.ref 114) Value.none 0)) (List.toArray []))),
  (121, (Obj.mk (Value.type "code") .none (Data.fields (List.toArray [(Value.str (sN [105, 110, 100, 101, 110, 116, 95, 108, 101, 118, 101, 108]) 345), (Value.str (sN [87, 104, 105, 116, 101, 115, 112, 97, 99, 101, 46, 105, 110, 100, 101, 110, 116, 95, 108, 101, 118, 101, 108]) 346), (Value.str (sN [47, 99, 108, 97, 105, 109, 47, 99, 117, 116, 46, 112, 121]) 347), (Value.int 105 0), (Value.int 2 0), (Value.int 0 0), (Value.int 0 0), (Value.int 3 0), (Value.ref 116), (Value.bool Bool.true), (Value.int 181 0), (Value.ref 117), Value.none, (Value.ref 118), (Value.ref 119), (Value.ref 120), (Value.int 354 0), (Value.int 105 0), (Value.str (sN [47, 99, 108, 97, 105, 109, 47, 99, 117, 116, 46, 112, 121]) 355)])) (List.toArray []))),
  (122, (Obj.mk (Value.type "function") .none (Data.func (FuncData.mk (sN [105, 110, 100, 101, 110, 116, 95, 108, 101, 118, 101, 108]) (sN [87, 104, 105, 116, 101, 115, 112, 97, 99, 101, 46, 105, 110, 100, 101, 110, 116, 95, 108, 101, 118, 101, 108]) (dIn (sN [87, 104, 105, 116, 101, 115, 112, 97, 99, 101]) (sN [105, 110, 100, 101, 110, 116, 95, 108, 101, 118, 101, 108])).1 (.stmts (dIn (sN [87, 104, 105, 116, 101, 115, 112, 97, 99, 101]) (sN [105, 110, 100, 101, 110, 116, 95, 108, 101, 118, 101, 108])).2.1) (dIn (sN [87, 104, 105, 116, 101, 115, 112, 97, 99, 101]) (sN [105, 110, 100, 101, 110, 116, 95, 108, 101, 118, 101, 108])).2.2 3 [] Value.none Value.none Value.none (Value.str (sN [99, 112, 121, 51, 49, 51, 46, 116, 97, 98, 110, 97, 110, 110, 121]) 302) .none (Value.ref 121) Value.none 0)) (List.toArray []))),
  (128, (Obj.mk (Value.type "code") .none (Data.fields (List.toArray [(Value.str (sN [101, 113, 117, 97, 108]) 357), (Value.str (sN [87, 104, 105, 116, 101, 115, 112, 97, 99, 101, 46, 101, 113, 117, 97, 108]) 358), (Value.str (sN [47, 99, 108, 97, 105, 109, 47, 99, 117, 116, 46, 112, 121]) 359), (Value.int 112 0), (Value.int 2 0), (Value.int 0 0), (Value.int 0 0), (Value.int 3 0), (Value.ref 123), (Value.bool Bool.true), (Value.int 181 0), (Value.ref 124), Value.none, (Value.ref 125), (Value.ref 126), (Value.ref 127), (Value.int 362 0), (Value.int 112 0), (Value.str (sN [47, 99, 108, 97, 105, 109, 47, 99, 117, 116, 46, 112, 121]) 363)])) (List.toArray []))),
  (129, (Obj.mk (Value.type "function") .none (Data.func (FuncData.mk (sN [101, 113, 117, 97, 108]) (sN [87, 104, 105, 116, 101, 115, 112, 97, 99, 101, 46, 101, 113, 117, 97, 108]) (dIn (sN [87, 104, 105, 116, 101, 115, 112, 97, 99, 101]) (sN [101, 113, 117, 97, 108])).1 (.stmts (dIn (sN [87, 104, 105, 116, 101, 115, 112, 97, 99, 101]) (sN [101, 113, 117, 97, 108])).2.1) (dIn (sN [87, 104, 105, 116, 101, 115, 112, 97, 99, 101]) (sN [101, 113, 117, 97, 108])).2.2 3 [] Value.none Value.none Value.none (Value.str (sN [99, 112, 121, 51, 49, 51, 46, 116, 97, 98, 110, 97, 110, 110, 121]) 302) .none (Value.ref 128) Value.none 0)) (List.toArray []))),
  (135, (Obj.mk (Value.type "code") .none (Data.fields (List.toArray [(Value.str (sN [110, 111, 116, 95, 101, 113, 117, 97, 108, 95, 119, 105, 116, 110, 101, 115, 115]) 365), (Value.str (sN [87, 104, 105, 116, 101, 115, 112, 97, 99, 101, 46, 110, 111, 116, 95, 101, 113, 117, 97, 108, 95, 119, 105, 116, 110, 101, 115, 115]) 366), (Value.str (sN [47, 99, 108, 97, 105, 109, 47, 99, 117, 116, 46, 112, 121]) 367), (Value.int 115 0), (Value.int 2 0), (Value.int 0 0), (Value.int 0 0), (Value.int 3 0), (Value.ref 130), (Value.bool Bool.true), (Value.int 181 0), (Value.ref 131), Value.none, (Value.ref 132), (Value.ref 133), (Value.ref 134), (Value.int 373 0), (Value.int 115 0), (Value.str (sN [47, 99, 108, 97, 105, 109, 47, 99, 117, 116, 46, 112, 121]) 374)])) (List.toArray []))),
  (136, (Obj.mk (Value.type "function") .none (Data.func (FuncData.mk (sN [110, 111, 116, 95, 101, 113, 117, 97, 108, 95, 119, 105, 116, 110, 101, 115, 115]) (sN [87, 104, 105, 116, 101, 115, 112, 97, 99, 101, 46, 110, 111, 116, 95, 101, 113, 117, 97, 108, 95, 119, 105, 116, 110, 101, 115, 115]) (dIn (sN [87, 104, 105, 116, 101, 115, 112, 97, 99, 101]) (sN [110, 111, 116, 95, 101, 113, 117, 97, 108, 95, 119, 105, 116, 110, 101, 115, 115])).1 (.stmts (dIn (sN [87, 104, 105, 116, 101, 115, 112, 97, 99, 101]) (sN [110, 111, 116, 95, 101, 113, 117, 97, 108, 95, 119, 105, 116, 110, 101, 115, 115])).2.1) (dIn (sN [87, 104, 105, 116, 101, 115, 112, 97, 99, 101]) (sN [110, 111, 116, 95, 101, 113, 117, 97, 108, 95, 119, 105, 116, 110, 101, 115, 115])).2.2 3 [] Value.none Value.none Value.none (Value.str (sN [99, 112, 121, 51, 49, 51, 46, 116, 97, 98, 110, 97, 110, 110, 121]) 302) .none (Value.ref 135) Value.none 0)) (List.toArray []))),
  (142, (Obj.mk (Value.type "code") .none (Data.fields (List.toArray [(Value.str (sN [108, 101, 115, 115]) 376), (Value.str (sN [87, 104, 105, 116, 101, 115, 112, 97, 99, 101, 46, 108, 101, 115, 115]) 377), (Value.str (sN [47, 99, 108, 97, 105, 109, 47, 99, 117, 116, 46, 112, 121]) 378), (Value.int 123 0), (Value.int 2 0), (Value.int 0 0), (Value.int 0 0), (Value.int 3 0), (Value.ref 137), (Value.bool Bool.true), (Value.int 181 0), (Value.ref 138), Value.none, (Value.ref 139), (Value.ref 140), (Value.ref 141), (Value.int 381 0), (Value.int 123 0), (Value.str (sN [47, 99, 108, 97, 105, 109, 47, 99, 117, 116, 46, 112, 121]) 382)])) (List.toArray []))),
  (143, (Obj.mk (Value.type "function") .none (Data.func (FuncData.mk (sN [108, 101, 115, 115]) (sN [87, 104, 105, 116, 101, 115, 112, 97, 99, 101, 46, 108, 101, 115, 115]) (dIn (sN [87, 104, 105, 116, 101, 115, 112, 97, 99, 101]) (sN [108, 101, 115, 115])).1 (.stmts (dIn (sN [87, 104, 105, 116, 101, 115, 112, 97, 99, 101]) (sN [108, 101, 115, 115])).2.1) (dIn (sN [87, 104, 105, 116, 101, 115, 112, 97, 99, 101]) (sN [108, 101, 115, 115])).2.2 3 [] Value.none Value.none Value.none (Value.str (sN [99, 112, 121, 51, 49, 51, 46, 116, 97, 98, 110, 97, 110, 110, 121]) 302) .none (Value.ref 142) Value.none 0)) (List.toArray []))),
  (149, (Obj.mk (Value.type "code") .none (Data.fields (List.toArray [(Value.str (sN [110, 111, 116, 95, 108, 101, 115, 115, 95, 119, 105, 116, 110, 101, 115, 115]) 384), (Value.str (sN [87, 104, 105, 116, 101, 115, 112, 97, 99, 101, 46, 110, 111, 116, 95, 108, 101, 115, 115, 95, 119, 105, 116, 110, 101, 115, 115]) 385), (Value.str (sN [47, 99, 108, 97, 105, 109, 47, 99, 117, 116, 46, 112, 121]) 386), (Value.int 126 0), (Value.int 2 0), (Value.int 0 0), (Value.int 0 0), (Value.int 3 0), (Value.ref 144), (Value.bool Bool.true), (Value.int 181 0), (Value.ref 145), Value.none, (Value.ref 146), (Value.ref 147), (Value.ref 148), (Value.int 389 0), (Value.int 126 0), (Value.str (sN [47, 99, 108, 97, 105, 109, 47, 99, 117, 116, 46, 112, 121]) 390)])) (List.toArray []))),
  (150, (Obj.mk (Value.type "function") .none (Data.func (FuncData.mk (sN [110, 111, 116, 95, 108, 101, 115, 115, 95, 119, 105, 116, 110, 101, 115, 115]) (sN [87, 104, 105, 116, 101, 115, 112, 97, 99, 101, 46, 110, 111, 116, 95, 108, 101, 115, 115, 95, 119, 105, 116, 110, 101, 115, 115]) (dIn (sN [87, 104, 105, 116, 101, 115, 112, 97, 99, 101]) (sN [110, 111, 116, 95, 108, 101, 115, 115, 95, 119, 105, 116, 110, 101, 115, 115])).1 (.stmts (dIn (sN [87, 104, 105, 116, 101, 115, 112, 97, 99, 101]) (sN [110, 111, 116, 95, 108, 101, 115, 115, 95, 119, 105, 116, 110, 101, 115, 115])).2.1) (dIn (sN [87, 104, 105, 116, 101, 115, 112, 97, 99, 101]) (sN [110, 111, 116, 95, 108, 101, 115, 115, 95, 119, 105, 116, 110, 101, 115, 115])).2.2 3 [] Value.none Value.none Value.none (Value.str (sN [99, 112, 121, 51, 49, 51, 46, 116, 97, 98, 110, 97, 110, 110, 121]) 302) .none (Value.ref 149) Value.none 0)) (List.toArray []))),
  (152, (Obj.mk (Value.type "dict") .none (Data.dict (List.toArray [(dE P [95, 95, 109, 111, 100, 117, 108, 101, 95, 95] 311 (Value.str (sN [99, 112, 121, 51, 49, 51, 46, 116, 97, 98, 110, 97, 110, 110, 121]) 302)), (dE P [95, 95, 102, 105, 114, 115, 116, 108, 105, 110, 101, 110, 111, 95, 95] 315 (Value.int 75 314)), (dE P [83] 319 (Value.str (sN [32]) 317)), (dE P [84] 320 (Value.str (sN [9]) 318)), (dE P [95, 95, 105, 110, 105, 116, 95, 95] 335 (Value.ref 108)), (dE P [108, 111, 110, 103, 101, 115, 116, 95, 114, 117, 110, 95, 111, 102, 95, 115, 112, 97, 99, 101, 115] 344 (Value.ref 115)), (dE P [105, 110, 100, 101, 110, 116, 95, 108, 101, 118, 101, 108] 356 (Value.ref 122)), (dE P [101, 113, 117, 97, 108] 364 (Value.ref 129)), (dE P [110, 111, 116, 95, 101, 113, 117, 97, 108, 95, 119, 105, 116, 110, 101, 115, 115] 375 (Value.ref 136)), (dE P [108, 101, 115, 115] 383 (Value.ref 143)), (dE P [110, 111, 116, 95, 108, 101, 115, 115, 95, 119, 105, 116, 110, 101, 115, 115] 391 (Value.ref 150)), (dE P [95, 95, 115, 116, 97, 116, 105, 99, 95, 97, 116, 116, 114, 105, 98, 117, 116, 101, 115, 95, 95] 397 (Value.ref 151)), (dE P [95, 95, 100, 105, 99, 116, 95, 95] 399 (Value.ref 154)), (dE P [95, 95, 119, 101, 97, 107, 114, 101, 102, 95, 95] 401 (Value.ref 155)), (dE P [95, 95, 100, 111, 99, 95, 95] 402 Value.none)]) 4) (List.toArray []))),
  (153, (Obj.mk (Value.type "type") .none (Data.cls (ClassData.mk (sN [87, 104, 105, 116, 101, 115, 112, 97, 99, 101]) [(Value.type "object")] [(Value.ref 153), (Value.type "object")] 152 (sN [87, 104, 105, 116, 101, 115, 112, 97, 99, 101]) Bool.true [] [] Bool.false .none Bool.false)) (List.toArray [.none, .none, (Option.some (Value.str (sN [87, 104, 105, 116, 101, 115, 112, 97, 99, 101]) 304)), (Option.some (Value.str (sN [87, 104, 105, 116, 101, 115, 112, 97, 99, 101]) 312)), (Option.some (Value.builtin "object.__new__")), (Option.some (Value.bool Bool.true))]))),
  (154, (Obj.mk (Value.type "getset_descriptor") .none (Data.fields (List.toArray [(Value.str (sN [95, 95, 100, 105, 99, 116, 95, 95]) 398), (Value.ref 153), (Value.builtin "function.__dict__"), (Value.builtin "function.__dict__#set")])) (List.toArray []))),
  (155, (Obj.mk (Value.type "getset_descriptor") .none (Data.fields (List.toArray [(Value.str (sN [95, 95, 119, 101, 97, 107, 114, 101, 102, 95, 95]) 400), (Value.ref 153), (Value.builtin "ExceptionGroup.__weakref__"), Value.none])) (List.toArray []))),
  (161, (Obj.mk (Value.type "code") .none (Data.fields (List.toArray [(Value.str (sN [95, 108, 97, 119, 95, 100, 114, 97, 119, 115]) 407), (Value.str (sN [95, 108, 97, 119, 95, 100, 114, 97, 119, 115]) 408), (Value.str (sN [47, 99, 108, 97, 105, 109, 47, 99, 117, 116, 46, 112, 121]) 409), (Value.int 129 0), (Value.int 1 0), (Value.int 0 0), (Value.int 0 0), (Value.int 3 0), (Value.ref 158), (Value.bool Bool.true), (Value.int 181 0), (Value.ref 159), Value.none, Value.none, Value.none, (Value.ref 160), (Value.int 410 0), (Value.int 129 0), (Value.str (sN [47, 99, 108, 97, 105, 109, 47, 99, 117, 116, 46, 112, 121]) 411)])) (List.toArray []))),
  (162, (Obj.mk (Value.type "function") .none (Data.func (FuncData.mk (sN [95, 108, 97, 119, 95, 100, 114, 97, 119, 115]) (sN [95, 108, 97, 119, 95, 100, 114, 97, 119, 115]) (dTop (sN [95, 108, 97, 119, 95, 100, 114, 97, 119, 115])).1 (.stmts (dTop (sN [95, 108, 97, 119, 95, 100, 114, 97, 119, 115])).2.1) (dTop (sN [95, 108, 97, 119, 95, 100, 114, 97, 119, 115])).2.2 3 [] Value.none Value.none Value.none (Value.str (sN [108, 97, 119, 95, 112, 103, 48, 50, 52, 55, 95, 48, 49]) 405) .none (Value.ref 161) Value.none 0)) (List.toArray []))),
  (168, (Obj.mk (Value.type "code") .none (Data.fields (List.toArray [(Value.str (sN [95, 108, 97, 119, 95, 107, 101, 121, 115]) 413), (Value.str (sN [95, 108, 97, 119, 95, 107, 101, 121, 115]) 414), (Value.str (sN [47, 99, 108, 97, 105, 109, 47, 99, 117, 116, 46, 112, 121]) 415), (Value.int 132 0), (Value.int 1 0), (Value.int 0 0), (Value.int 0 0), (Value.int 3 0), (Value.ref 163), (Value.bool Bool.true), (Value.int 181 0), (Value.ref 164), Value.none, (Value.ref 165), (Value.ref 166), (Value.ref 167), (Value.int 418 0), (Value.int 132 0), (Value.str (sN [47, 99, 108, 97, 105, 109, 47, 99, 117, 116, 46, 112, 121]) 419)])) (List.toArray []))),
  (169, (Obj.mk (Value.type "function") .none (Data.func (FuncData.mk (sN [95, 108, 97, 119, 95, 107, 101, 121, 115]) (sN [95, 108, 97, 119, 95, 107, 101, 121, 115]) (dTop (sN [95, 108, 97, 119, 95, 107, 101, 121, 115])).1 (.stmts (dTop (sN [95, 108, 97, 119, 95, 107, 101, 121, 115])).2.1) (dTop (sN [95, 108, 97, 119, 95, 107, 101, 121, 115])).2.2 3 [] Value.none Value.none Value.none (Value.str (sN [108, 97, 119, 95, 112, 103, 48, 50, 52, 55, 95, 48, 49]) 405) .none (Value.ref 168) Value.none 0)) (List.toArray []))),
  (175, (Obj.mk (Value.type "code") .none (Data.fields (List.toArray [(Value.str (sN [95, 108, 97, 119, 95, 111, 114, 100, 101, 114, 115]) 421), (Value.str (sN [95, 108, 97, 119, 95, 111, 114, 100, 101, 114, 115]) 422), (Value.str (sN [47, 99, 108, 97, 105, 109, 47, 99, 117, 116, 46, 112, 121]) 423), (Value.int 137 0), (Value.int 1 0), (Value.int 0 0), (Value.int 0 0), (Value.int 3 0), (Value.ref 170), (Value.bool Bool.true), (Value.int 181 0), (Value.ref 171), Value.none, (Value.ref 172), (Value.ref 173), (Value.ref 174), (Value.int 429 0), (Value.int 137 0), (Value.str (sN [47, 99, 108, 97, 105, 109, 47, 99, 117, 116, 46, 112, 121]) 430)])) (List.toArray []))),
  (176, (Obj.mk (Value.type "function") .none (Data.func (FuncData.mk (sN [95, 108, 97, 119, 95, 111, 114, 100, 101, 114, 115]) (sN [95, 108, 97, 119, 95, 111, 114, 100, 101, 114, 115]) (dTop (sN [95, 108, 97, 119, 95, 111, 114, 100, 101, 114, 115])).1 (.stmts (dTop (sN [95, 108, 97, 119, 95, 111, 114, 100, 101, 114, 115])).2.1) (dTop (sN [95, 108, 97, 119, 95, 111, 114, 100, 101, 114, 115])).2.2 3 [] Value.none Value.none Value.none (Value.str (sN [108, 97, 119, 95, 112, 103, 48, 50, 52, 55, 95, 48, 49]) 405) .none (Value.ref 175) Value.none 0)) (List.toArray []))),
  (182, (Obj.mk (Value.type "code") .none (Data.fields (List.toArray [(Value.str (sN [95, 108, 97, 119, 95, 107, 105, 110, 100, 115]) 432), (Value.str (sN [95, 108, 97, 119, 95, 107, 105, 110, 100, 115]) 433), (Value.str (sN [47, 99, 108, 97, 105, 109, 47, 99, 117, 116, 46, 112, 121]) 434), (Value.int 145 0), (Value.int 2 0), (Value.int 0 0), (Value.int 0 0), (Value.int 3 0), (Value.ref 177), (Value.bool Bool.true), (Value.int 181 0), (Value.ref 178), Value.none, (Value.ref 179), (Value.ref 180), (Value.ref 181), (Value.int 444 0), (Value.int 145 0), (Value.str (sN [47, 99, 108, 97, 105, 109, 47, 99, 117, 116, 46, 112, 121]) 445)])) (List.toArray []))),
  (183, (Obj.mk (Value.type "function") .none (Data.func (FuncData.mk (sN [95, 108, 97, 119, 95, 107, 105, 110, 100, 115]) (sN [95, 108, 97, 119, 95, 107, 105, 110, 100, 115]) (dTop (sN [95, 108, 97, 119, 95, 107, 105, 110, 100, 115])).1 (.stmts (dTop (sN [95, 108, 97, 119, 95, 107, 105, 110, 100, 115])).2.1) (dTop (sN [95, 108, 97, 119, 95, 107, 105, 110, 100, 115])).2.2 3 [] Value.none Value.none Value.none (Value.str (sN [108, 97, 119, 95, 112, 103, 48, 50, 52, 55, 95, 48, 49]) 405) .none (Value.ref 182) Value.none 0)) (List.toArray []))),
  (187, (Obj.mk (Value.type "code") .none (Data.fields (List.toArray [(Value.str (sN [95, 108, 97, 119, 95, 112, 97, 115, 115, 101, 100]) 447), (Value.str (sN [95, 108, 97, 119, 95, 112, 97, 115, 115, 101, 100]) 448), (Value.str (sN [47, 99, 108, 97, 105, 109, 47, 99, 117, 116, 46, 112, 121]) 449), (Value.int 163 0), (Value.int 1 0), (Value.int 0 0), (Value.int 0 0), (Value.int 3 0), (Value.ref 184), (Value.bool Bool.true), (Value.int 181 0), (Value.ref 185), Value.none, Value.none, Value.none, (Value.ref 186), (Value.int 450 0), (Value.int 163 0), (Value.str (sN [47, 99, 108, 97, 105, 109, 47, 99, 117, 116, 46, 112, 121]) 451)])) (List.toArray []))),
  (188, (Obj.mk (Value.type "function") .none (Data.func (FuncData.mk (sN [95, 108, 97, 119, 95, 112, 97, 115, 115, 101, 100]) (sN [95, 108, 97, 119, 95, 112, 97, 115, 115, 101, 100]) (dTop (sN [95, 108, 97, 119, 95, 112, 97, 115, 115, 101, 100])).1 (.stmts (dTop (sN [95, 108, 97, 119, 95, 112, 97, 115, 115, 101, 100])).2.1) (dTop (sN [95, 108, 97, 119, 95, 112, 97, 115, 115, 101, 100])).2.2 3 [] Value.none Value.none Value.none (Value.str (sN [108, 97, 119, 95, 112, 103, 48, 50, 52, 55, 95, 48, 49]) 405) .none (Value.ref 187) Value.none 0)) (List.toArray []))),
  (192, (Obj.mk (Value.type "code") .none (Data.fields (List.toArray [(Value.str (sN [95, 108, 97, 119, 95, 102, 97, 108, 108, 115]) 453), (Value.str (sN [95, 108, 97, 119, 95, 102, 97, 108, 108, 115]) 454), (Value.str (sN [47, 99, 108, 97, 105, 109, 47, 99, 117, 116, 46, 112, 121]) 455), (Value.int 165 0), (Value.int 3 0), (Value.int 0 0), (Value.int 0 0), (Value.int 3 0), (Value.ref 189), (Value.bool Bool.true), (Value.int 181 0), (Value.ref 190), Value.none, Value.none, Value.none, (Value.ref 191), (Value.int 456 0), (Value.int 165 0), (Value.str (sN [47, 99, 108, 97, 105, 109, 47, 99, 117, 116, 46, 112, 121]) 457)])) (List.toArray []))),
  (193, (Obj.mk (Value.type "function") .none (Data.func (FuncData.mk (sN [95, 108, 97, 119, 95, 102, 97, 108, 108, 115]) (sN [95, 108, 97, 119, 95, 102, 97, 108, 108, 115]) (dTop (sN [95, 108, 97, 119, 95, 102, 97, 108, 108, 115])).1 (.stmts (dTop (sN [95, 108, 97, 119, 95, 102, 97, 108, 108, 115])).2.1) (dTop (sN [95, 108, 97, 119, 95, 102, 97, 108, 108, 115])).2.2 3 [] Value.none Value.none Value.none (Value.str (sN [108, 97, 119, 95, 112, 103, 48, 50, 52, 55, 95, 48, 49]) 405) .none (Value.ref 192) Value.none 0)) (List.toArray []))),
  (199, (Obj.mk (Value.type "code") .none (Data.fields (List.toArray [(Value.str (sN [95, 108, 97, 119, 95, 97, 102, 116, 101, 114]) 459), (Value.str (sN [95, 108, 97, 119, 95, 97, 102, 116, 101, 114]) 460), (Value.str (sN [47, 99, 108, 97, 105, 109, 47, 99, 117, 116, 46, 112, 121]) 461), (Value.int 167 0), (Value.int 2 0), (Value.int 0 0), (Value.int 0 0), (Value.int 3 0), (Value.ref 194), (Value.bool Bool.true), (Value.int 181 0), (Value.ref 195), Value.none, (Value.ref 196), (Value.ref 197), (Value.ref 198), (Value.int 467 0), (Value.int 167 0), (Value.str (sN [47, 99, 108, 97, 105, 109, 47, 99, 117, 116, 46, 112, 121]) 468)])) (List.toArray []))),
  (200, (Obj.mk (Value.type "function") .none (Data.func (FuncData.mk (sN [95, 108, 97, 119, 95, 97, 102, 116, 101, 114]) (sN [95, 108, 97, 119, 95, 97, 102, 116, 101, 114]) (dTop (sN [95, 108, 97, 119, 95, 97, 102, 116, 101, 114])).1 (.stmts (dTop (sN [95, 108, 97, 119, 95, 97, 102, 116, 101, 114])).2.1) (dTop (sN [95, 108, 97, 119, 95, 97, 102, 116, 101, 114])).2.2 3 [] Value.none Value.none Value.none (Value.str (sN [108, 97, 119, 95, 112, 103, 48, 50, 52, 55, 95, 48, 49]) 405) .none (Value.ref 199) Value.none 0)) (List.toArray []))),
  (204, (Obj.mk (Value.type "code") .none (Data.fields (List.toArray [(Value.str (sN [95, 108, 97, 119, 95, 116, 97, 98, 108, 101, 115]) 470), (Value.str (sN [95, 108, 97, 119, 95, 116, 97, 98, 108, 101, 115]) 471), (Value.str (sN [47, 99, 108, 97, 105, 109, 47, 99, 117, 116, 46, 112, 121]) 472), (Value.int 175 0), (Value.int 3 0), (Value.int 0 0), (Value.int 0 0), (Value.int 3 0), (Value.ref 201), (Value.bool Bool.true), (Value.int 181 0), (Value.ref 202), Value.none, Value.none, Value.none, (Value.ref 203), (Value.int 473 0), (Value.int 175 0), (Value.str (sN [47, 99, 108, 97, 105, 109, 47, 99, 117, 116, 46, 112, 121]) 474)])) (List.toArray []))),
  (205, (Obj.mk (Value.type "function") .none (Data.func (FuncData.mk (sN [95, 108, 97, 119, 95, 116, 97, 98, 108, 101, 115]) (sN [95, 108, 97, 119, 95, 116, 97, 98, 108, 101, 115]) (dTop (sN [95, 108, 97, 119, 95, 116, 97, 98, 108, 101, 115])).1 (.stmts (dTop (sN [95, 108, 97, 119, 95, 116, 97, 98, 108, 101, 115])).2.1) (dTop (sN [95, 108, 97, 119, 95, 116, 97, 98, 108, 101, 115])).2.2 3 [] Value.none Value.none Value.none (Value.str (sN [108, 97, 119, 95, 112, 103, 48, 50, 52, 55, 95, 48, 49]) 405) .none (Value.ref 204) Value.none 0)) (List.toArray []))),
  (209, (Obj.mk (Value.type "code") .none (Data.fields (List.toArray [(Value.str (sN [95, 108, 97, 119, 95, 112, 114, 111, 100, 117, 99, 116]) 476), (Value.str (sN [95, 108, 97, 119, 95, 112, 114, 111, 100, 117, 99, 116]) 477), (Value.str (sN [47, 99, 108, 97, 105, 109, 47, 99, 117, 116, 46, 112, 121]) 478), (Value.int 197 0), (Value.int 1 0), (Value.int 0 0), (Value.int 0 0), (Value.int 3 0), (Value.ref 206), (Value.bool Bool.true), (Value.int 181 0), (Value.ref 207), Value.none, Value.none, Value.none, (Value.ref 208), (Value.int 479 0), (Value.int 197 0), (Value.str (sN [47, 99, 108, 97, 105, 109, 47, 99, 117, 116, 46, 112, 121]) 480)])) (List.toArray []))),
  (210, (Obj.mk (Value.type "function") .none (Data.func (FuncData.mk (sN [95, 108, 97, 119, 95, 112, 114, 111, 100, 117, 99, 116]) (sN [95, 108, 97, 119, 95, 112, 114, 111, 100, 117, 99, 116]) (dTop (sN [95, 108, 97, 119, 95, 112, 114, 111, 100, 117, 99, 116])).1 (.stmts (dTop (sN [95, 108, 97, 119, 95, 112, 114, 111, 100, 117, 99, 116])).2.1) (dTop (sN [95, 108, 97, 119, 95, 112, 114, 111, 100, 117, 99, 116])).2.2 3 [] Value.none Value.none Value.none (Value.str (sN [108, 97, 119, 95, 112, 103, 48, 50, 52, 55, 95, 48, 49]) 405) .none (Value.ref 209) Value.none 0)) (List.toArray []))),
  (214, (Obj.mk (Value.type "code") .none (Data.fields (List.toArray [(Value.str (sN [108, 97, 119]) 482), (Value.str (sN [108, 97, 119]) 483), (Value.str (sN [47, 99, 108, 97, 105, 109, 47, 99, 117, 116, 46, 112, 121]) 484), (Value.int 208 0), (Value.int 1 0), (Value.int 0 0), (Value.int 0 0), (Value.int 3 0), (Value.ref 211), (Value.bool Bool.true), (Value.int 181 0), (Value.ref 212), Value.none, Value.none, Value.none, (Value.ref 213), (Value.int 485 0), (Value.int 208 0), (Value.str (sN [47, 99, 108, 97, 105, 109, 47, 99, 117, 116, 46, 112, 121]) 486)])) (List.toArray []))),
  (215, (Obj.mk (Value.type "function") .none (Data.func (FuncData.mk (sN [108, 97, 119]) (sN [108, 97, 119]) (dTop (sN [108, 97, 119])).1 (.stmts (dTop (sN [108, 97, 119])).2.1) (dTop (sN [108, 97, 119])).2.2 3 [] Value.none Value.none Value.none (Value.str (sN [108, 97, 119, 95, 112, 103, 48, 50, 52, 55, 95, 48, 49]) 405) .none (Value.ref 214) Value.none 0)) (List.toArray [])))]
noncomputable def A39 : List Addr := [2, 3, 20, 21, 27, 28, 34, 35, 41, 42, 48, 49, 55, 56, 69, 70, 76, 77, 79, 80, 81, 82, 90, 91, 107, 108, 114, 115, 121, 122, 128, 129, 135, 136, 142, 143, 149, 150, 152, 153, 154, 155, 161, 162, 168, 169, 175, 176, 182, 183, 187, 188, 192, 193, 199, 200, 204, 205, 209, 210, 214, 215]
end HQ
end
section
set_option autoImplicit false
set_option linter.unusedSectionVars false
set_option maxRecDepth 10000
namespace HQ
open PySem PySem.W PySem.Calls PyProof.Rows PySem.Spec

abbrev prog : Program := PySem.Challenge.pw_pg0247_01

noncomputable def frozenO (o : Obj) : Bool := match o.data with
  | .seq _ _ => o.cls != .type "list"
  | .fields _ => o.cls == .type "range" || o.cls == .type "dict_items"
  | _ => false
noncomputable def seqO (o : Obj) : Bool := match o.data with
  | .seq _ _ => true
  | _ => false

/-- values that only pass through, by number -/
class Gh where
  g : Nat → Value
variable [Gh]

mutual
inductive RV (ρ : List Addr) (h : Heap) : Value → V → Prop
  | none : RV ρ h .none .none
  | bool (b : Bool) : RV ρ h (.bool b) (.bool b)
  | int (i : Int) (t : Tok) : RV ρ h (.int i t) (.int i)
  | str (s : List Nat) (t : Tok) : RV ρ h (.str ⟨s.toArray⟩ t) (.str s)
  | tup {a : Addr} {vs : List Value} {l : List V} : h.IsTuple a vs.toArray → RL ρ h vs l → RV ρ h (.ref a) (.tup l)
  | lst {a : Addr} {vs : List Value} {l : List V} : h.IsList a vs.toArray → a ∉ ρ → RL ρ h vs l → RV ρ h (.ref a) (.lst l)
  | ref {a : Addr} {c : Nat} : ρ[c]? = some a → RV ρ h (.ref a) (.ref c)
  | rng {a : Addr} {x y : Int} {t u v : Tok} : IsRange h a x y 1 t u v → RV ρ h (.ref a) (.rng x y)
  | its {a d : Addr} {c : Nat} : h.IsItemsView a d → ρ[c]? = some d → RV ρ h (.ref a) (.its c)
  | any {v : Value} (t : Nat) (e : v = Gh.g t) (hh : handedIn v = true) : RV ρ h v (.any t)
inductive RL (ρ : List Addr) (h : Heap) : List Value → List V → Prop
  | nil : RL ρ h [] []
  | cons {v : Value} {x : V} {vs : List Value} {l : List V} : RV ρ h v x → RL ρ h vs l → RL ρ h (v :: vs) (x :: l)
end

/-- what a heap step keeps: all but the cells ρ and the addresses O -/
noncomputable def Kept (O : Addr → Prop) (ρ : List Addr) (h h' : Heap) : Prop := ∀ b o, h.get? b = some o → b ∉ ρ → ¬ O b → h'.get? b = some o
noncomputable def NoO : Addr → Prop := fun _ => False

/-- nothing that stands for a cell is frozen; nothing in O is frozen or a sequence -/
noncomputable def MutR (ρ : List Addr) (h : Heap) : Prop := ∀ a ∈ ρ, ∃ o, h.get? a = some o ∧ frozenO o = false
noncomputable def MutO (O : Addr → Prop) (h : Heap) : Prop := ∀ a, O a → ∃ o, h.get? a = some o ∧ frozenO o = false ∧ seqO o = false

theorem mutO_no (h : Heap) : MutO NoO h := fun _ x => x.elim

theorem frozen_ne {ρ : List Addr} {O : Addr → Prop} {h : Heap} (mr : MutR ρ h) (mo : MutO O h) {a : Addr} {o : Obj} (e : h.get? a = some o) (f : frozenO o = true) : a ∉ ρ ∧ ¬ O a := by
  refine ⟨fun m => ?_, fun m => ?_⟩
  · obtain ⟨o', e', f'⟩ := mr a m; rw [e] at e'; cases e'; rw [f] at f'; cases f'
  · obtain ⟨o', e', f', _⟩ := mo a m; rw [e] at e'; cases e'; rw [f] at f'; cases f'
theorem seq_ne {O : Addr → Prop} {h : Heap} (mo : MutO O h) {a : Addr} {o : Obj} (e : h.get? a = some o) (f : seqO o = true) : ¬ O a := fun m => by
  obtain ⟨o', e', _, f'⟩ := mo a m; rw [e] at e'; cases e'; rw [f] at f'; cases f'

theorem isTuple_frozen {h : Heap} {a : Addr} {vs : Array Value} (x : h.IsTuple a vs) : ∃ o, h.get? a = some o ∧ frozenO o = true := by
  obtain ⟨⟨c, d, dt, sl⟩, e, hc, n, hd⟩ := x
  dsimp only at hc hd; subst hc; subst hd
  exact ⟨_, e, by simp [frozenO]⟩
theorem isList_seq {h : Heap} {a : Addr} {vs : Array Value} (x : h.IsList a vs) : ∃ o, h.get? a = some o ∧ seqO o = true := by
  obtain ⟨⟨c, d, dt, sl⟩, e, hc, n, hd⟩ := x
  dsimp only at hc hd; subst hc; subst hd
  exact ⟨_, e, rfl⟩
theorem isItems_frozen {h : Heap} {a d : Addr} (x : h.IsItemsView a d) : ∃ o, h.get? a = some o ∧ frozenO o = true := by
  obtain ⟨⟨c, d, dt, sl⟩, e, hc, hd⟩ := x
  dsimp only at hc hd; subst hc; subst hd
  exact ⟨_, e, rfl⟩

theorem nodup_idx {α : Type} {l : List α} (n : l.Nodup) {i j : Nat} {x : α} (e : l[i]? = some x) (q : l[j]? = some x) : i = j := by
  obtain ⟨l1, e1⟩ := List.getElem?_eq_some_iff.mp e
  obtain ⟨l2, e2⟩ := List.getElem?_eq_some_iff.mp q
  have P := List.pairwise_iff_getElem.mp n
  rcases Nat.lt_trichotomy i j with h | h | h
  · exact absurd (e1.trans e2.symm) (P i j l1 l2 h)
  · exact h
  · exact absurd (e2.trans e1.symm) (P j i l2 l1 h)
theorem prefix_get {α : Type} {l l' : List α} (p : l <+: l') {i : Nat} {x : α} (e : l[i]? = some x) : l'[i]? = some x := by
  obtain ⟨t, rfl⟩ := p
  rw [List.getElem?_append_left (by exact (List.getElem?_eq_some_iff.mp e).1)]; exact e

section mono
variable {O : Addr → Prop} {ρ ρ' : List Addr} {h h' : Heap}
mutual
theorem RV.mono (p : ρ <+: ρ') (k : Kept O ρ h h') (mr : MutR ρ h) (mo : MutO O h) (nw : ∀ a ∈ ρ', a ∈ ρ ∨ h.get? a = none) : ∀ {v : Value} {x : V}, RV ρ h v x → RV ρ' h' v x
  | _, _, .none => .none
  | _, _, .bool b => .bool b
  | _, _, .int i t => .int i t
  | _, _, .str s t => .str s t
  | _, _, .tup ht hl => by
    obtain ⟨o, e, f⟩ := isTuple_frozen ht
    obtain ⟨n1, n2⟩ := frozen_ne mr mo e f
    obtain ⟨o', e', r⟩ := ht
    exact .tup ⟨o', k _ _ e' n1 n2, r⟩ (RL.mono p k mr mo nw hl)
  | _, _, .lst ht hn hl => by
    obtain ⟨o, e, f⟩ := isList_seq ht
    have n2 := seq_ne mo e f
    obtain ⟨o', e', r⟩ := ht
    exact .lst ⟨o', k _ _ e' hn n2, r⟩ (fun m => (nw _ m).elim hn fun q => by rw [q] at e'; cases e') (RL.mono p k mr mo nw hl)
  | _, _, .ref e => .ref (prefix_get p e)
  | _, _, .rng e => by
    obtain ⟨n1, n2⟩ := frozen_ne mr mo e rfl
    exact .rng (k _ _ e n1 n2)
  | _, _, .its hv e => by
    obtain ⟨o, e1, f⟩ := isItems_frozen hv
    obtain ⟨n1, n2⟩ := frozen_ne mr mo e1 f
    obtain ⟨o', e', r⟩ := hv
    exact .its ⟨o', k _ _ e' n1 n2, r⟩ (prefix_get p e)
  | _, _, .any t e hh => .any t e hh
theorem RL.mono (p : ρ <+: ρ') (k : Kept O ρ h h') (mr : MutR ρ h) (mo : MutO O h) (nw : ∀ a ∈ ρ', a ∈ ρ ∨ h.get? a = none) : ∀ {vs : List Value} {l : List V}, RL ρ h vs l → RL ρ' h' vs l
  | _, _, .nil => .nil
  | _, _, .cons hv hl => .cons (RV.mono p k mr mo nw hv) (RL.mono p k mr mo nw hl)
end
end mono

theorem RL.length {ρ : List Addr} {h : Heap} : ∀ {vs : List Value} {l : List V}, RL ρ h vs l → vs.length = l.length
  | _, _, .nil => rfl
  | _, _, .cons _ r => by simp [RL.length r]
theorem RL.get {ρ : List Addr} {h : Heap} : ∀ {vs : List Value} {l : List V}, RL ρ h vs l → ∀ {i : Nat} {x : V}, l[i]? = some x → ∃ v, vs[i]? = some v ∧ RV ρ h v x
  | _, _, .nil, _, _, e => by simp at e
  | _, _, .cons hv _, 0, _, e => by simp at e; subst e; exact ⟨_, rfl, hv⟩
  | _, _, .cons _ r, i + 1, _, e => by simp at e; obtain ⟨v, e', hv⟩ := r.get e; exact ⟨v, by simpa using e', hv⟩
theorem RL.append {ρ : List Addr} {h : Heap} : ∀ {vs : List Value} {l : List V} {ws : List Value} {m : List V}, RL ρ h vs l → RL ρ h ws m → RL ρ h (vs ++ ws) (l ++ m)
  | _, _, _, _, .nil, r => r
  | _, _, _, _, .cons hv r, q => .cons hv (r.append q)
theorem RL.drop {ρ : List Addr} {h : Heap} : ∀ (n : Nat) {vs : List Value} {l : List V}, RL ρ h vs l → RL ρ h (vs.drop n) (l.drop n)
  | 0, _, _, r => by simpa using r
  | _ + 1, _, _, .nil => by simpa using RL.nil
  | n + 1, _, _, .cons _ r => by simpa using r.drop n
theorem RL.take {ρ : List Addr} {h : Heap} : ∀ (n : Nat) {vs : List Value} {l : List V}, RL ρ h vs l → RL ρ h (vs.take n) (l.take n)
  | 0, _, _, _ => by simpa using RL.nil
  | _ + 1, _, _, .nil => by simpa using RL.nil
  | n + 1, _, _, .cons hv r => by simpa using RL.cons hv (r.take n)
theorem RL.set {ρ : List Addr} {h : Heap} {v : Value} {x : V} (hv : RV ρ h v x) : ∀ (n : Nat) {vs : List Value} {l : List V}, RL ρ h vs l → RL ρ h (vs.set n v) (l.set n x)
  | _, _, _, .nil => by simpa using RL.nil
  | 0, _, _, .cons _ r => by simpa using RL.cons hv r
  | n + 1, _, _, .cons h1 r => by simpa using RL.cons h1 (RL.set hv n r)

abbrev DK (w : World) := intKind prog w

inductive RD (ρ : List Addr) (h : Heap) : List (Int × Value) → List (Int × V) → Prop
  | nil : RD ρ h [] []
  | cons {k : Int} {v : Value} {x : V} {vs : List (Int × Value)} {l : List (Int × V)} : RV ρ h v x → RD ρ h vs l → RD ρ h ((k, v) :: vs) ((k, x) :: l)

noncomputable def RA (ρ : List Addr) (h : Heap) (m : Str → Option Value) (l : List (Str × V)) : Prop :=
  ∀ x, match look x l with | some v => ∃ val, m x = some val ∧ RV ρ h val v | Option.none => m x = Option.none

noncomputable def RC (w : World) (ρ : List Addr) (h : Heap) (a : Addr) : Cell → Prop
  | .list l => ∃ vs : List Value, h.PlainList a vs.toArray ∧ RL ρ h vs l
  | .dict l => ∃ kvs, h.DictAt (DK w) a kvs l.length ∧ RD ρ h kvs l
  | .inst C d => ∃ dx, ρ[d]? = some dx ∧ h.get? a = some (instObj C dx)
  | .attrs l => ∃ m, h.Ns1 a m ∧ RA ρ h m l

/-- an object stands behind sys.modules -/
noncomputable def SysIn (h : Heap) : Prop := ∃ b o, sysModules < b ∧ h.get? b = some o
theorem SysIn.up {h h' : Heap} (x : SysIn h) (k : ∀ b o, h.get? b = some o → h'.get? b = some o) : SysIn h' := let ⟨b, o, l, e⟩ := x; ⟨b, o, l, k b o e⟩
theorem SysIn.new {h : Heap} {a : Addr} (x : SysIn h) (z : h.objs.size ≤ a) : a ≠ sysModules := by
  obtain ⟨b, o, l, e⟩ := x
  have := Heap.lt_size e
  intro q; subst q
  exact absurd (Nat.lt_of_lt_of_le (Nat.lt_trans l this) z) (Nat.lt_irrefl _)

structure St (w : World) (h₀ : Heap) (ρ : List Addr) (σ : Sto) (h : Heap) : Prop where
  len : ρ.length = σ.length
  nd : ρ.Nodup
  lo : ∀ a ∈ ρ, h₀.get? a = Option.none
  nsys : ∀ a ∈ ρ, a ≠ sysModules
  big : SysIn h₀
  base : ∀ b o, h₀.get? b = some o → h.get? b = some o
  cell : ∀ (c : Nat) (x : Cell) (a : Addr), σ[c]? = some x → ρ[c]? = some a → RC w ρ h a x

theorem RC.mutable {w : World} {ρ : List Addr} {h : Heap} {a : Addr} : ∀ {x : Cell}, RC w ρ h a x → ∃ o, h.get? a = some o ∧ frozenO o = false
  | .list _, ⟨_, ⟨_, e⟩, _⟩ => ⟨_, e, by simp [frozenO]⟩
  | .dict _, ⟨_, ⟨⟨c, d, dt, sl⟩, es, e, _, hd, _⟩, _⟩ => by dsimp only at hd; subst hd; exact ⟨_, e, rfl⟩
  | .inst _ _, ⟨_, _, e⟩ => ⟨_, e, rfl⟩
  | .attrs _, ⟨_, ⟨⟨c, d, dt, sl⟩, es, ep, e, hd, _⟩, _⟩ => by dsimp only at hd; subst hd; exact ⟨_, e, rfl⟩

theorem St.mutR {w : World} {h₀ : Heap} {ρ : List Addr} {σ : Sto} {h : Heap} (S : St w h₀ ρ σ h) : MutR ρ h := fun a m => by
  obtain ⟨c, hc, rfl⟩ := List.getElem_of_mem m
  have h1 : c < σ.length := S.len ▸ hc
  exact (S.cell c σ[c] ρ[c] (List.getElem?_eq_getElem h1) (List.getElem?_eq_getElem hc)).mutable

theorem St.none {w : World} {h₀ : Heap} {ρ : List Addr} {σ : Sto} {h : Heap} (S : St w h₀ ρ σ h) {a : Addr} (m : a ∈ ρ) : h₀.get? a = Option.none := S.lo a m
theorem St.fresh {w : World} {h₀ : Heap} {ρ : List Addr} {σ : Sto} {h : Heap} (S : St w h₀ ρ σ h) {a : Addr} (e : h.get? a = Option.none) : h₀.get? a = Option.none := by
  cases q : h₀.get? a with
  | none => rfl
  | some o => rw [S.base a o q] at e; cases e
theorem St.at {w : World} {h₀ : Heap} {ρ : List Addr} {σ : Sto} {h : Heap} (S : St w h₀ ρ σ h) {c : Nat} {x : Cell} (e : getF σ c = some x) : ∃ a, ρ[c]? = some a ∧ RC w ρ h a x := by
  rw [getF_eq] at e
  have h1 : c < ρ.length := S.len ▸ (List.getElem?_eq_some_iff.mp e).1
  exact ⟨ρ[c], List.getElem?_eq_getElem h1, S.cell c x _ e (List.getElem?_eq_getElem h1)⟩
theorem St.ref {w : World} {h₀ : Heap} {ρ : List Addr} {σ : Sto} {h : Heap} (S : St w h₀ ρ σ h) {c : Nat} {x : Cell} {a : Addr} (e : getF σ c = some x) (q : ρ[c]? = some a) : RC w ρ h a x := S.cell c x a ((getF_eq σ c).symm.trans e) q
theorem St.lenF {w : World} {h₀ : Heap} {ρ : List Addr} {σ : Sto} {h : Heap} (S : St w h₀ ρ σ h) : ρ.length = HQ.lenF σ := S.len.trans (lenF_eq σ).symm
/-- the new cell's place -/
theorem St.place {w : World} {h₀ : Heap} {ρ : List Addr} {σ : Sto} {h : Heap} (S : St w h₀ ρ σ h) (a : Addr) (r : List Addr) : (ρ ++ a :: r)[HQ.lenF σ]? = some a := by rw [← S.lenF]; simp

section
variable {O : Addr → Prop} {ρ ρ' : List Addr} {h h' : Heap}
theorem RD.mono (p : ρ <+: ρ') (k : Kept O ρ h h') (mr : MutR ρ h) (mo : MutO O h) (nw : ∀ a ∈ ρ', a ∈ ρ ∨ h.get? a = Option.none) : ∀ {vs : List (Int × Value)} {l : List (Int × V)}, RD ρ h vs l → RD ρ' h' vs l
  | _, _, .nil => .nil
  | _, _, .cons hv hl => .cons (RV.mono p k mr mo nw hv) (RD.mono p k mr mo nw hl)
theorem RA.mono (p : ρ <+: ρ') (k : Kept O ρ h h') (mr : MutR ρ h) (mo : MutO O h) (nw : ∀ a ∈ ρ', a ∈ ρ ∨ h.get? a = Option.none) {m : Str → Option Value} {l : List (Str × V)} (x : RA ρ h m l) : RA ρ' h' m l := fun y => by
  have := x y
  cases e : look y l with
  | none => rw [e] at this; exact this
  | some v => rw [e] at this; obtain ⟨val, h1, h2⟩ := this; exact ⟨val, h1, RV.mono p k mr mo nw h2⟩
/-- a cell whose own object stands -/
theorem RC.mono {w : World} (p : ρ <+: ρ') (k : Kept O ρ h h') (mr : MutR ρ h) (mo : MutO O h) (nw : ∀ a ∈ ρ', a ∈ ρ ∨ h.get? a = Option.none) {a : Addr} (ha : h'.get? a = h.get? a) : ∀ {x : Cell}, RC w ρ h a x → RC w ρ' h' a x
  | .list _, ⟨vs, ⟨n, e⟩, hl⟩ => ⟨vs, ⟨n, ha.trans e⟩, hl.mono p k mr mo nw⟩
  | .dict _, ⟨kvs, ⟨o, es, e, r⟩, hl⟩ => ⟨kvs, ⟨o, es, ha.trans e, r⟩, hl.mono p k mr mo nw⟩
  | .inst _ _, ⟨dx, q, e⟩ => ⟨dx, prefix_get p q, ha.trans e⟩
  | .attrs _, ⟨m, ⟨o, es, ep, e, r⟩, hl⟩ => ⟨m, ⟨o, es, ep, ha.trans e, r⟩, hl.mono p k mr mo nw⟩
end

/-- how an evaluation leaves the state -/
structure Step (O : Addr → Prop) (ρ : List Addr) (s : Shared) (ρ' : List Addr) (s' : Shared) : Prop where
  same : ∃ h' tk, s' = { s with heap := h', toks := tk }
  pre : ρ <+: ρ'
  new : ∀ a ∈ ρ', a ∈ ρ ∨ s.heap.get? a = Option.none
  keep : Kept O ρ s.heap s'.heap
  alive : ∀ b o, s.heap.get? b = some o → ∃ o', s'.heap.get? b = some o'

theorem Step.refl {O : Addr → Prop} {ρ : List Addr} {s : Shared} : Step O ρ s ρ s := ⟨⟨s.heap, s.toks, rfl⟩, List.prefix_refl _, fun _ m => .inl m, fun _ _ e _ _ => e, fun _ o e => ⟨o, e⟩⟩
theorem Step.trans {O : Addr → Prop} {ρ ρ' ρ'' : List Addr} {s s' s'' : Shared} (x : Step O ρ s ρ' s') (y : Step O ρ' s' ρ'' s'') : Step O ρ s ρ'' s'' := by
  obtain ⟨h1, t1, rfl⟩ := x.same
  obtain ⟨h2, t2, rfl⟩ := y.same
  have new : ∀ a ∈ ρ'', a ∈ ρ ∨ s.heap.get? a = Option.none := fun a m => (y.new a m).elim (x.new a) fun q => by
    cases e : s.heap.get? a with
    | none => exact .inr rfl
    | some o => obtain ⟨o', e'⟩ := x.alive a o e; rw [q] at e'; cases e'
  refine ⟨⟨h2, t2, rfl⟩, x.pre.trans y.pre, new, fun b o e n1 n2 => ?_, fun b o e => ?_⟩
  · refine y.keep b o (x.keep b o e n1 n2) (fun m => ?_) n2
    rcases x.new b m with q | q
    · exact n1 q
    · rw [q] at e; cases e
  · obtain ⟨o', e'⟩ := x.alive b o e; exact y.alive b o' e'
theorem Step.weak {O O' : Addr → Prop} {ρ ρ' : List Addr} {s s' : Shared} (x : Step O ρ s ρ' s') (q : ∀ a, O a → O' a) : Step O' ρ s ρ' s' :=
  ⟨x.same, x.pre, x.new, fun b o e n1 n2 => x.keep b o e n1 fun m => n2 (q b m), x.alive⟩
theorem Step.of_no {O : Addr → Prop} {ρ ρ' : List Addr} {s s' : Shared} (x : Step NoO ρ s ρ' s') : Step O ρ s ρ' s' := x.weak fun _ q => q.elim
theorem Step.mem {O : Addr → Prop} {ρ ρ' : List Addr} {s s' : Shared} (x : Step O ρ s ρ' s') {a : Addr} {o : Obj} (e : s.heap.get? a = some o) (n : a ∉ ρ) : a ∉ ρ' := fun m => (x.new a m).elim n fun q => by rw [q] at e; cases e
theorem Step.rv {w : World} {h₀ : Heap} {σ : Sto} {O : Addr → Prop} {ρ ρ' : List Addr} {s s' : Shared} (x : Step O ρ s ρ' s') (S : St w h₀ ρ σ s.heap) (mo : MutO O s.heap) {v : Value} {y : V} (r : RV ρ s.heap v y) : RV ρ' s'.heap v y :=
  r.mono x.pre x.keep S.mutR mo x.new
theorem Step.rl {w : World} {h₀ : Heap} {σ : Sto} {O : Addr → Prop} {ρ ρ' : List Addr} {s s' : Shared} (x : Step O ρ s ρ' s') (S : St w h₀ ρ σ s.heap) (mo : MutO O s.heap) {v : List Value} {y : List V} (r : RL ρ s.heap v y) : RL ρ' s'.heap v y :=
  r.mono x.pre x.keep S.mutR mo x.new
theorem Step.rv0 {w : World} {h₀ : Heap} {σ : Sto} {ρ ρ' : List Addr} {s s' : Shared} (x : Step NoO ρ s ρ' s') (S : St w h₀ ρ σ s.heap) {v : Value} {y : V} (r : RV ρ s.heap v y) : RV ρ' s'.heap v y := x.rv S (mutO_no _) r
theorem Step.rl0 {w : World} {h₀ : Heap} {σ : Sto} {ρ ρ' : List Addr} {s s' : Shared} (x : Step NoO ρ s ρ' s') (S : St w h₀ ρ σ s.heap) {v : List Value} {y : List V} (r : RL ρ s.heap v y) : RL ρ' s'.heap v y := x.rl S (mutO_no _) r

/-- a step that changes no cell and nothing old (only new objects) -/
theorem step_ext {ρ : List Addr} {s : Shared} {h' : Heap} {tk : Nat} (k : ∀ b o, s.heap.get? b = some o → h'.get? b = some o) : Step NoO ρ s ρ { s with heap := h', toks := tk } :=
  ⟨⟨h', tk, rfl⟩, List.prefix_refl _, fun _ m => .inl m, fun b o e _ _ => k b o e, fun b o e => ⟨o, k b o e⟩⟩
theorem step_ext' {ρ : List Addr} {s : Shared} {h' : Heap} (k : ∀ b o, s.heap.get? b = some o → h'.get? b = some o) : Step NoO ρ s ρ { s with heap := h' } := step_ext (tk := s.toks) k
theorem step_toks {ρ : List Addr} {s : Shared} {tk : Nat} : Step NoO ρ s ρ { s with toks := tk } := step_ext (h' := s.heap) fun _ _ e => e
theorem St.ext {w : World} {h₀ : Heap} {ρ : List Addr} {σ : Sto} {h h' : Heap} (S : St w h₀ ρ σ h) (k : ∀ b o, h.get? b = some o → h'.get? b = some o) : St w h₀ ρ σ h' :=
  ⟨S.len, S.nd, S.lo, S.nsys, S.big, fun b o e => k _ _ (S.base b o e), fun c x a e q => by
    have r := S.cell c x a e q
    obtain ⟨o, ho, _⟩ := r.mutable
    exact r.mono (O := NoO) (List.prefix_refl _) (fun b o e _ _ => k b o e) S.mutR (mutO_no _) (fun _ m => .inl m) ((k _ _ ho).trans ho.symm)⟩

/-- a new cell -/
theorem St.push {w : World} {h₀ : Heap} {ρ : List Addr} {σ : Sto} {h h' : Heap} {a : Addr} {x : Cell} (S : St w h₀ ρ σ h) (k : ∀ b o, h.get? b = some o → h'.get? b = some o) (ha : h.get? a = Option.none) (hz : h.objs.size ≤ a)
    (r : RC w (ρ ++ [a]) h' a x) : St w h₀ (ρ ++ [a]) (appF σ [x]) h' := by
  rw [appF_eq]
  have hna : a ∉ ρ := fun m => by obtain ⟨o, e, _⟩ := S.mutR a m; rw [ha] at e; cases e
  have pre : ρ <+: ρ ++ [a] := List.prefix_append _ _
  refine ⟨by simp [S.len], List.nodup_append.mpr ⟨S.nd, by simp, fun b hb c hc => by simp at hc; subst hc; exact fun q => hna (q ▸ hb)⟩, fun b m => ?_, fun b m => ?_, S.big, fun b o e => k _ _ (S.base b o e), fun c y b e q => ?_⟩
  · rcases List.mem_append.mp m with m | m
    · exact S.lo b m
    · simp at m; subst m; exact S.fresh ha
  · rcases List.mem_append.mp m with m | m
    · exact S.nsys b m
    · simp at m; subst m; exact (S.big.up S.base).new hz
  · by_cases hc : c < σ.length
    · rw [List.getElem?_append_left hc] at e
      rw [List.getElem?_append_left (S.len ▸ hc)] at q
      have r' := S.cell c y b e q
      obtain ⟨o, ho, _⟩ := r'.mutable
      refine r'.mono (O := NoO) pre (fun b o e _ _ => k b o e) S.mutR (mutO_no _) (fun d m => ?_) ((k _ _ ho).trans ho.symm)
      rcases List.mem_append.mp m with m | m
      · exact .inl m
      · simp at m; subst m; exact .inr ha
    · have e1 := (List.getElem?_eq_some_iff.mp e).1
      simp at e1
      have : c = σ.length := by omega
      subst this
      simp at e
      rw [← S.len] at q
      simp at q
      subst e; subst q; exact r
theorem step_push {ρ : List Addr} {s : Shared} {h' : Heap} {tk : Nat} {a : Addr} (k : ∀ b o, s.heap.get? b = some o → h'.get? b = some o) (ha : s.heap.get? a = Option.none) : Step NoO ρ s (ρ ++ [a]) { s with heap := h', toks := tk } :=
  ⟨⟨h', tk, rfl⟩, List.prefix_append _ _, fun b m => by
    rcases List.mem_append.mp m with m | m
    · exact .inl m
    · simp at m; subst m; exact .inr ha, fun b o e _ _ => k b o e, fun b o e => ⟨o, k b o e⟩⟩

/-- a cell is changed in place -/
theorem St.upd {w : World} {h₀ : Heap} {ρ : List Addr} {σ : Sto} {h h' : Heap} {c : Nat} {a : Addr} {x : Cell} (S : St w h₀ ρ σ h) (hs : Heap.SameBut a h h') (hc : ρ[c]? = some a)
    (r : RC w ρ h' a x) : St w h₀ ρ (setF σ c x) h' := by
  rw [setF_eq]
  refine ⟨by simp [S.len], S.nd, S.lo, S.nsys, S.big, fun b o e => (hs.2 b fun z => ?_).trans (S.base b o e), fun d y b e q => ?_⟩
  · have := S.none (List.mem_of_getElem? hc); rw [← z, e] at this; cases this
  by_cases hd : d = c
  · subst hd
    have h1 : d < σ.length := S.len ▸ (List.getElem?_eq_some_iff.mp hc).1
    rw [List.getElem?_set_self h1] at e
    cases e; rw [hc] at q; cases q; exact r
  · rw [List.getElem?_set_ne (Ne.symm hd)] at e
    have r' := S.cell d y b e q
    have hba : b ≠ a := fun z => by
      subst z
      exact hd (nodup_idx S.nd q hc)
    have mem : a ∈ ρ := List.mem_of_getElem? hc
    refine r'.mono (O := NoO) (List.prefix_refl _) (fun b' o e n _ => (hs.2 b' fun z => n (by rw [z]; exact mem)).trans e) S.mutR (mutO_no _) (fun _ m => .inl m) (hs.2 b hba)
theorem step_upd {ρ : List Addr} {s : Shared} {h' : Heap} {tk : Nat} {a : Addr} {o : Obj} (hs : Heap.SameBut a s.heap h') (m : a ∈ ρ) (ho : h'.get? a = some o) : Step NoO ρ s ρ { s with heap := h', toks := tk } :=
  ⟨⟨h', tk, rfl⟩, List.prefix_refl _, fun _ m => .inl m, fun b o e n _ => (hs.2 b fun z => n (by rw [z]; exact m)).trans e, fun b o' e => by
    by_cases hb : b = a
    · subst hb; exact ⟨o, ho⟩
    · exact ⟨o', (hs.2 b hb).trans e⟩⟩

end HQ
end
section
set_option autoImplicit false
set_option linter.unusedSectionVars false
set_option maxRecDepth 10000
namespace HQ
open PySem PySem.W PySem.Calls PyProof.Rows PySem.Spec
variable [Gh]

/-- the ways a primitive may leave: the value x out of the new store σ' -/
noncomputable def Ret (w : World) (h₀ : Heap) (ρ : List Addr) (s : Shared) (σ' : Sto) (x : V) (Q : Value → Shared → Prop) : Prop :=
  ∀ v ρ' s', Step NoO ρ s ρ' s' → St w h₀ ρ' σ' s'.heap → RV ρ' s'.heap v x → Q v s'
noncomputable def RetB (w : World) (h₀ : Heap) (ρ : List Addr) (s : Shared) (σ' : Sto) (b : Bool) (Q : Bool → Shared → Prop) : Prop :=
  ∀ ρ' s', Step NoO ρ s ρ' s' → St w h₀ ρ' σ' s'.heap → Q b s'
noncomputable def RetU (w : World) (h₀ : Heap) (ρ : List Addr) (s : Shared) (σ' : Sto) (Q : Unit → Shared → Prop) : Prop :=
  ∀ ρ' s', Step NoO ρ s ρ' s' → St w h₀ ρ' σ' s'.heap → Q () s'

section
variable {w : World} {h₀ : Heap} {ρ : List Addr} {s : Shared} {σ σ' : Sto} {x : V} {A : Around} {Q : Value → Shared → Prop} {E : Value → Shared → Prop}

/-- a value that asks the heap for nothing -/
theorem Ret.flat (k : Ret w h₀ ρ s σ x Q) (S : St w h₀ ρ σ s.heap) {v : Value} (r : ∀ h, RV ρ h v x) (tk : Nat) : Q v { s with toks := tk } :=
  k v ρ _ step_toks S (r _)
theorem Ret.flat' (k : Ret w h₀ ρ s σ x Q) (S : St w h₀ ρ σ s.heap) {v : Value} (r : ∀ h, RV ρ h v x) : Q v s :=
  k v ρ _ Step.refl S (r _)
/-- a value of a heap that has grown -/
theorem Ret.grown (k : Ret w h₀ ρ s σ x Q) (S : St w h₀ ρ σ s.heap) {v : Value} {h' : Heap} (g : ∀ b o, s.heap.get? b = some o → h'.get? b = some o) (r : RV ρ h' v x) (tk : Nat) : Q v { s with heap := h', toks := tk } :=
  k v ρ _ (step_ext g) (S.ext g) r
theorem Ret.here (k : Ret w h₀ ρ s σ x Q) (S : St w h₀ ρ σ s.heap) {v : Value} (r : RV ρ s.heap v x) : Q v s :=
  k v ρ _ Step.refl S r

theorem RV.push {h : Heap} {v : Value} {y : V} (r : RV ρ h v y) (S : St w h₀ ρ σ h) {h' : Heap} (g : ∀ b o, h.get? b = some o → h'.get? b = some o) : RV ρ h' v y :=
  r.mono (O := NoO) (List.prefix_refl _) (fun b o e _ _ => g b o e) S.mutR (mutO_no _) (fun _ m => .inl m)
theorem RL.push {h : Heap} {v : List Value} {y : List V} (r : RL ρ h v y) (S : St w h₀ ρ σ h) {h' : Heap} (g : ∀ b o, h.get? b = some o → h'.get? b = some o) : RL ρ h' v y :=
  r.mono (O := NoO) (List.prefix_refl _) (fun b o e _ _ => g b o e) S.mutR (mutO_no _) (fun _ m => .inl m)
theorem grow (h : Heap) (o : Obj) : ∀ b o', h.get? b = some o' → (h.push o).get? b = some o' := fun _ _ e => Heap.get?_push_of_some _ e
theorem fresh_none (h : Heap) : h.get? h.objs.size = Option.none := by
  cases e : h.get? h.objs.size with
  | none => rfl
  | some o => exact absurd (Heap.lt_size e) (Nat.lt_irrefl _)

/-- a new list as a new cell -/
theorem Ret.newList (S : St w h₀ ρ σ s.heap) {vs : List Value} {l : List V} (r : RL ρ s.heap vs l) (k : Ret w h₀ ρ s (appF σ [.list l]) (.ref (lenF σ)) Q) (tk : Nat) :
    Q (.ref s.heap.objs.size) { s with heap := s.heap.push { cls := .type "list", data := .seq vs.toArray }, toks := tk } := by
  have g := grow s.heap { cls := .type "list", data := .seq vs.toArray }
  have f := fresh_none s.heap
  refine k _ (ρ ++ [s.heap.objs.size]) _ (step_push g f) (S.push g f (Nat.le_refl _) ⟨vs, ⟨0, Heap.get?_push_size _ rfl⟩, ?_⟩) (.ref ?_)
  · exact r.mono (O := NoO) (List.prefix_append _ _) (fun b o e _ _ => g b o e) S.mutR (mutO_no _) (fun b m => by
      rcases List.mem_append.mp m with m | m
      · exact .inl m
      · simp at m; subst m; exact .inr f)
  · rw [← S.lenF]; simp
theorem Ret.newLst (S : St w h₀ ρ σ s.heap) {vs : List Value} {l : List V} (r : RL ρ s.heap vs l) (k : Ret w h₀ ρ s σ (.lst l) Q) (tk : Nat) :
    Q (.ref s.heap.objs.size) { s with heap := s.heap.push { cls := .type "list", data := .seq vs.toArray }, toks := tk } := by
  have g := grow s.heap { cls := .type "list", data := .seq vs.toArray }
  refine k.grown S g (.lst ⟨_, Heap.get?_push_size _ rfl, rfl, 0, rfl⟩ (fun m => ?_) (r.push S g)) tk
  obtain ⟨o, e, _⟩ := S.mutR _ m; rw [fresh_none] at e; cases e
theorem Ret.newTup (S : St w h₀ ρ σ s.heap) {vs : List Value} {l : List V} (r : RL ρ s.heap vs l) (k : Ret w h₀ ρ s σ (.tup l) Q) (tk : Nat) :
    Q (.ref s.heap.objs.size) { s with heap := s.heap.push { cls := .type "tuple", data := .seq vs.toArray }, toks := tk } := by
  have g := grow s.heap { cls := .type "tuple", data := .seq vs.toArray }
  exact k.grown S g (.tup ⟨_, Heap.get?_push_size _ rfl, rfl, 0, rfl⟩ (r.push S g)) tk

theorem listAt_some {σ : Sto} {c : Nat} {l : List V} (e : listAt σ c = some l) : (getF σ c) = some (.list l) := by
  unfold listAt at e; split at e <;> first | (cases e; assumption) | cases e
theorem dictAt_some {σ : Sto} {c : Nat} {l : List (Int × V)} (e : dictAt σ c = some l) : (getF σ c) = some (.dict l) := by
  unfold dictAt at e; split at e <;> first | (cases e; assumption) | cases e

/-- a list of the program's, as the heap bears it -/
theorem list_in (S : St w h₀ ρ σ s.heap) {v : Value} {y : V} {l : List V} (r : RV ρ s.heap v y) (e : listOf? σ y = some l) : ∃ a vs, v = .ref a ∧ s.heap.IsList a vs.toArray ∧ RL ρ s.heap vs l := by
  cases r with
  | lst hl _ hr => simp only [listOf?] at e; cases e; exact ⟨_, _, rfl, hl, hr⟩
  | ref q =>
    simp only [listOf?] at e
    obtain ⟨vs, ⟨n, h⟩, hr⟩ := S.ref (listAt_some e) q
    exact ⟨_, vs, rfl, ⟨_, h, rfl, n, rfl⟩, hr⟩
  | _ => simp [listOf?] at e

theorem str_app (x y : List Nat) : (⟨x.toArray⟩ : Str) ++ ⟨y.toArray⟩ = ⟨(x ++ y).toArray⟩ := by
  show (⟨x.toArray ++ y.toArray⟩ : Str) = _
  simp
theorem rep_fold {α : Type} (c : α) : ∀ (n : Nat) (acc : Array α), (List.replicate n #[c]).foldl (· ++ ·) acc = acc ++ (List.replicate n c).toArray
  | 0, acc => by simp
  | n + 1, acc => by
    rw [List.replicate_succ, List.foldl_cons, rep_fold c n, List.replicate_succ]
    apply Array.ext'
    simp
theorem txt_mul (c : Nat) (n : Int) : Txt.mul ⟨[c].toArray⟩ n = ⟨(List.replicate n.toNat c).toArray⟩ := by
  unfold Txt.mul
  split
  · rename_i h
    rw [show n.toNat = 0 by omega]; rfl
  · split
    · rename_i h1 h2
      have : n = 1 := by
        simp [Str.length] at h2; exact h2
      subst this; rfl
    · rename_i h1 h2
      show (⟨(List.replicate n.toNat #[c]).foldl (· ++ ·) #[]⟩ : Str) = _
      rw [rep_fold]; simp

theorem add_listsH {l b : Addr} {vs us : List Value} (hl : s.heap.IsList l vs.toArray) (hb : s.heap.IsList b us.toArray)
    (h : Q (.ref s.heap.objs.size) { s with heap := s.heap.push { cls := .type "list", data := .seq (vs ++ us).toArray } }) (hsz : vs.length + us.length ≤ sizeLine) :
    wpAny (model prog w) A (binaryOp .Add (.ref l) (.ref b)) Q E s := by
  obtain ⟨⟨cls, dd, data, sl⟩, ho, hc, n, hd⟩ := id hl
  obtain ⟨⟨cls2, dd2, data2, sl2⟩, ho2, hc2, n2, hd2⟩ := id hb
  simp only at hc hd hc2 hd2
  subst hc hd hc2 hd2
  have e : vs.toArray ++ us.toArray = (vs ++ us).toArray := by simp
  refine concat_meets ⟨_, ho, rfl⟩ ⟨_, ho2, rfl⟩ noFill_list_add seq_list_add PySem.F.slot_list_add PySem.F.entry_list_add (PySem.F.args_list_add_2 _ _) (list_addW l b vs.toArray us.toArray n n2 dd dd2 sl sl2 (by simpa using hsz)) ⟨ho, ho2, ?_⟩
  rw [e]; exact h
theorem add_tuplesH {t b : Addr} {vs us : List Value} (ht : s.heap.IsTuple t vs.toArray) (hb : s.heap.IsTuple b us.toArray)
    (h0 : vs = [] → Q (.ref b) s) (h1 : vs ≠ [] → us = [] → Q (.ref t) s)
    (h2 : Q (.ref s.heap.objs.size) { s with heap := s.heap.push { cls := .type "tuple", data := .seq (vs ++ us).toArray } })
    (hsz : vs.length + us.length ≤ sizeLine) :
    wpAny (model prog w) A (binaryOp .Add (.ref t) (.ref b)) Q E s := by
  obtain ⟨⟨cls, dd, data, sl⟩, ho, hc, n, hd⟩ := id ht
  obtain ⟨⟨cls2, dd2, data2, sl2⟩, ho2, hc2, n2, hd2⟩ := id hb
  simp only at hc hd hc2 hd2
  subst hc hd hc2 hd2
  have e : vs.toArray ++ us.toArray = (vs ++ us).toArray := by simp
  by_cases hv : vs = []
  · exact concat_meets ⟨_, ho, rfl⟩ ⟨_, ho2, rfl⟩ noFill_tuple_add seq_tuple_add PySem.F.slot_tuple_add PySem.F.entry_tuple_add (PySem.F.args_tuple_add_2 _ _)
      (tuple_addW0 t b vs.toArray us.toArray n n2 dd dd2 sl sl2 (by simp [hv])) ⟨ho, ho2, h0 hv⟩
  · by_cases hw : us = []
    · exact concat_meets ⟨_, ho, rfl⟩ ⟨_, ho2, rfl⟩ noFill_tuple_add seq_tuple_add PySem.F.slot_tuple_add PySem.F.entry_tuple_add (PySem.F.args_tuple_add_2 _ _)
        (tuple_addW1 t b vs.toArray us.toArray n n2 dd dd2 sl sl2 (by simpa using hv) (by simp [hw])) ⟨ho, ho2, h1 hv hw⟩
    · refine concat_meets ⟨_, ho, rfl⟩ ⟨_, ho2, rfl⟩ noFill_tuple_add seq_tuple_add PySem.F.slot_tuple_add PySem.F.entry_tuple_add (PySem.F.args_tuple_add_2 _ _)
        (tuple_addW2 t b vs.toArray us.toArray n n2 dd dd2 sl sl2 (by simpa using hv) (by simpa using hw) (by rw [List.size_toArray, List.size_toArray]; exact hsz)) ⟨ho, ho2, ?_⟩
      rw [e]; exact h2
theorem mul_listH {l : Addr} {v : Value} {x : Int} {u : Tok} (hl : s.heap.PlainList l [v].toArray) (hlo : 0 ≤ x) (hhi : x ≤ 1000)
    (h : Q (.ref s.heap.objs.size) { s with heap := s.heap.push { cls := .type "list", data := .seq (List.replicate x.toNat v).toArray } }) :
    wpAny (model prog w) A (binaryOp .Mult (.ref l) (.int x u)) Q E s := by
  obtain ⟨k, hl⟩ := hl
  have e : List.foldl (fun x1 x2 => x1 ++ x2) #[] (List.replicate (if ([v].toArray).isEmpty = true then 0 else x.toNat) [v].toArray) = (List.replicate x.toNat v).toArray := by
    rw [if_neg (by simp)]
    show (List.replicate x.toNat #[v]).foldl (· ++ ·) #[] = _
    rw [rep_fold]; simp
  refine wpAny_binaryOp_repeat_ref (T := "list") (U := "int") (by decide) ⟨_, hl, rfl⟩ (fun s' => typeIs_int s' x u) noFill_list_mul PySem.F.fills_int_mul PySem.F.slot_int_rmul repeat_list PySem.F.slot_int_index.lookup
    (call_meets PySem.F.slot_int_rmul (typeIs_int s x u) PySem.F.entry_int_rmul (PySem.F.args_int_rmul_2 _ _) (int___rmul___int_list x u l [v].toArray k)
      ⟨hl, rfl, ⟨_, hl, rfl⟩, call_meets PySem.F.slot_list_mul ⟨_, hl, rfl⟩ PySem.F.entry_list_mul (PySem.F.args_list_mul_2 _ _)
        (AutoListH.list___mul___list_int_3 l [v].toArray k x u (by simp [Builtin.List.listFitsIndex]; omega) (by simp; omega) (by simp [Builtin.List.listTooLong, sizeLine]; omega))
        ⟨hl, ?_⟩⟩)
  rw [e]; exact h

theorem asInt_some {v : V} {i : Int} (e : asInt v = some i) : v = .int i := by
  cases v <;> first | (cases e; rfl) | cases e
theorem asStr_some {v : V} {i : List Nat} (e : asStr v = some i) : v = .str i := by
  cases v <;> first | (cases e; rfl) | cases e
theorem asTup_some {v : V} {i : List V} (e : asTup v = some i) : v = .tup i := by
  cases v <;> first | (cases e; rfl) | cases e
theorem both_some {α β : Type} {f : V → Option α} {g : V → Option β} {a b : V} {x : α} {y : β} (e : both f g a b = some (x, y)) : f a = some x ∧ g b = some y := by
  unfold both at e
  cases h1 : f a with
  | none => rw [h1] at e; cases e
  | some u =>
    cases h2 : g b with
    | none => rw [h1, h2] at e; cases e
    | some v => rw [h1, h2] at e; cases e; exact ⟨rfl, rfl⟩
theorem int_of {h : Heap} {v : Value} {i : Int} (r : RV ρ h v (.int i)) : ∃ t, v = .int i t := by cases r; exact ⟨_, rfl⟩
theorem str_of {h : Heap} {v : Value} {l : List Nat} (r : RV ρ h v (.str l)) : ∃ t, v = .str ⟨l.toArray⟩ t := by cases r; exact ⟨_, rfl⟩
theorem tup_of {h : Heap} {v : Value} {l : List V} (r : RV ρ h v (.tup l)) : ∃ a vs, v = .ref a ∧ h.IsTuple a vs.toArray ∧ RL ρ h vs l := by cases r; exact ⟨_, _, rfl, by assumption, by assumption⟩

section
variable {a b : Value} {y z : V}
theorem addL_sound (S : St w h₀ ρ σ s.heap) (ra : RV ρ s.heap a y) (rb : RV ρ s.heap b z) (e : addL σ y z = some (x, σ')) (k : Ret w h₀ ρ s σ' x Q) : wpAny (model prog w) A (binaryOp .Add a b) Q E s := by
  unfold addL at e
  cases h1 : listOf? σ y with
  | none => rw [h1] at e; cases e
  | some l =>
    cases h2 : listOf? σ z with
    | none => rw [h1, h2] at e; cases e
    | some m =>
      rw [h1, h2] at e
      dsimp only at e
      by_cases hsz : l.length + m.length ≤ 1000
      · rw [if_pos hsz] at e
        cases e
        obtain ⟨a1, vs, rfl, hl, hr⟩ := list_in S ra h1
        obtain ⟨a2, us, rfl, hl2, hr2⟩ := list_in S rb h2
        exact add_listsH hl hl2 (Ret.newList S (hr.append hr2) k s.toks) (by rw [hr.length, hr2.length, sizeLine_eq]; omega)
      · rw [if_neg hsz] at e; cases e
theorem addV_sound (S : St w h₀ ρ σ s.heap) (ra : RV ρ s.heap a y) (rb : RV ρ s.heap b z) (e : addV σ y z = some (x, σ')) (k : Ret w h₀ ρ s σ' x Q) : wpAny (model prog w) A (binaryOp .Add a b) Q E s := by
  unfold addV at e
  cases h1 : both asInt asInt y z with
  | some p =>
    obtain ⟨i, j⟩ := p
    rw [h1] at e
    cases e
    obtain ⟨g1, g2⟩ := both_some h1
    rw [asInt_some g1] at ra; rw [asInt_some g2] at rb
    obtain ⟨t, rfl⟩ := int_of ra
    obtain ⟨u, rfl⟩ := int_of rb
    exact P.add_int (k.flat S (fun _ => .int _ _) _)
  | none =>
    rw [h1] at e
    dsimp only at e
    cases h2 : both asStr asStr y z with
    | some p =>
      obtain ⟨i, j⟩ := p
      rw [h2] at e
      dsimp only at e
      obtain ⟨g1, g2⟩ := both_some h2
      rw [asStr_some g1] at ra; rw [asStr_some g2] at rb
      obtain ⟨t, rfl⟩ := str_of ra
      obtain ⟨u, rfl⟩ := str_of rb
      by_cases hsz : i.length + j.length ≤ 1000
      · rw [if_pos hsz] at e
        cases e
        refine SB.add (fun t' k' => ?_) (by simp [Str.length, sizeLine_eq]; omega)
        rw [str_app]; exact k.flat S (fun _ => .str _ _) _
      · rw [if_neg hsz] at e; cases e
    | none =>
      rw [h2] at e
      dsimp only at e
      cases h3 : both asTup asTup y z with
      | some p =>
        obtain ⟨l, m⟩ := p
        rw [h3] at e
        dsimp only at e
        obtain ⟨g1, g2⟩ := both_some h3
        rw [asTup_some g1] at ra; rw [asTup_some g2] at rb
        obtain ⟨a1, vs, rfl, ht, hr⟩ := tup_of ra
        obtain ⟨a2, us, rfl, ht2, hr2⟩ := tup_of rb
        by_cases hsz : l.length + m.length ≤ 1000
        · rw [if_pos hsz] at e
          cases e
          refine add_tuplesH ht ht2 (fun e0 => ?_) (fun _ e0 => ?_) (Ret.newTup S (hr.append hr2) k s.toks) (by rw [hr.length, hr2.length, sizeLine_eq]; omega)
          · subst e0; cases hr; exact k.here S (.tup ht2 hr2)
          · subst e0; cases hr2; rw [List.append_nil] at k; exact k.here S (.tup ht hr)
        · rw [if_neg hsz] at e; cases e
      | none => rw [h3] at e; exact addL_sound S ra rb e k
theorem RL.rep {h : Heap} {v : Value} {y : V} (r : RV ρ h v y) : ∀ n, RL ρ h (List.replicate n v) (List.replicate n y)
  | 0 => .nil
  | n + 1 => .cons r (RL.rep r n)
theorem mulV_sound (S : St w h₀ ρ σ s.heap) (ra : RV ρ s.heap a y) (rb : RV ρ s.heap b z) (e : mulV σ y z = some (x, σ')) (k : Ret w h₀ ρ s σ' x Q) : wpAny (model prog w) A (binaryOp .Mult a b) Q E s := by
  unfold mulV at e
  cases h0 : asInt z with
  | none => rw [h0] at e; cases e
  | some j =>
    rw [h0] at e
    dsimp only at e
    rw [asInt_some h0] at rb
    obtain ⟨u, rfl⟩ := int_of rb
    cases h1 : asInt y with
    | some i =>
      rw [h1] at e
      dsimp only at e
      rw [asInt_some h1] at ra
      obtain ⟨t, rfl⟩ := int_of ra
      by_cases h : -4611686018427387904 < j ∧ j < 4611686018427387904
      · rw [if_pos h] at e
        cases e
        exact P.mul_int (k.flat S (fun _ => .int _ _) _) (IntMulOk.of_right (intBits_le_64 (by omega) (by omega)))
      · rw [if_neg h] at e; cases e
    | none =>
      rw [h1] at e
      dsimp only at e
      cases h2 : asStr y with
      | some sx =>
        rw [h2] at e
        dsimp only at e
        rw [asStr_some h2] at ra
        obtain ⟨t, rfl⟩ := str_of ra
        cases sx with
        | nil => cases e
        | cons c sr =>
        cases sr with
        | cons _ _ => cases e
        | nil =>
          unfold strMul at e
          dsimp only at e
          by_cases h : 0 ≤ j ∧ j ≤ 1000
          · rw [if_pos h] at e
            cases e
            have h1 : Str.length ⟨[c].toArray⟩ = 1 := rfl
            refine SB.mul ⟨?_, fun h2 _ => ?_, fun _ _ => ?_⟩ (fun t' k' => ?_)
            · simp; omega
            · rw [h1]
              have : 1 ≤ (2 ^ 63 - 1) / j := Int.le_ediv_of_mul_le (by omega) (by omega)
              omega
            · rw [h1]; simp [Builtin.Str.tooLong, sizeLine]; omega
            · rw [txt_mul]; exact k.flat S (fun _ => .str _ _) _
          · rw [if_neg h] at e; cases e
      | none =>
        rw [h2] at e
        dsimp only at e
        cases ra with
        | @ref a1 c q =>
          dsimp only at e
          cases hv : listAt σ c with
          | none => rw [hv] at e; cases e
          | some l =>
            rw [hv] at e
            obtain ⟨vs, hp, hr⟩ := S.ref (listAt_some hv) q
            cases l with
            | nil => cases e
            | cons v lr =>
            cases lr with
            | cons _ _ => cases e
            | nil =>
              cases hr with
              | cons h1 hr =>
              cases hr
              unfold lstMul at e
              dsimp only at e
              by_cases h : 0 ≤ j ∧ j ≤ 1000
              · rw [if_pos h] at e
                cases e
                exact mul_listH hp h.1 h.2 (Ret.newList S (RL.rep h1 _) k s.toks)
              · rw [if_neg h] at e; cases e
        | _ => cases e
end
theorem bin_sound (S : St w h₀ ρ σ s.heap) {a b : Value} {y z : V} {op : Operator} (ra : RV ρ s.heap a y) (rb : RV ρ s.heap b z) (e : binV σ op y z = some (x, σ')) (k : Ret w h₀ ρ s σ' x Q) :
    wpAny (model prog w) A (binaryOp op a b) Q E s := by
  by_cases h1 : op = .Add
  · subst h1; exact addV_sound S ra rb e k
  by_cases h2 : op = .Mult
  · subst h2; exact mulV_sound S ra rb e k
  have e : (match both asInt asInt y z with
    | some (i, j) => (match intOp op i j with | some r => some (V.int r, σ) | Option.none => Option.none)
    | Option.none => Option.none) = some (x, σ') := by
    cases op <;> first | exact e | exact absurd rfl h1 | exact absurd rfl h2
  cases h0 : both asInt asInt y z with
  | none => rw [h0] at e; cases e
  | some p =>
    obtain ⟨i, j⟩ := p
    rw [h0] at e
    dsimp only at e
    obtain ⟨g1, g2⟩ := both_some h0
    rw [asInt_some g1] at ra; rw [asInt_some g2] at rb
    obtain ⟨t, rfl⟩ := int_of ra
    obtain ⟨u, rfl⟩ := int_of rb
    cases h3 : intOp op i j with
    | none => rw [h3] at e; cases e
    | some r =>
      rw [h3] at e
      cases e
      cases op with
      | Sub => cases h3; exact P.sub_int (k.flat S (fun _ => .int _ _) _)
      | FloorDiv =>
        dsimp only [intOp] at h3
        by_cases h : j ≠ 0 ∧ j.natAbs < 1073741824
        · rw [if_pos h] at h3; cases h3; exact floordiv_int h.1 (k.flat S (fun _ => .int _ _) _) (.inl (PyProof.noPylong_small h.2))
        · rw [if_neg h] at h3; cases h3
      | Mod =>
        dsimp only [intOp] at h3
        by_cases h : j ≠ 0
        · rw [if_pos h] at h3; cases h3; exact mod_int' h (k.flat S (fun _ => .int _ _) _)
        · rw [if_neg h] at h3; cases h3
      | RShift =>
        dsimp only [intOp] at h3
        by_cases h : j = 1 ∧ 0 ≤ i
        · rw [if_pos h] at h3; cases h3
          obtain ⟨rfl, hp⟩ := h
          exact wpAny_rshift1_int hp (k.flat S (fun _ => .int _ _) _)
        · rw [if_neg h] at h3; cases h3
      | _ => cases h3
end
end HQ
end
section
set_option autoImplicit false
set_option linter.unusedSectionVars false
set_option maxRecDepth 10000
namespace HQ
open PySem PySem.W PySem.Calls PyProof.Rows PySem.Spec
variable [Gh]
open SeqAt (EqAt RcAt)
open AutoSeq1 (wpAny_loadPart')
open MeetsSeq MeetsSeq2 MeetsSeq3 SeqRoads2

/-- a comparison that gives a truth and changes nothing -/
noncomputable def OpAt (op : CmpOp) (A : Around) (s : Shared) (y x : Value) (b : Bool) : Prop :=
  ∀ (prog : Program) (w : World) (E : Value → Shared → Prop) (Q : Value → Shared → Prop), Q (.bool b) s → wpAny (model prog w) A (richCompare op y x) Q E s

inductive LexAt (op : CmpOp) (A : Around) (s : Shared) (fin : Bool) : List (Value × Value) → Bool → Prop
  | nil : LexAt op A s fin [] fin
  | eq {p q : Value} {r : List (Value × Value)} {b : Bool} : EqAt A s p q true → LexAt op A s fin r b → LexAt op A s fin ((p, q) :: r) b
  | ne {p q : Value} {r : List (Value × Value)} {b : Bool} : EqAt A s p q false → OpAt op A s p q b → LexAt op A s fin ((p, q) :: r) b

inductive EqL (A : Around) (s : Shared) (fin : Bool) : List (Value × Value) → Bool → Prop
  | nil : EqL A s fin [] fin
  | eq {p q : Value} {r : List (Value × Value)} {b : Bool} : EqAt A s p q true → EqL A s fin r b → EqL A s fin ((p, q) :: r) b
  | ne {p q : Value} {r : List (Value × Value)} : EqAt A s p q false → EqL A s fin ((p, q) :: r) false

theorem tuple_eqL (l b : Addr) (items items2 : Array Value) (n n2 : Nat) (dd dd2 : Option Addr) (sl sl2 : Array (Option Value)) (res : Bool) :
    Meets (Builtin.«tuple.__eq__» ⟨[.ref l, .ref b], []⟩)
      (fun A R s => s.heap.get? l = some { cls := .type "tuple", dict := dd, data := .seq items n, slots := sl } ∧ s.heap.get? b = some { cls := .type "tuple", dict := dd2, data := .seq items2 n2, slots := sl2 } ∧
        EqL A.in1 s (items.size == items2.size) (items.toList.zip items2.toList) res ∧
        R (.ok (.ret (.bool res))) s) :=
  .of_wp fun prog w A R s h => by
    obtain ⟨hp, g, d, tk, os⟩ := s; obtain ⟨hl, hb, he, h⟩ := h
    have f2 := AutoSeq1.sub_tuple_tuple
    wp_walk using wpAny_loadPart' hl, wpAny_loadPart' hb, wpAny_forIn_list _ (fun rest b s' => b.1 = none ∧ s' = ⟨hp, g, d, tk, os⟩ ∧ EqL A.in1 ⟨hp, g, d, tk, os⟩ (items.size == items2.size) rest res) _
    case turn =>
      rintro ⟨y, x⟩ rest b s' ⟨hb', rfl, hz⟩
      cases hz with
      | eq h1 h2 =>
        refine wpAny_bind (h1 prog w _ _ ?_)
        wp_walk
        exact ⟨rfl, rfl, h2⟩
      | ne h1 =>
        refine wpAny_bind (h1 prog w _ _ ?_)
        wp_walk
        exact ⟨_, rfl, h⟩
    case fin =>
      rintro ⟨b1, b2⟩ s' ⟨hb', rfl, hz⟩
      simp only at hb'
      subst hb'
      cases hz
      wp_walk
      exact ⟨_, rfl, by simpa [Builtin.Tuple.tupleCompareSizes] using h⟩
    case h =>
      exact ⟨rfl, rfl, he⟩
theorem tuple_neL (l b : Addr) (items items2 : Array Value) (n n2 : Nat) (dd dd2 : Option Addr) (sl sl2 : Array (Option Value)) (res : Bool) :
    Meets (Builtin.«tuple.__ne__» ⟨[.ref l, .ref b], []⟩)
      (fun A R s => s.heap.get? l = some { cls := .type "tuple", dict := dd, data := .seq items n, slots := sl } ∧ s.heap.get? b = some { cls := .type "tuple", dict := dd2, data := .seq items2 n2, slots := sl2 } ∧
        EqL A.in1 s (items.size == items2.size) (items.toList.zip items2.toList) res ∧
        R (.ok (.ret (.bool (!res)))) s) :=
  .of_wp fun prog w A R s h => by
    obtain ⟨hp, g, d, tk, os⟩ := s; obtain ⟨hl, hb, he, h⟩ := h
    have f2 := AutoSeq1.sub_tuple_tuple
    wp_walk using wpAny_loadPart' hl, wpAny_loadPart' hb, wpAny_forIn_list _ (fun rest b s' => b.1 = none ∧ s' = ⟨hp, g, d, tk, os⟩ ∧ EqL A.in1 ⟨hp, g, d, tk, os⟩ (items.size == items2.size) rest res) _
    case turn =>
      rintro ⟨y, x⟩ rest b s' ⟨hb', rfl, hz⟩
      cases hz with
      | eq h1 h2 =>
        refine wpAny_bind (h1 prog w _ _ ?_)
        wp_walk
        exact ⟨rfl, rfl, h2⟩
      | ne h1 =>
        refine wpAny_bind (h1 prog w _ _ ?_)
        wp_walk
        exact ⟨_, rfl, h⟩
    case fin =>
      rintro ⟨b1, b2⟩ s' ⟨hb', rfl, hz⟩
      simp only at hb'
      subst hb'
      cases hz
      wp_walk
      exact ⟨_, rfl, by simpa [Builtin.Tuple.tupleCompareSizes, bne] using h⟩
    case h =>
      exact ⟨rfl, rfl, he⟩
theorem tuple_ltAt (l b : Addr) (items items2 : Array Value) (n n2 : Nat) (dd dd2 : Option Addr) (sl sl2 : Array (Option Value)) (res : Bool) :
    Meets (Builtin.«tuple.__lt__» ⟨[.ref l, .ref b], []⟩)
      (fun A R s => s.heap.get? l = some { cls := .type "tuple", dict := dd, data := .seq items n, slots := sl } ∧ s.heap.get? b = some { cls := .type "tuple", dict := dd2, data := .seq items2 n2, slots := sl2 } ∧
        LexAt .Lt A.in1 s (decide (items.size < items2.size)) (items.toList.zip items2.toList) res ∧
        R (.ok (.ret (.bool res))) s) :=
  .of_wp fun prog w A R s h => by
    obtain ⟨hp, g, d, tk, os⟩ := s; obtain ⟨hl, hb, he, h⟩ := h
    have f2 := AutoSeq1.sub_tuple_tuple
    wp_walk using wpAny_loadPart' hl, wpAny_loadPart' hb, wpAny_forIn_list _ (fun rest b s' => b.1 = none ∧ s' = ⟨hp, g, d, tk, os⟩ ∧ LexAt .Lt A.in1 ⟨hp, g, d, tk, os⟩ (decide (items.size < items2.size)) rest res) _
    case turn =>
      rintro ⟨y, x⟩ rest b s' ⟨hb', rfl, hz⟩
      cases hz with
      | eq h1 h2 =>
        refine wpAny_bind (h1 prog w _ _ ?_)
        wp_walk
        exact ⟨rfl, rfl, h2⟩
      | ne h1 h2 =>
        refine wpAny_bind (h1 prog w _ _ ?_)
        rw [if_pos (by decide)]
        dsimp only
        refine wpAny_bind (wpAny_rule (wpAny_bind (h2 prog w _ _ ?_)))
        wp_walk
        exact ⟨_, rfl, h⟩
    case fin =>
      rintro ⟨b1, b2⟩ s' ⟨hb', rfl, hz⟩
      simp only at hb'
      subst hb'
      cases hz
      wp_walk
      exact ⟨_, rfl, by simpa [Builtin.Tuple.tupleCompareSizes] using h⟩
    case h =>
      exact ⟨rfl, rfl, he⟩
theorem tuple_leAt (l b : Addr) (items items2 : Array Value) (n n2 : Nat) (dd dd2 : Option Addr) (sl sl2 : Array (Option Value)) (res : Bool) :
    Meets (Builtin.«tuple.__le__» ⟨[.ref l, .ref b], []⟩)
      (fun A R s => s.heap.get? l = some { cls := .type "tuple", dict := dd, data := .seq items n, slots := sl } ∧ s.heap.get? b = some { cls := .type "tuple", dict := dd2, data := .seq items2 n2, slots := sl2 } ∧
        LexAt .LtE A.in1 s (decide (items.size ≤ items2.size)) (items.toList.zip items2.toList) res ∧
        R (.ok (.ret (.bool res))) s) :=
  .of_wp fun prog w A R s h => by
    obtain ⟨hp, g, d, tk, os⟩ := s; obtain ⟨hl, hb, he, h⟩ := h
    have f2 := AutoSeq1.sub_tuple_tuple
    wp_walk using wpAny_loadPart' hl, wpAny_loadPart' hb, wpAny_forIn_list _ (fun rest b s' => b.1 = none ∧ s' = ⟨hp, g, d, tk, os⟩ ∧ LexAt .LtE A.in1 ⟨hp, g, d, tk, os⟩ (decide (items.size ≤ items2.size)) rest res) _
    case turn =>
      rintro ⟨y, x⟩ rest b s' ⟨hb', rfl, hz⟩
      cases hz with
      | eq h1 h2 =>
        refine wpAny_bind (h1 prog w _ _ ?_)
        wp_walk
        exact ⟨rfl, rfl, h2⟩
      | ne h1 h2 =>
        refine wpAny_bind (h1 prog w _ _ ?_)
        rw [if_pos (by decide)]
        dsimp only
        refine wpAny_bind (wpAny_rule (wpAny_bind (h2 prog w _ _ ?_)))
        wp_walk
        exact ⟨_, rfl, h⟩
    case fin =>
      rintro ⟨b1, b2⟩ s' ⟨hb', rfl, hz⟩
      simp only at hb'
      subst hb'
      cases hz
      wp_walk
      exact ⟨_, rfl, by simpa [Builtin.Tuple.tupleCompareSizes] using h⟩
    case h =>
      exact ⟨rfl, rfl, he⟩

section
variable {A : Around} {s : Shared}
theorem lt_tuples {l b : Addr} {items items2 : Array Value} {res : Bool} (hl : s.heap.IsTuple l items) (hb : s.heap.IsTuple b items2) (hu : A.units < cLine)
    (he : LexAt .Lt A.in1 s (decide (items.size < items2.size)) (items.toList.zip items2.toList) res) : OpAt .Lt A s (.ref l) (.ref b) res := fun prog w E Q h => by
  obtain ⟨⟨cls, dd, data, sl⟩, ho, hc, n, hd⟩ := id hl
  obtain ⟨⟨cls2, dd2, data2, sl2⟩, ho2, hc2, n2, hd2⟩ := id hb
  simp only at hc hd hc2 hd2
  subst hc hd hc2 hd2
  exact richCompare_meets_room (op := .Lt) ⟨_, ho, rfl⟩ ⟨_, ho2, rfl⟩ PySem.F.slot_tuple_lt PySem.F.entry_tuple_lt (PySem.F.args_tuple_lt_2 _ _) (tuple_ltAt l b items items2 n n2 dd dd2 sl sl2 res)
    ⟨ho, ho2, he, show Value.bool res ≠ Value.notImplemented ∧ Q (.bool res) s from ⟨(fun x => nomatch x), h⟩⟩ hu
theorem le_tuples {l b : Addr} {items items2 : Array Value} {res : Bool} (hl : s.heap.IsTuple l items) (hb : s.heap.IsTuple b items2) (hu : A.units < cLine)
    (he : LexAt .LtE A.in1 s (decide (items.size ≤ items2.size)) (items.toList.zip items2.toList) res) : OpAt .LtE A s (.ref l) (.ref b) res := fun prog w E Q h => by
  obtain ⟨⟨cls, dd, data, sl⟩, ho, hc, n, hd⟩ := id hl
  obtain ⟨⟨cls2, dd2, data2, sl2⟩, ho2, hc2, n2, hd2⟩ := id hb
  simp only at hc hd hc2 hd2
  subst hc hd hc2 hd2
  exact richCompare_meets_room (op := .LtE) ⟨_, ho, rfl⟩ ⟨_, ho2, rfl⟩ PySem.F.slot_tuple_le PySem.F.entry_tuple_le (PySem.F.args_tuple_le_2 _ _) (tuple_leAt l b items items2 n n2 dd dd2 sl sl2 res)
    ⟨ho, ho2, he, show Value.bool res ≠ Value.notImplemented ∧ Q (.bool res) s from ⟨(fun x => nomatch x), h⟩⟩ hu

noncomputable def ltOf : Ord3 → Bool
  | .lt => true
  | _ => false
noncomputable def leOf : Ord3 → Bool
  | .gt => false
  | _ => true

/-- one and the same value stands for equal things alone -/

theorem eq_tuplesL {l b : Addr} {items items2 : Array Value} {res : Bool} (hl : s.heap.IsTuple l items) (hb : s.heap.IsTuple b items2) (hu : A.units < cLine)
    (he : EqL A.in1 s (items.size == items2.size) (items.toList.zip items2.toList) res) : OpAt .Eq A s (.ref l) (.ref b) res := fun prog w E Q h => by
  obtain ⟨⟨cls, dd, data, sl⟩, ho, hc, n, hd⟩ := id hl
  obtain ⟨⟨cls2, dd2, data2, sl2⟩, ho2, hc2, n2, hd2⟩ := id hb
  simp only at hc hd hc2 hd2
  subst hc hd hc2 hd2
  exact richCompare_meets_room (op := .Eq) ⟨_, ho, rfl⟩ ⟨_, ho2, rfl⟩ PySem.F.slot_tuple_eq PySem.F.entry_tuple_eq (PySem.F.args_tuple_eq_2 _ _) (tuple_eqL l b items items2 n n2 dd dd2 sl sl2 res)
    ⟨ho, ho2, he, show Value.bool res ≠ Value.notImplemented ∧ Q (.bool res) s from ⟨(fun x => nomatch x), h⟩⟩ hu
theorem ne_tuplesL {l b : Addr} {items items2 : Array Value} {res : Bool} (hl : s.heap.IsTuple l items) (hb : s.heap.IsTuple b items2) (hu : A.units < cLine)
    (he : EqL A.in1 s (items.size == items2.size) (items.toList.zip items2.toList) res) : OpAt .NotEq A s (.ref l) (.ref b) (!res) := fun prog w E Q h => by
  obtain ⟨⟨cls, dd, data, sl⟩, ho, hc, n, hd⟩ := id hl
  obtain ⟨⟨cls2, dd2, data2, sl2⟩, ho2, hc2, n2, hd2⟩ := id hb
  simp only at hc hd hc2 hd2
  subst hc hd hc2 hd2
  exact richCompare_meets_room (op := .NotEq) ⟨_, ho, rfl⟩ ⟨_, ho2, rfl⟩ PySem.F.slot_tuple_ne PySem.F.entry_tuple_ne (PySem.F.args_tuple_ne_2 _ _) (tuple_neL l b items items2 n n2 dd dd2 sl sl2 res)
    ⟨ho, ho2, he, show Value.bool (!res) ≠ Value.notImplemented ∧ Q (.bool (!res)) s from ⟨(fun x => nomatch x), h⟩⟩ hu
theorem eqAt_of_op {l b : Addr} {k : Bool} (hne : l ≠ b) (h : OpAt .Eq A s (.ref l) (.ref b) k) : EqAt A s (.ref l) (.ref b) k := EqAt.of_refs hne fun prog w E Q q => h prog w E Q q

theorem cmpV_cases {n : Nat} {x y : V} {o : Ord3} (e : cmpV (n + 1) x y = some o) : (∃ i j, x = .int i ∧ y = .int j ∧ o = cmpI i j) ∨ ∃ l m, x = .tup l ∧ y = .tup m ∧ cmpL (cmpV n) l m = some o := by
  unfold cmpV at e
  cases h1 : both asInt asInt x y with
  | some p =>
    obtain ⟨i, j⟩ := p
    rw [h1] at e; cases e
    obtain ⟨g1, g2⟩ := both_some h1
    exact .inl ⟨i, j, asInt_some g1, asInt_some g2, rfl⟩
  | none =>
    rw [h1] at e
    dsimp only at e
    cases h2 : both asTup asTup x y with
    | some p =>
      obtain ⟨l, m⟩ := p
      rw [h2] at e
      obtain ⟨g1, g2⟩ := both_some h2
      exact .inr ⟨l, m, asTup_some g1, asTup_some g2, e⟩
    | none => rw [h2] at e; cases e
theorem RV.same {ρ : List Addr} {h : Heap} : ∀ (n : Nat) {v : Value} {x y : V} {o : Ord3}, RV ρ h v x → RV ρ h v y → cmpV n x y = some o → o = .eq := by
  intro n
  induction n with
  | zero => intro v x y o _ _ e; cases e
  | succ n ih =>
    have all : ∀ {vs : List Value} {l m : List V} {o : Ord3}, RL ρ h vs l → RL ρ h vs m → cmpL (cmpV n) l m = some o → o = .eq := by
      intro vs l m o r q e
      induction l generalizing vs m with
      | nil => cases r; cases q; cases e; rfl
      | cons a t iht =>
        cases r with
        | cons h1 h2 => cases q with
          | cons h3 h4 =>
            simp only [cmpL] at e
            split at e
            · exact iht h2 h4 e
            · rename_i hne
              have := ih h1 h3 e
              exact this
    intro v x y o r q e
    rcases cmpV_cases e with ⟨i, j, rfl, rfl, rfl⟩ | ⟨l, m, rfl, rfl, e⟩
    · cases r; cases q; simp [cmpI]
    · obtain ⟨a, vs, rfl, ht, hr⟩ := tup_of r
      obtain ⟨a2, us, e2, ht2, hr2⟩ := tup_of q
      cases e2
      obtain ⟨o1, f1, _, n1, d1⟩ := ht
      obtain ⟨o2, f2, _, n2, d2⟩ := ht2
      have e3 := Option.some.inj (f1.symm.trans f2)
      rw [← e3, d1] at d2
      have hvu : vs = us := by injection d2 with hx hy; exact congrArg Array.toList hx
      subst hvu
      exact all hr hr2 e


noncomputable def lenOrd (a b : Nat) : Ord3 := if a < b then .lt else if b < a then .gt else .eq
theorem lenOrd_succ (a b : Nat) : lenOrd (a + 1) (b + 1) = lenOrd a b := by simp [lenOrd]
theorem eq_of_isEq {o : Ord3} (h : isEq o = true) : o = .eq := by cases o <;> first | rfl | cases h
theorem ltOf_len (a b : Nat) : ltOf (lenOrd a b) = decide (a < b) := by
  unfold lenOrd
  by_cases h : a < b
  · simp [h, ltOf]
  · by_cases h2 : b < a <;> simp [h, h2, ltOf]
theorem leOf_len (a b : Nat) : leOf (lenOrd a b) = decide (a ≤ b) := by
  unfold lenOrd
  by_cases h : a < b
  · simp [h, leOf]; omega
  · by_cases h2 : b < a
    · simp [h, h2, leOf]
    · simp [h, h2, leOf]; omega
theorem isEq_len (a b : Nat) : isEq (lenOrd a b) = (a == b) := by
  unfold lenOrd
  by_cases h : a < b
  · have : (a == b) = false := by simp; omega
    simp [h, isEq, this]
  · by_cases h2 : b < a
    · have : (a == b) = false := by simp; omega
      simp [h, h2, isEq, this]
    · have : a = b := by omega
      subst this; simp [isEq]

theorem lex_of {ρ : List Addr} {n : Nat} {op : CmpOp} {f : Ord3 → Bool} (H : ∀ {v u : Value} {x y : V} {o : Ord3}, RV ρ s.heap v x → RV ρ s.heap u y → cmpV n x y = some o → EqAt A s v u (isEq o) ∧ OpAt op A s v u (f o)) :
    ∀ {l m : List V} {vs us : List Value} {o : Ord3}, RL ρ s.heap vs l → RL ρ s.heap us m → cmpL (cmpV n) l m = some o → LexAt op A s (f (lenOrd vs.length us.length)) (vs.zip us) (f o) := by
  intro l
  induction l with
  | nil =>
    intro m vs us o r1 r2 e
    cases r1
    cases r2 <;> (cases e; exact .nil)
  | cons x l ih =>
    intro m vs us o r1 r2 e
    cases r1 with
    | cons h1 h2 =>
    cases r2 with
    | nil => cases e; exact .nil
    | cons h3 h4 =>
    rename_i v vs u y us m
    have e : (match cmpV n x y with | some .eq => cmpL (cmpV n) l m | o => o) = some o := e
    rw [List.length_cons, List.length_cons, lenOrd_succ, List.zip_cons_cons]
    cases he : cmpV n x y with
    | none => rw [he] at e; cases e
    | some q =>
      obtain ⟨p1, p2⟩ := H h1 h3 he
      rw [he] at e
      cases q with
      | eq => exact .eq p1 (ih h2 h4 e)
      | lt => cases e; exact .ne p1 p2
      | gt => cases e; exact .ne p1 p2
theorem eqL_of {ρ : List Addr} {n : Nat} (H : ∀ {v u : Value} {x y : V} {o : Ord3}, RV ρ s.heap v x → RV ρ s.heap u y → cmpV n x y = some o → EqAt A s v u (isEq o)) :
    ∀ {l m : List V} {vs us : List Value} {o : Ord3}, RL ρ s.heap vs l → RL ρ s.heap us m → cmpL (cmpV n) l m = some o → EqL A s (isEq (lenOrd vs.length us.length)) (vs.zip us) (isEq o) := by
  intro l
  induction l with
  | nil =>
    intro m vs us o r1 r2 e
    cases r1
    cases r2 <;> (cases e; exact .nil)
  | cons x l ih =>
    intro m vs us o r1 r2 e
    cases r1 with
    | cons h1 h2 =>
    cases r2 with
    | nil => cases e; exact .nil
    | cons h3 h4 =>
    rename_i v vs u y us m
    have e : (match cmpV n x y with | some .eq => cmpL (cmpV n) l m | o => o) = some o := e
    rw [List.length_cons, List.length_cons, lenOrd_succ, List.zip_cons_cons]
    cases he : cmpV n x y with
    | none => rw [he] at e; cases e
    | some q =>
      have p1 := H h1 h3 he
      rw [he] at e
      cases q with
      | eq => exact .eq p1 (ih h2 h4 e)
      | lt => cases e; exact .ne p1
      | gt => cases e; exact .ne p1
theorem int_at (i j : Int) (t u : Tok) : EqAt A s (.int i t) (.int j u) (isEq (cmpI i j)) ∧ OpAt .Lt A s (.int i t) (.int j u) (ltOf (cmpI i j)) ∧ OpAt .LtE A s (.int i t) (.int j u) (leOf (cmpI i j)) := by
  refine ⟨fun prog w E Q q => wpAny_eqBool_int ?_, fun prog w E Q q => P.lt_int ?_, fun prog w E Q q => P.le_int ?_⟩
  · have : isEq (cmpI i j) = (i == j) := by
      unfold cmpI
      by_cases h : i < j
      · have : (i == j) = false := by simp; omega
        simp [h, isEq, this]
      · by_cases h2 : i = j <;> simp [h, h2, isEq]
    rw [← this]; exact q
  · have : ltOf (cmpI i j) = decide (i < j) := by
      unfold cmpI
      by_cases h : i < j
      · simp [h, ltOf]
      · by_cases h2 : i = j <;> simp [h, h2, ltOf]
    rw [← this]; exact q
  · have : leOf (cmpI i j) = decide (i ≤ j) := by
      unfold cmpI
      by_cases h : i < j
      · simp [h, leOf]; omega
      · by_cases h2 : i = j
        · simp [h2, leOf]
        · simp [h, h2, leOf]; omega
    rw [← this]; exact q

/-- the comparisons of ints and tuples -/
theorem cmp_at {ρ : List Addr} : ∀ (n : Nat) {A : Around} {v u : Value} {x y : V} {o : Ord3}, RV ρ s.heap v x → RV ρ s.heap u y → cmpV n x y = some o → A.units + n < cLine →
    EqAt A s v u (isEq o) ∧ OpAt .Lt A s v u (ltOf o) ∧ OpAt .LtE A s v u (leOf o) ∧ OpAt .NotEq A s v u (!isEq o) := by
  intro n
  induction n with
  | zero => intro A v u x y o _ _ e; cases e
  | succ n ih =>
    intro A v u x y o r q e hu
    have e0 := e
    rcases cmpV_cases e with ⟨i, j, rfl, rfl, rfl⟩ | ⟨l, m, rfl, rfl, e⟩
    · obtain ⟨t, rfl⟩ := int_of r
      obtain ⟨u, rfl⟩ := int_of q
      obtain ⟨a, b, c⟩ := int_at (A := A) (s := s) i j t u
      refine ⟨a, b, c, fun prog w E Q q => P.ne_int ?_⟩
      have : (!isEq (cmpI i j)) = (i != j) := by
        unfold cmpI
        by_cases h : i < j
        · have : (i != j) = true := by simp; omega
          simp [h, isEq, this]
        · by_cases h2 : i = j <;> simp [h, h2, isEq]
      rw [← this]; exact q
    · obtain ⟨a, vs, rfl, ht, hr⟩ := tup_of r
      obtain ⟨b, us, rfl, ht2, hr2⟩ := tup_of q
      have hu' : A.in1.units + n < cLine := by show A.units + 1 + n < cLine; omega
      have EL := eqL_of (A := A.in1) (s := s) (fun h1 h2 h3 => (ih h1 h2 h3 hu').1) hr hr2 e
      rw [isEq_len] at EL
      have L1 := lex_of (A := A.in1) (s := s) (op := .Lt) (f := ltOf) (fun h1 h2 h3 => ⟨(ih h1 h2 h3 hu').1, (ih h1 h2 h3 hu').2.1⟩) hr hr2 e
      rw [ltOf_len] at L1
      have L2 := lex_of (A := A.in1) (s := s) (op := .LtE) (f := leOf) (fun h1 h2 h3 => ⟨(ih h1 h2 h3 hu').1, (ih h1 h2 h3 hu').2.2.1⟩) hr hr2 e
      rw [leOf_len] at L2
      refine ⟨?_, lt_tuples ht ht2 (by omega) (by simpa using L1), le_tuples ht ht2 (by omega) (by simpa using L2), ne_tuplesL ht ht2 (by omega) (by simpa using EL)⟩
      by_cases hab : a = b
      · subst hab
        have : o = .eq := RV.same (n + 1) (.tup ht hr) (.tup ht2 hr2) e0
        subst this
        exact EqAt.same _
      · exact eqAt_of_op hab (eq_tuplesL ht ht2 (by omega) (by simpa using EL))
end
end HQ
end
section
set_option autoImplicit false
set_option linter.unusedSectionVars false
set_option maxRecDepth 10000
namespace HQ
open PySem PySem.W PySem.Calls PyProof.Rows PySem.Spec
variable [Gh]
open SeqAt (EqAt RcAt)

section
variable {w : World} {h₀ : Heap} {ρ : List Addr} {s : Shared} {σ σ' : Sto} {x : V} {A : Around} {Q : Value → Shared → Prop} {E : Value → Shared → Prop}

theorem RD.look {h : Heap} (k : Int) : ∀ {kvs : List (Int × Value)} {l : List (Int × V)}, RD ρ h kvs l → match dLook k l with | some x => ∃ v, valueAt kvs k = some v ∧ RV ρ h v x | Option.none => valueAt kvs k = Option.none
  | _, _, .nil => rfl
  | _, _, .cons (k := j) (v := v) (vs := kvs) (l := l) hv r => by
    have ih := RD.look k r
    simp only [dLook]
    by_cases hk : k = j
    · subst hk
      rw [if_pos rfl]
      exact ⟨v, by simp [valueAt], hv⟩
    · rw [if_neg hk]
      have : valueAt ((j, v) :: kvs) k = valueAt kvs k := by
        simp [valueAt, Ne.symm hk]
      rw [this]; exact ih
theorem RD.length {h : Heap} : ∀ {kvs : List (Int × Value)} {l : List (Int × V)}, RD ρ h kvs l → kvs.length = l.length
  | _, _, .nil => rfl
  | _, _, .cons _ r => by simp [r.length]
theorem RD.put {h : Heap} (k : Int) {v : Value} {x : V} (hv : RV ρ h v x) : ∀ {kvs : List (Int × Value)} {l : List (Int × V)}, RD ρ h kvs l → (kvs.map (·.1)).Nodup → RD ρ h (stored kvs k v) (dPut k x l)
  | _, _, .nil, _ => .cons hv .nil
  | _, _, .cons (k := j) (v := u) (vs := kvs) (l := l) hu r, nd => by
    rw [List.map_cons, List.nodup_cons] at nd
    simp only [dPut]
    by_cases hk : k = j
    · subst hk
      rw [if_pos rfl]
      have : stored ((k, u) :: kvs) k v = (k, v) :: kvs := by
        unfold stored
        rw [if_pos (by simp)]
        rw [List.map_cons, if_pos rfl, map_store_of_not_mem kvs k v nd.1]
      rw [this]; exact .cons hv r
    · rw [if_neg hk]
      have ih := RD.put k hv r nd.2
      have : stored ((j, u) :: kvs) k v = (j, u) :: stored kvs k v := by
        unfold stored
        rw [List.any_cons]
        have hj : decide ((j, u).1 = k) = false := by simp [Ne.symm hk]
        rw [hj, Bool.false_or]
        split
        · rw [List.map_cons, if_neg (by simpa using Ne.symm hk)]
        · rfl
      rw [this]; exact .cons hu ih
theorem dPut_length (k : Int) (x : V) : ∀ l : List (Int × V), (dPut k x l).length ≤ l.length + 1
  | [] => by simp [dPut]
  | (j, w) :: r => by
    simp only [dPut]
    split
    · simp
    · have := dPut_length k x r
      simp; omega

theorem bool_of {h : Heap} {v : Value} {b : Bool} (r : RV ρ h v (.bool b)) : v = .bool b := by cases r; rfl
theorem ref_of {h : Heap} {v : Value} {c : Nat} (r : RV ρ h v (.ref c)) : ∃ a, v = .ref a ∧ ρ[c]? = some a := by cases r; exact ⟨_, rfl, by assumption⟩

theorem hits_of (w' : World) (prog' : Program) (hu : A.units < cLine) {kb : List (Int × Value)} {m : List (Int × V)} (rb : RD ρ s.heap kb m) : ∀ {ka : List (Int × Value)} {l : List (Int × V)} {b : Bool}, RD ρ s.heap ka l → dEq l m = some b → KeqHits A s kb ka b
  | _, _, b, .nil, e => by cases e; exact .nil
  | _, _, b, .cons (k := k) (v := v) (x := x) (l := l) hv r, e => by
    cases hv <;> simp only [dEq] at e <;> try (cases e; done)
    rename_i i t
    have lk := rb.look k
    split at e
    · rename_i j hj
      rw [hj] at lk
      obtain ⟨u, hu1, hu2⟩ := lk
      obtain ⟨t2, rfl⟩ := int_of hu2
      cases hd : dEq l m with
      | none => rw [hd] at e; cases e
      | some b' =>
        rw [hd] at e
        cases e
        refine .hit hu1 (fun prog w E Q q => wpAny_eqBool_int ?_) (hits_of w' prog' hu rb r hd)
        have : (i == j) = decide (i = j) := by by_cases h : i = j <;> simp [h]
        rw [this]; exact q
    · cases e
    · rename_i hj
      rw [hj] at lk
      cases e
      exact .miss lk

theorem St.sys (S : St w h₀ ρ σ s.heap) (hs : SysIn h₀) {a : Addr} (m : a ∈ ρ) : (a == sysModules) = false := beq_eq_false_iff_ne.mpr (S.nsys a m)
theorem pairs_conv {prog' : Program} {w' : World} : ∀ {es : List DictEntry} {kvs : List (Int × Value)}, Pairs (DK w) es kvs → Pairs (intKind prog' w') es kvs
  | _, _, .nil => .nil
  | _, _, .cons h1 h2 r => .cons h1 h2 (pairs_conv r)
theorem dict_conv {prog' : Program} {w' : World} {h : Heap} {a : Addr} {kvs : List (Int × Value)} : h.DictOf (DK w) a kvs → h.DictOf (intKind prog' w') a kvs
  | ⟨o, es, ep, h1, h2, h3, h4, h5, h6⟩ => ⟨o, es, ep, h1, h2, h3, h4, pairs_conv h5, h6⟩

theorem pairOf_some {α : Type} {l : List α} {a b : α} (h : pairOf l = some (a, b)) : l = [a, b] := by
  match l, h with
  | [_, _], h => cases h; rfl
theorem asRef_some {v : V} {c : Nat} (e : asRef v = some c) : v = .ref c := by
  cases v <;> first | (cases e; rfl) | cases e
theorem dicts_at (S : St w h₀ ρ σ s.heap) (hs : SysIn h₀) {v u : Value} {x y : V} {b : Bool} (rv : RV ρ s.heap v x) (ru : RV ρ s.heap u y) (e : eqDD σ x y = some b) (hu : A.units + 1 < cLine) : EqAt A s v u b := by
  unfold eqDD at e
  cases h1 : both asRef asRef x y with
  | none => rw [h1] at e; cases e
  | some p =>
  obtain ⟨c, d⟩ := p
  rw [h1] at e
  dsimp only at e
  obtain ⟨g1, g2⟩ := both_some h1
  rw [asRef_some g1] at rv; rw [asRef_some g2] at ru
  obtain ⟨a, rfl, q⟩ := ref_of rv
  obtain ⟨b', rfl, q'⟩ := ref_of ru
  split at e
  · cases e
  · rename_i hcd
    split at e
    · rename_i l m h1 h2
      obtain ⟨ka, da, ra⟩ := S.ref (dictAt_some h1) q
      obtain ⟨kb, db, rb⟩ := S.ref (dictAt_some h2) q'
      have hab : a ≠ b' := fun z => by subst z; exact hcd (nodup_idx S.nd q q')
      have ha := S.sys hs (List.mem_of_getElem? q)
      have hb := S.sys hs (List.mem_of_getElem? q')
      split at e
      · rename_i hl
        refine eqAt_of_op hab fun prog' w' E Q hq => ?_
        refine keq_eq (knd := intKind prog' w') (r := b) ha hb (dict_conv (Heap.DictAt.dictOf da)) (dict_conv (Heap.DictAt.dictOf db)) (by omega) (fun _ => hits_of w prog (by show A.units + 1 < cLine; exact hu) rb ra e) ?_
        have : (ka.length == kb.length) = true := by rw [ra.length, rb.length]; simpa using hl
        rw [this, Bool.true_and]; exact hq
      · rename_i hl
        cases e
        refine eqAt_of_op hab fun prog' w' E Q hq => ?_
        refine keq_eq (knd := intKind prog' w') (r := false) ha hb (dict_conv (Heap.DictAt.dictOf da)) (dict_conv (Heap.DictAt.dictOf db)) (by omega) (fun hl' => absurd (by rw [← ra.length, ← rb.length]; exact hl') hl) ?_
        rw [Bool.and_false]; exact hq
    · cases e

theorem ints_are {h : Heap} : ∀ {vs : List Value} {l : List V} {ns : List Int}, RL ρ h vs l → intsV l = some ns → IntsAre vs ns
  | _, _, _, .nil, e => by cases e; exact .nil
  | _, _, _, .cons (l := l) hv r, e => by
    cases hv <;> simp only [intsV] at e <;> try (cases e; done)
    cases h2 : intsV l with
    | none => rw [h2] at e; cases e
    | some ms => rw [h2] at e; cases e; exact .cons _ _ (ints_are r h2)

theorem cmp_sound (S : St w h₀ ρ σ s.heap) (hs : SysIn h₀) {a b : Value} {y z : V} {op : CmpOp} {r : Bool} (ra : RV ρ s.heap a y) (rb : RV ρ s.heap b z) (e : cmpOp σ op y z = some r) (hu : A.units + 64 < cLine) (k : Ret w h₀ ρ s σ (.bool r) Q) :
    wpAny (model prog w) A (compareOp op a b) Q E s := by
  have kb : Q (.bool r) s := k.flat' S fun _ => .bool _
  have three : ∀ {o : Ord3}, cmpV 3 y z = some o → EqAt A s a b (isEq o) ∧ OpAt .Lt A s a b (ltOf o) ∧ OpAt .LtE A s a b (leOf o) ∧ OpAt .NotEq A s a b (!isEq o) := fun h => cmp_at 3 ra rb h (by omega)
  cases op with
  | Eq =>
    have tups : ∀ {p q : List V}, y = .tup p → z = .tup q → (cmpV 3 (.tup p) (.tup q)).map isEq = some r → wpAny (model prog w) A (compareOp .Eq a b) Q E s := by
      intro p q h1 h2 h3
      subst h1 h2
      cases ra with
      | tup ht hr => cases rb with
        | tup ht2 hr2 =>
          change (cmpL (cmpV 2) p q).map isEq = some r at h3
          cases h4 : cmpL (cmpV 2) p q with
          | none => rw [h4] at h3; cases h3
          | some o =>
            rw [h4] at h3
            cases h3
            have EL := eqL_of (A := A.in1) (s := s) (n := 2) (fun g1 g2 g3 => (cmp_at 2 g1 g2 g3 (by show A.units + 1 + 2 < cLine; omega)).1) hr hr2 h4
            rw [isEq_len] at EL
            exact eq_tuplesL ht ht2 (by omega) (by simpa using EL) prog w E Q kb
    have e : eqV σ y z = some r := e
    unfold eqV at e
    cases h1 : both asInt asInt y z with
    | some p =>
      obtain ⟨i, j⟩ := p
      rw [h1] at e; cases e
      obtain ⟨g1, g2⟩ := both_some h1
      rw [asInt_some g1] at ra; rw [asInt_some g2] at rb
      obtain ⟨t, rfl⟩ := int_of ra
      obtain ⟨u, rfl⟩ := int_of rb
      refine P.eq_int ?_
      have : (i == j) = decide (i = j) := by by_cases h : i = j <;> simp [h]
      rw [this]; exact kb
    | none =>
    rw [h1] at e
    dsimp only at e
    cases h2 : both asStr asStr y z with
    | some p =>
      obtain ⟨i, j⟩ := p
      rw [h2] at e; cases e
      obtain ⟨g1, g2⟩ := both_some h2
      rw [asStr_some g1] at ra; rw [asStr_some g2] at rb
      obtain ⟨t, rfl⟩ := str_of ra
      obtain ⟨u, rfl⟩ := str_of rb
      refine P.eq_str ?_
      have : ((i.toArray).toList == (j.toArray).toList) = decide (i = j) := by by_cases h : i = j <;> simp [h]
      rw [this]; exact kb
    | none =>
    rw [h2] at e
    dsimp only at e
    cases h3 : both asTup asTup y z with
    | some p =>
      obtain ⟨l, m⟩ := p
      rw [h3] at e
      have e : eqT σ l m = some r := e
      obtain ⟨g1, g2⟩ := both_some h3
      have tp := tups (asTup_some g1) (asTup_some g2)
      unfold eqT at e
      cases p1 : pairOf l with
      | none => rw [p1] at e; exact tp e
      | some q1 =>
      obtain ⟨p, q⟩ := q1
      rw [p1] at e
      dsimp only at e
      cases p2 : pairOf m with
      | none => rw [p2] at e; exact tp e
      | some q2 =>
      obtain ⟨x1, y1⟩ := q2
      rw [p2] at e
      dsimp only at e
      cases p3 : eqDD σ p x1 with
      | none => rw [p3] at e; exact tp e
      | some bb =>
      rw [p3] at e
      rw [asTup_some g1, pairOf_some p1] at ra; rw [asTup_some g2, pairOf_some p2] at rb
      obtain ⟨a1, vs, rfl, ht, hr⟩ := tup_of ra
      obtain ⟨a2, us, rfl, ht2, hr2⟩ := tup_of rb
      cases hr with
      | cons r1 hr =>
      cases hr with
      | cons r2 hr =>
      cases hr
      cases hr2 with
      | cons r3 hr2 =>
      cases hr2 with
      | cons r4 hr2 =>
      cases hr2
      have e1 := dicts_at (A := A.in1) S hs r1 r3 p3 (by show A.units + 1 + 1 < cLine; omega)
      cases bb with
      | true =>
        have e2 := dicts_at (A := A.in1) S hs r2 r4 (show eqDD σ q y1 = some r from e) (by show A.units + 1 + 1 < cLine; omega)
        refine eq_tuplesL (res := r) ht ht2 (by omega) ?_ prog w E Q kb
        refine .eq e1 ?_
        cases r with
        | true => exact .eq e2 .nil
        | false => exact .ne e2
      | false =>
        cases e
        exact eq_tuplesL (res := false) ht ht2 (by omega) (.ne e1) prog w E Q kb
    | none =>
    rw [h3] at e
    dsimp only at e
    cases h4 : both (listOf? σ) (listOf? σ) y z with
    | none => rw [h4] at e; cases e
    | some p =>
      obtain ⟨l, m⟩ := p
      rw [h4] at e
      have e : eqLi l m = some r := e
      obtain ⟨g1, g2⟩ := both_some h4
      obtain ⟨a1, vs, rfl, hl, hr⟩ := list_in S ra g1
      obtain ⟨a2, us, rfl, hl2, hr2⟩ := list_in S rb g2
      unfold eqLi at e
      by_cases hlen : l.length = m.length
      · rw [if_pos hlen] at e
        cases i1 : intsV l with
        | none => rw [i1] at e; cases e
        | some ms =>
          cases i2 : intsV m with
          | none => rw [i1, i2] at e; cases e
          | some ns =>
            rw [i1, i2] at e; cases e
            exact ke_eq_ints hl hl2 (ints_are hr i1) (ints_are hr2 i2) hu kb
      · rw [if_neg hlen] at e
        cases e
        refine SeqAt.eq_list_lengthsAt hl hl2 ?_ (by omega) kb
        simp [hr.length, hr2.length]; exact hlen
  | NotEq =>
    have e : (match both asInt asInt y z with | some (i, j) => some (decide (i ≠ j)) | Option.none => (cmpV 3 y z).map fun o => !isEq o) = some r := e
    cases h1 : both asInt asInt y z with
    | some p =>
      obtain ⟨i, j⟩ := p
      rw [h1] at e; cases e
      obtain ⟨g1, g2⟩ := both_some h1
      rw [asInt_some g1] at ra; rw [asInt_some g2] at rb
      obtain ⟨t, rfl⟩ := int_of ra
      obtain ⟨u, rfl⟩ := int_of rb
      refine P.ne_int ?_
      have : (i != j) = decide (i ≠ j) := by by_cases h : i = j <;> simp [h]
      rw [this]; exact kb
    | none =>
      rw [h1] at e
      dsimp only at e
      cases h : cmpV 3 y z with
      | none => rw [h] at e; cases e
      | some o => rw [h] at e; cases e; exact (three h).2.2.2 prog w E Q kb
  | Lt =>
    have e : (match both asInt asInt y z with | some (i, j) => some (decide (i < j)) | Option.none => (cmpV 3 y z).map fun o => match o with | .lt => true | _ => false) = some r := e
    cases h1 : both asInt asInt y z with
    | some p =>
      obtain ⟨i, j⟩ := p
      rw [h1] at e; cases e
      obtain ⟨g1, g2⟩ := both_some h1
      rw [asInt_some g1] at ra; rw [asInt_some g2] at rb
      obtain ⟨t, rfl⟩ := int_of ra
      obtain ⟨u, rfl⟩ := int_of rb
      exact P.lt_int kb
    | none =>
      rw [h1] at e
      dsimp only at e
      cases h : cmpV 3 y z with
      | none => rw [h] at e; cases e
      | some o =>
        rw [h] at e; cases e
        refine (three h).2.1 prog w E Q ?_
        cases o <;> exact kb
  | LtE =>
    have e : (match both asInt asInt y z with | some (i, j) => some (decide (i ≤ j)) | Option.none => (cmpV 3 y z).map fun o => match o with | .gt => false | _ => true) = some r := e
    cases h1 : both asInt asInt y z with
    | some p =>
      obtain ⟨i, j⟩ := p
      rw [h1] at e; cases e
      obtain ⟨g1, g2⟩ := both_some h1
      rw [asInt_some g1] at ra; rw [asInt_some g2] at rb
      obtain ⟨t, rfl⟩ := int_of ra
      obtain ⟨u, rfl⟩ := int_of rb
      exact P.le_int kb
    | none =>
      rw [h1] at e
      dsimp only at e
      cases h : cmpV 3 y z with
      | none => rw [h] at e; cases e
      | some o =>
        rw [h] at e; cases e
        refine (three h).2.2.1 prog w E Q ?_
        cases o <;> exact kb
  | Gt =>
    have e : (match both asInt asInt y z with | some (i, j) => some (decide (j < i)) | Option.none => Option.none) = some r := e
    cases h1 : both asInt asInt y z with
    | some p =>
      obtain ⟨i, j⟩ := p
      rw [h1] at e; cases e
      obtain ⟨g1, g2⟩ := both_some h1
      rw [asInt_some g1] at ra; rw [asInt_some g2] at rb
      obtain ⟨t, rfl⟩ := int_of ra
      obtain ⟨u, rfl⟩ := int_of rb
      exact P.gt_int kb
    | none => rw [h1] at e; cases e
  | GtE =>
    have e : (match both asInt asInt y z with | some (i, j) => some (decide (j ≤ i)) | Option.none => Option.none) = some r := e
    cases h1 : both asInt asInt y z with
    | some p =>
      obtain ⟨i, j⟩ := p
      rw [h1] at e; cases e
      obtain ⟨g1, g2⟩ := both_some h1
      rw [asInt_some g1] at ra; rw [asInt_some g2] at rb
      obtain ⟨t, rfl⟩ := int_of ra
      obtain ⟨u, rfl⟩ := int_of rb
      exact P.ge_int kb
    | none => rw [h1] at e; cases e
  | In =>
    have e : (match both asInt asRef y z with | some (k, c) => (match dictAt σ c with | some l => some (dLook k l).isSome | Option.none => Option.none) | Option.none => Option.none) = some r := e
    cases h1 : both asInt asRef y z with
    | none => rw [h1] at e; cases e
    | some p =>
      obtain ⟨j, c⟩ := p
      rw [h1] at e
      dsimp only at e
      obtain ⟨g1, g2⟩ := both_some h1
      rw [asInt_some g1] at ra; rw [asRef_some g2] at rb
      obtain ⟨t, rfl⟩ := int_of ra
      obtain ⟨d, rfl, q⟩ := ref_of rb
      cases h : dictAt σ c with
      | none => rw [h] at e; cases e
      | some l =>
        rw [h] at e; cases e
        obtain ⟨kvs, da, rd⟩ := S.ref (dictAt_some h) q
        refine wpAny_in_of (knd := DK w) (k := j) (by show (j == j) = true; simp) (S.sys hs (List.mem_of_getElem? q)) (Heap.DictAt.dictOf da).mapOf ?_
        have lk := rd.look j
        have : (valueAt kvs j).isSome = (dLook j l).isSome := by
          split at lk
          · rename_i h1; obtain ⟨v, h2, _⟩ := lk; rw [h1, h2]; rfl
          · rename_i h1; rw [h1, lk]; rfl
        rw [this]
        exact k.flat S (fun _ => .bool _) _
  | _ => cases e
end
end HQ
end
section
set_option autoImplicit false
set_option linter.unusedSectionVars false
set_option maxRecDepth 10000
namespace HQ
open PySem PySem.W PySem.Calls PyProof.Rows PySem.Spec
variable [Gh]

section
variable {w : World} {h₀ : Heap} {ρ : List Addr} {s : Shared} {σ σ' : Sto} {x : V} {A : Around} {Q : Value → Shared → Prop} {E : Value → Shared → Prop}

theorem sub_tail {value slice : Expr} {o i : Value} {T id : String} (hT : s.TypeIs o T)
    (hl : typeLookup (.type T) "__getitem__" = pure (some (.builtin id))) (h : wpAny (model prog w) A (getItem o i) Q E s) : wpAny (model prog w) A (subscriptTail value slice o i) Q E s := by
  unfold subscriptTail
  refine wpAny_bind ?_
  rw [getitemInPython_of_ne hT.not_modules]
  refine wpAny_bind (wpAny_specialOf hT hl ?_)
  refine wpAny_pure ?_
  have fin : wpAny (model prog w) A (subscripted slice false o i) (fun r s₃ => wpAny (model prog w) A (letTemporaryGo value o r >>= fun _ => pure r) Q E s₃) E s := by
    have hx : ∃ ops, subscripted slice false o i = operate ops (getItem o i) := by
      unfold subscripted
      split
      · exact ⟨_, rfl⟩
      · rename_i h; cases h
      · exact ⟨_, rfl⟩
    obtain ⟨ops, hx⟩ := hx
    rw [hx]
    exact wpAny_operateT (wpAny_mono h (fun r s' hq => wpAny_bind (wpAny_letTemporaryGo (wpAny_pure hq))) fun _ _ x => x)
  exact wpAny_bind fin

theorem place_some {n : Nat} {k : Int} {j : Nat} (e : place n k = some j) : 0 ≤ k ∧ k < n ∧ k < 4611686018427387904 ∧ j = k.toNat := by
  unfold place at e
  split at e
  · rename_i h; cases e; exact ⟨h.1, h.2.1, h.2.2, rfl⟩
  · cases e

theorem index_sound (S : St w h₀ ρ σ s.heap) {a b : Value} {y z : V} {value slice : Expr} (ra : RV ρ s.heap a y) (rb : RV ρ s.heap b z) (e : indexV σ y z = some x) (k : Ret w h₀ ρ s σ x Q) :
    wpAny (model prog w) A (subscriptTail value slice a b) Q E s := by
  have onList : ∀ {ad : Addr} {vs : List Value} {l : List V} {j : Int} {t : Tok}, s.heap.IsList ad vs.toArray → RL ρ s.heap vs l → (match place l.length j with | some n => l[n]? | _ => Option.none) = some x → wpAny (model prog w) A (subscriptTail value slice (.ref ad) (.int j t)) Q E s := by
    intro ad vs l j t hl hr e
    split at e
    · rename_i n hp
      obtain ⟨h0, h1, h2, rfl⟩ := place_some hp
      obtain ⟨v, hv, rv⟩ := hr.get e
      exact sub_tail hl.typeIs slot_list_getitem.lookup (wpAny_getItem_list hl h0 (by omega) (x := v) (by simpa using hv) (k.here S rv))
    · cases e
  cases rb with
  | int j t =>
    cases ra with
    | @tup ad vs l ht hr =>
      have e : (match place l.length j with | some n => l[n]? | _ => Option.none) = some x := e
      cases hp : place l.length j with
      | none => rw [hp] at e; cases e
      | some n =>
        rw [hp] at e
        obtain ⟨h0, h1, h2, rfl⟩ := place_some hp
        obtain ⟨v, hv, rv⟩ := hr.get e
        refine sub_tail ht.typeIs slot_tuple_getitem.lookup (getItem_tuple ht (by omega) (by omega) (j := j.toNat) (x := v) ?_ (by simpa using hv) (k.here S rv))
        unfold seqIndex?
        have : vs.length = l.length := hr.length
        simp [this]; omega
    | lst hl hn hr => exact onList hl hr e
    | @ref ad c q =>
      have e : (match (getF σ c) with
        | some (.list l) => (match place l.length j with | some n => l[n]? | _ => Option.none)
        | some (.dict l) => dLook j l
        | _ => Option.none) = some x := e
      cases hc : (getF σ c) with
      | none => rw [hc] at e; cases e
      | some cl =>
        rw [hc] at e
        cases cl with
        | list l =>
          obtain ⟨vs, ⟨n, hp⟩, hr⟩ := S.ref hc q
          exact onList ⟨_, hp, rfl, n, rfl⟩ hr e
        | dict l =>
          have e : dLook j l = some x := e
          obtain ⟨kvs, hd, rd⟩ := S.ref hc q
          have lk := rd.look j
          rw [e] at lk
          obtain ⟨v, hv, rv⟩ := lk
          exact sub_tail (Heap.DictAt.dictOf hd).typeIs slot_dict_getitem.lookup (wpAny_getItem_of (knd := DK w) (k := j) (by show (j == j) = true; simp) (Heap.DictAt.dictOf hd).mapOf hv (k v ρ _ step_toks S rv))
        | inst _ _ => cases e
        | attrs _ => cases e
    | _ => cases e
  | _ => unfold indexV at e; split at e <;> first | cases e | (rename_i h; cases h)

theorem part_of {h : Heap} {v : Value} {i : Option Int} : (match i with | some k => RV ρ h v (.int k) | Option.none => v = .none) → IsPart v i := by
  intro e
  cases i with
  | none => subst e; exact .none
  | some k => obtain ⟨t, rfl⟩ := int_of e; exact .int _ _

theorem lo_ok {n a : Nat} {lo : Option Int} (e : loOf n lo = some a) : kms_lo lo n = a ∧ a ≤ n ∧ (∀ k, lo = some k → 0 ≤ k) := by
  cases lo with
  | none => simp [loOf] at e; subst e; simp [kms_lo]
  | some k =>
    simp only [loOf] at e
    split at e
    · cases e
      simp only [kms_lo]
      rw [if_neg (by omega)]
      exact ⟨rfl, Nat.min_le_right _ _, fun k' h => by cases h; assumption⟩
    · cases e
theorem hi_ok {n b : Nat} {hi : Option Int} (e : hiOf n hi = some b) : kms_hi hi n = b ∧ b ≤ n ∧ (∀ k, hi = some k → 0 ≤ k) := by
  cases hi with
  | none => simp [hiOf] at e; subst e; simp [kms_hi]
  | some k =>
    simp only [hiOf] at e
    split at e
    · cases e
      simp only [kms_hi]
      rw [if_neg (by omega)]
      exact ⟨rfl, Nat.min_le_right _ _, fun k' h => by cases h; assumption⟩
    · cases e

theorem adjust_ok {n a b : Nat} {lo hi : Option Int} (e1 : loOf n lo = some a) (e2 : hiOf n hi = some b) : Builtin.Slice.sliceAdjust lo hi 1 (n : Int) = ((a : Int), (b : Int)) := by
  unfold Builtin.Slice.sliceAdjust
  have h1 : ¬ ((1 : Int) < 0) := by omega
  simp only [h1, if_false]
  congr 1
  · cases lo with
    | none => simp [loOf] at e1; subst e1; rfl
    | some k =>
      simp only [loOf] at e1
      split at e1
      · cases e1
        show (if k < 0 then max (k + n) 0 else min k n) = _
        rw [if_neg (by omega)]; omega
      · cases e1
  · cases hi with
    | none => simp [hiOf] at e2; subst e2; rfl
    | some k =>
      simp only [hiOf] at e2
      split at e2
      · cases e2
        show (if k < 0 then max (k + n) 0 else min k n) = _
        rw [if_neg (by omega)]; omega
      · cases e2
theorem places_ok (a b : Nat) : Builtin.Slice.slicePlaces (a : Int) (b : Int) 1 = b - a := by
  unfold Builtin.Slice.slicePlaces
  have h1 : (1 : Int) > 0 := by omega
  simp only [h1, if_true, Int.ediv_one]
  split <;> omega
theorem slicePart_of {v : Value} {i : Option Int} {Q : Option Int → Shared → Prop} (p : IsPart v i) (h : Q i s) : wpAny (model prog w) A (Builtin.Slice.slicePartIndex v) Q E s := by
  cases p with
  | none => exact slicePart_none h
  | int i t => exact slicePart_int h
theorem sliceApplied_ok {sl : Addr} {n a b : Nat} {vl vu : Value} {lo hi : Option Int} {Q : Int × Int × Nat → Shared → Prop} (hs : s.heap.IsSliceOf sl vl vu .none) (pl : IsPart vl lo) (pu : IsPart vu hi) (e1 : loOf n lo = some a) (e2 : hiOf n hi = some b)
    (h : Q ((a : Int), 1, b - a) s) :
    wpAny (model prog w) A (Builtin.Slice.sliceApplied (.ref sl) (pure (n : Int))) Q E s := by
  obtain ⟨os, hos, hcs, hds⟩ := id hs
  unfold Builtin.Slice.sliceApplied Builtin.Slice.sliceFields
  refine wpAny_bind (wpAny_bind (wpAny_field hos hds (x := vl) rfl (wpAny_bind (wpAny_field hos hds (x := vu) rfl (wpAny_bind (wpAny_field hos hds (x := .none) rfl (wpAny_pure ?_)))))))
  refine wpAny_bind (slicePart_none ?_)
  show wpAny _ _ (if ((1 : Int) == 0) = true then _ else _) _ _ s
  rw [if_neg (by decide)]
  refine wpAny_bind (slicePart_of pl (wpAny_bind (slicePart_of pu (wpAny_bind (wpAny_pure ?_)))))
  show wpAny _ _ (match Builtin.Slice.sliceAdjust lo hi 1 (n : Int) with | (lo, hi) => pure (lo, (1 : Int), Builtin.Slice.slicePlaces lo hi 1)) _ _ s
  rw [adjust_ok e1 e2]
  show wpAny _ _ (pure ((a : Int), (1 : Int), Builtin.Slice.slicePlaces (a : Int) (b : Int) 1)) _ _ s
  rw [places_ok a b]
  exact wpAny_pure h
theorem pick_ok (xs : Array Value) (a n : Nat) : ((List.range n).filterMap fun (k : Nat) => xs[((a : Int) + (k : Int) * 1).toNat]?).toArray = ((xs.toList.drop a).take n).toArray := by
  have e : (fun (k : Nat) => xs[((a : Int) + (k : Int) * 1).toNat]?) = fun k => xs[a + k]? := by
    funext k
    have : ((a : Int) + (k : Int) * 1).toNat = a + k := by omega
    rw [this]
  rw [e]
  have := pick_run xs a n
  rw [List.filterMap_map] at this
  have e2 : ((fun x => xs[x]?) ∘ fun x => a + x) = fun k => xs[a + k]? := rfl
  rw [e2] at this
  rw [this]
theorem tuple_slice {t sl : Addr} {items : Array Value} {a b : Nat} {vl vu : Value} {lo hi : Option Int} (ht : IsTup s.heap t items) (hs : s.heap.IsSliceOf sl vl vu .none) (pl : IsPart vl lo) (pu : IsPart vu hi)
    (e1 : loOf items.size lo = some a) (e2 : hiOf items.size hi = some b) (hsz : items.size ≤ sizeLine)
    (h0 : a = 0 → b = items.size → Q (.ref t) s)
    (h : Q (.ref s.heap.objs.size) { s with heap := s.heap.push { cls := .type "tuple", data := .seq ((items.toList.drop a).take (b - a)).toArray } }) :
    wpAny (model prog w) A (getItem (.ref t) (.ref sl)) Q E s := by
  have hdrop : sizeOk (.seq ((items.toList.drop a).take (b - a)).toArray) := by
    show ((items.toList.drop a).take (b - a)).toArray.size ≤ sizeLine
    rw [List.size_toArray, List.length_take, List.length_drop, Array.length_toList]
    omega
  obtain ⟨os, hos, hcs, hds⟩ := id hs
  have hTs : s.TypeIs (.ref sl) "slice" := ⟨os, hos, hcs⟩
  unfold getItem
  try with_reducible refine wpAny_holding ?_
  first | refine wpAny_bind (wpAny_pure ?_) | skip
  refine wpAny_bind (wpAny_sequenceKey ht.typeIs (by decide) ?_)
  refine wpAny_bind (wpAny_callSpecial?_slot (name := Str.ofString "__getitem__") ht.typeIs slot_tuple_getitem
    (wpAny_call_entry slot_tuple_getitem ht.typeIs entry_tuple_getitem ?_ (args_tuple_getitem _ _)))
  show wpAny _ _ (Builtin.Tuple.tupleItemsOf (.ref t) >>= _) _ _ s
  refine wpAny_bind (tupleItemsOf_ ht ?_)
  refine wpAny_bind (wpAny_typeOf hTs ?_)
  rw [if_pos (by decide)]
  refine wpAny_bind (sliceApplied_ok hs pl pu e1 e2 ?_)
  show wpAny _ _ (if ((a : Int) == 0 && (1 : Int) == 1 && (b - a) == items.size) = true then _ else _) _ _ s
  by_cases hw : a = 0 ∧ b = items.size
  · obtain ⟨ha, hb⟩ := hw
    rw [if_pos (by subst ha; rw [hb]; simp)]
    refine wpAny_bind ?_
    unfold Builtin.Tuple.tupleIsExact
    refine wpAny_bind (wpAny_typeOf ht.typeIs ?_)
    refine wpAny_pure ?_
    rw [if_pos (by decide)]
    exact wpAny_bind (wpAny_rule (wpAny_bind (wpAny_pure (wpAny_pure ⟨_, rfl, wpAny_pure (h0 ha hb)⟩))))
  · have hb := (hi_ok e2).2.1
    have hno : ¬ (((a : Int) == 0 && (1 : Int) == 1 && (b - a) == items.size) = true) := by
      intro hh
      simp at hh
      exact hw ⟨by omega, by omega⟩
    rw [if_neg hno, pick_ok items a (b - a)]
    first
      | exact wpAny_bind (m := Builtin.Tuple.tupleExact _) (wpAny_newObj_type (wpAny_pure ⟨_, rfl, wpAny_pure h⟩) hdrop)
      | exact wpAny_bind (m := Builtin.Tuple.tupleExact _) (wpAny_newObj_type (wpAny_bind (wpAny_pure (wpAny_pure ⟨_, rfl, wpAny_pure h⟩))) hdrop)
      | exact wpAny_bind (wpAny_bind (m := Builtin.Tuple.tupleExact _) (wpAny_newObj_type (wpAny_pure (wpAny_pure ⟨_, rfl, wpAny_pure h⟩)) hdrop))
      | exact wpAny_bind (wpAny_bind (m := Builtin.Tuple.tupleExact _) (wpAny_newObj_type (wpAny_pure ⟨_, rfl, wpAny_pure h⟩) hdrop))

theorem RL.filterMap {h : Heap} {vs : List Value} {l : List V} (r : RL ρ h vs l) : ∀ (is : List Nat), RL ρ h (is.filterMap (vs[·]?)) (is.filterMap (l[·]?))
  | [] => .nil
  | i :: is => by
    rw [List.filterMap_cons, List.filterMap_cons]
    cases e : l[i]? with
    | none =>
      have : vs[i]? = Option.none := by
        rw [List.getElem?_eq_none_iff] at e ⊢
        rw [r.length]; exact e
      rw [this]; exact r.filterMap is
    | some y =>
      obtain ⟨v, hv, rv⟩ := r.get e
      rw [hv]; exact .cons rv (r.filterMap is)

theorem pickP_ok {lo hi : Option Int} {l m : List V} (e : pickP lo hi l = some m) : l.length ≤ 1000 ∧ ∃ p q, loOf l.length lo = some p ∧ hiOf l.length hi = some q ∧ m = (l.drop p).take (q - p) := by
  unfold pickP at e
  split at e
  · rename_i hsz
    split at e
    · rename_i p q g1 g2
      cases e
      exact ⟨hsz, p, q, g1, g2, rfl⟩
    · cases e
  · cases e
theorem slice_list (S : St w h₀ ρ σ s.heap) {ad : Addr} {us : List Value} {l m : List V} {sl : Addr} {vl vu vs : Value} {lo hi st : Option Int} (hl : s.heap.IsList ad us.toArray) (hr : RL ρ s.heap us l) (hs : s.heap.IsSliceOf sl vl vu vs) (pl : IsPart vl lo) (pu : IsPart vu hi) (ps : IsPart vs st)
    (e : sliceL lo hi st l = some m) (k : Ret w h₀ ρ s σ (.lst m) Q) : wpAny (model prog w) A (getItem (.ref ad) (.ref sl)) Q E s := by
  cases st with
  | none =>
    obtain ⟨hsz, p, q, g1, g2, rfl⟩ := pickP_ok e
    refine wpAny_getItem_list_slice hl hs pl pu ps (by simp) ?_ (by rw [List.size_toArray, hr.length, sizeLine_eq]; omega)
    rw [kms_pick_eq]
    have : kms_pick us.toArray.toList lo hi = (us.drop p).take (q - p) := by
      unfold kms_pick
      show (us.drop (kms_lo lo us.length)).take (kms_hi hi us.length - kms_lo lo us.length) = _
      rw [hr.length, (lo_ok g1).1, (hi_ok g2).1]
    rw [this]
    exact Ret.newLst S ((hr.drop p).take (q - p)) k s.toks
  | some c =>
    cases lo with
    | none => cases e
    | some lo =>
      cases hi with
      | none => cases e
      | some hi =>
        change pickS lo hi c l = some m at e
        unfold pickS at e
        split at e
        · rename_i hc
          cases e
          refine wpAny_getItem_list_slice hl hs pl pu ps (by simp; omega) ?_ (by rw [List.size_toArray, hr.length, sizeLine_eq]; omega)
          have : slicePick us.toArray (some lo) (some hi) (some c) = ((sliceRange (min lo l.length) (min hi l.length) c).filterMap (us[·]?)).toArray := by
            unfold slicePick
            have h0 : c > 0 := hc.2.2.1
            have b1 : (sliceBounds (some lo) (some hi) (some c) us.toArray.size) = (min lo l.length, min hi l.length, c) := by
              simp only [sliceBounds, Option.getD_some, h0, if_true, List.size_toArray, hr.length]
              rw [if_neg (by omega), if_neg (by omega)]
              congr 1
              · omega
              · congr 1; omega
            rw [b1]
            simp
          rw [this]
          exact Ret.newLst S (hr.filterMap _) k s.toks
        · cases e
theorem slice_sound (S : St w h₀ ρ σ s.heap) {a : Value} {y : V} {value slice : Expr} {sl : Addr} {vl vu vs : Value} {lo hi st : Option Int} (ra : RV ρ s.heap a y) (hs : s.heap.IsSliceOf sl vl vu vs) (pl : IsPart vl lo) (pu : IsPart vu hi) (ps : IsPart vs st)
    (e : sliceV σ y lo hi st = some x) (k : Ret w h₀ ρ s σ x Q) :
    wpAny (model prog w) A (subscriptTail value slice a (.ref sl)) Q E s := by
  have onList : (match listOf? σ y with
    | some l => (match sliceL lo hi st l with | some m => some (V.lst m) | .none => .none)
    | .none => Option.none) = some x → wpAny (model prog w) A (subscriptTail value slice a (.ref sl)) Q E s := by
    intro e
    split at e
    · rename_i l h1
      split at e
      · rename_i m h2
        cases e
        obtain ⟨ad, us, rfl, hl, hr⟩ := list_in S ra h1
        exact sub_tail hl.typeIs slot_list_getitem.lookup (slice_list S hl hr hs pl pu ps h2 k)
      · cases e
    · cases e
  cases ra with
  | tup ht hr =>
    rename_i ad us l
    cases ps with
    | none =>
      change (match pickP lo hi l with | some m => some (V.tup m) | .none => .none) = some x at e
      split at e
      · rename_i m hp
        cases e
        obtain ⟨hsz, p, q, g1, g2, rfl⟩ := pickP_ok hp
        have hlen := hr.length
        refine sub_tail (Heap.IsTuple.typeIs ht) slot_tuple_getitem.lookup (tuple_slice ht hs pl pu (a := p) (b := q) (by simpa [hlen] using g1) (by simpa [hlen] using g2) (by rw [List.size_toArray, hlen, sizeLine_eq]; omega) (fun h1 h2 => ?_) ?_)
        · subst h1
          have : q = l.length := by simpa [hlen] using h2
          subst this
          simp at k
          exact k.here S (.tup ht hr)
        · exact Ret.newTup S ((hr.drop p).take (q - p)) k s.toks
      · cases e
    | int i t => cases e
  | lst hl hn hr => exact onList e
  | ref q => exact onList e
  | _ => exact onList e
end
end HQ
end
section
set_option autoImplicit false
set_option linter.unusedSectionVars false
set_option maxRecDepth 10000
namespace HQ
open PySem PySem.W PySem.Calls PyProof.Rows PySem.Spec
variable [Gh]

theorem RL.one {ρ : List Addr} {h : Heap} {vs : List Value} {a : V} (r : RL ρ h vs [a]) : ∃ v, vs = [v] ∧ RV ρ h v a := by
  cases r with
  | cons h1 r => cases r; exact ⟨_, rfl, h1⟩
theorem RL.two {ρ : List Addr} {h : Heap} {vs : List Value} {a b : V} (r : RL ρ h vs [a, b]) : ∃ v u, vs = [v, u] ∧ RV ρ h v a ∧ RV ρ h u b := by
  cases r with
  | cons h1 r =>
    obtain ⟨u, rfl, h2⟩ := r.one
    exact ⟨_, u, rfl, h1, h2⟩
theorem sumFrom_ints {ρ : List Addr} {h : Heap} : ∀ {vs : List Value} {l : List V} {a r : Int}, RL ρ h vs l → sumFrom a l = some r → ∃ ns, IntsAre vs ns ∧ r = a + ns.sum
  | _, _, a, r, .nil, e => ⟨[], .nil, by simp [sumFrom] at e; simp [e]⟩
  | _, _, a, r, .cons hv hl, e => by
    cases hv with
    | int i t =>
      simp only [sumFrom] at e
      obtain ⟨ns, h1, h2⟩ := sumFrom_ints hl e
      exact ⟨i :: ns, .cons i t h1, by rw [h2, List.sum_cons]; omega⟩
    | _ => simp [sumFrom] at e

theorem insI_perm (x : Int) : ∀ l : List Int, (insI x l).Perm (x :: l)
  | [] => .refl _
  | y :: r => by
    unfold insI
    split
    · exact .refl _
    · exact (List.Perm.cons y (insI_perm x r)).trans (List.Perm.swap x y r)
theorem sortI_perm : ∀ l : List Int, (sortI l).Perm l
  | [] => .refl _
  | x :: r => (insI_perm x (sortI r)).trans (List.Perm.cons x (sortI_perm r))
theorem insI_sorted (x : Int) : ∀ {l : List Int}, l.Pairwise (· ≤ ·) → (insI x l).Pairwise (· ≤ ·)
  | [], _ => by simp [insI]
  | y :: r, h => by
    unfold insI
    rw [List.pairwise_cons] at h
    split
    · rw [List.pairwise_cons, List.pairwise_cons]
      refine ⟨fun z hz => ?_, h⟩
      rcases List.mem_cons.mp hz with rfl | hz
      · omega
      · have := h.1 z hz; omega
    · rw [List.pairwise_cons]
      refine ⟨fun z hz => ?_, insI_sorted x h.2⟩
      rcases List.mem_cons.mp ((insI_perm x r).mem_iff.mp hz) with rfl | hz
      · omega
      · exact h.1 z hz
theorem sortI_sorted : ∀ l : List Int, (sortI l).Pairwise (· ≤ ·)
  | [] => .nil
  | x :: r => insI_sorted x (sortI_sorted r)
theorem sorted_unique {a b : List Int} (p : a.Perm b) (ha : a.Pairwise (· ≤ ·)) (hb : b.Pairwise (· ≤ ·)) : a = b :=
  p.eq_of_pairwise (le := fun x y : Int => x ≤ y) (fun x y _ _ h1 h2 => by omega) ha hb

theorem RL.ofInts {ρ : List Addr} {h : Heap} : ∀ {vs : List Value} {ns : List Int}, IntsAre vs ns → RL ρ h vs (ns.map .int)
  | _, _, .nil => .nil
  | _, _, .cons n t r => .cons (.int n t) (RL.ofInts r)

theorem joinL_length : ∀ ls : List (List Nat), (joinL ls).length = (ls.map List.length).sum
  | [] => rfl
  | x :: r => by simp [joinL, joinL_length r]
theorem strs_are {ρ : List Addr} {h : Heap} : ∀ {vs : List Value} {l : List V} {ls : List (List Nat)}, RL ρ h vs l → strsOf l = some ls → StrsAre vs (ls.map fun x => (⟨x.toArray⟩ : Str))
  | _, _, _, .nil, e => by simp [strsOf] at e; subst e; exact .nil
  | _, _, _, .cons hv hl, e => by
    cases hv with
    | str x t =>
      simp only [strsOf, Option.map_eq_some_iff] at e
      obtain ⟨m, h1, rfl⟩ := e
      exact .cons _ t (strs_are hl h1)
    | _ => simp [strsOf] at e
theorem join_fold : ∀ (ls : List (List Nat)) (acc : List Nat), (ls.map fun x => (⟨x.toArray⟩ : Str)).foldl (fun acc p => acc ++ (#[] : Array Nat) ++ p.cps) acc.toArray = (acc ++ joinL ls).toArray
  | [], acc => by simp [joinL]
  | x :: r, acc => by
    rw [List.map_cons, List.foldl_cons]
    show List.foldl _ (acc.toArray ++ #[] ++ x.toArray) _ = _
    rw [show acc.toArray ++ #[] ++ x.toArray = (acc ++ x).toArray by simp, join_fold r, joinL, List.append_assoc]
theorem join_empty (ls : List (List Nat)) : Txt.join (⟨[].toArray⟩ : Str) (ls.map fun x => (⟨x.toArray⟩ : Str)) = ⟨(joinL ls).toArray⟩ := by
  unfold Txt.join Builtin.Str.glued
  congr 1
  cases ls with
  | nil => rfl
  | cons x r => exact join_fold r x

section
variable {w : World} {h₀ : Heap} {ρ : List Addr} {s : Shared} {σ σ' : Sto} {x : V} {A : Around} {Q : Value → Shared → Prop} {E : Value → Shared → Prop}

noncomputable def bval (f : Str) : Option Value :=
  if (PySem.W.Fast.sEq f "len") = true then some (.builtin "len")
  else if (PySem.W.Fast.sEq f "range") = true then some (.type "range")
  else if (PySem.W.Fast.sEq f "sum") = true then some (.builtin "sum")
  else if (PySem.W.Fast.sEq f "tuple") = true then some (.type "tuple")
  else if (PySem.W.Fast.sEq f "list") = true then some (.type "list")
  else if (PySem.W.Fast.sEq f "sorted") = true then some (.builtin "sorted")
  else if (PySem.W.Fast.sEq f "max") = true then some (.builtin "max")
  else if (PySem.W.Fast.sEq f "min") = true then some (.builtin "min")
  else Option.none

theorem short_some {l m : List V} (e : short l = some m) : m = l ∧ l.length ≤ 1000 := by
  unfold short at e; split at e
  · cases e; exact ⟨rfl, by assumption⟩
  · cases e
theorem lenOk_some {l : List V} {n : Int} (e : lenOk l = some n) : n = l.length ∧ l.length ≤ 1000 := by
  unfold lenOk at e; split at e
  · cases e; exact ⟨rfl, by assumption⟩
  · cases e

theorem len_sound (S : St w h₀ ρ σ s.heap) {v : Value} {y : V} (r : RV ρ s.heap v y) {n : Int} (e : lenV σ y = some n) (k : Ret w h₀ ρ s σ (.int n) Q) :
    wpAny (model prog w) A (call (.builtin "len") [v]) Q E s := by
  have onList : ∀ {a : Addr} {vs : List Value} {l : List V}, s.heap.IsList a vs.toArray → RL ρ s.heap vs l → lenOk l = some n → wpAny (model prog w) A (call (.builtin "len") [.ref a]) Q E s := by
    intro a vs l hl hr e
    obtain ⟨rfl, hs⟩ := lenOk_some e
    have hlen := hr.length
    refine Calls.call_len_list hl (by rw [List.size_toArray]; omega) ?_
    rw [List.size_toArray, hlen]
    exact k.flat S (fun _ => .int _ _) _
  cases r with
  | tup ht hr =>
    obtain ⟨rfl, hs⟩ := lenOk_some e
    have hlen := hr.length
    refine PyProof.Rows.len_tuple (show IsTup s.heap _ _ from ht) (by rw [List.size_toArray]; omega) ?_
    rw [List.size_toArray, hlen]
    exact k.flat S (fun _ => .int _ _) _
  | lst hl _ hr => exact onList hl hr e
  | ref q =>
    simp only [lenV] at e
    split at e
    · rename_i l h
      obtain ⟨vs, ⟨n, hp⟩, hr⟩ := S.ref (listAt_some h) q
      exact onList ⟨_, hp, rfl, n, rfl⟩ hr e
    · cases e
  | _ => simp only [lenV] at e; cases e

theorem sum_sound (S : St w h₀ ρ σ s.heap) (hh : A.handled = Option.none) {v : Value} {y : V} (r : RV ρ s.heap v y) {l : List V} (e1 : listOf? σ y = some l) {n : Int} (e : sumFrom 0 l = some n) (k : Ret w h₀ ρ s σ (.int n) Q) :
    wpAny (model prog w) A (call (.builtin "sum") [v]) Q E s := by
  obtain ⟨a, vs, rfl, hl, hr⟩ := list_in S r e1
  obtain ⟨ns, hi, rfl⟩ := sumFrom_ints hr e
  obtain ⟨xs, hx⟩ := hi.allInts.items
  have hn : numsOf vs.toArray.toList = ns := by rw [show vs.toArray.toList = vs from rfl, hi.numsOf]
  rw [hx] at hl hn
  rw [nums_intItems] at hn
  refine sum_intListG hh hl fun h' tk t' hk => ?_
  rw [preSum_eq, List.take_of_length_le (by simp), hn]
  rw [Int.zero_add] at k
  exact k.grown S hk (.int _ _) _

theorem sorted_sound (S : St w h₀ ρ σ s.heap) {v : Value} {l : List V} (r : RV ρ s.heap v (.tup l)) (h64 : l.length < 64) {ns : List Int} (e : intsV l = some ns) (k : Ret w h₀ ρ s σ (.lst ((sortI ns).map .int)) Q) :
    wpAny (model prog w) A (call (.builtin "sorted") [v]) Q E s := by
  cases r with
  | @tup ad vs _ ht hr =>
  have hI := ints_are hr e
  have hlen := hr.length
  obtain ⟨o, ho, hc, n, hd⟩ := id ht
  refine Calls.call_function_entry kind_sorted plain_sorted entry_sorted (args_sorted1 _) ?_
  unfold Builtin.«sorted»
  refine wpAny_bind (m := checkCount "sorted" 1 1 _) (wpAny_pure ?_)
  refine wpAny_bind (wpAny_collect_seq ad (.inr rfl) ho hc hd (fun h' hk => ?_) (by rw [List.size_toArray, sizeLine_eq]; omega))
  refine wpAny_bind (wpAny_newList ?_)
  have hoL : (h'.push (seqObj "list" vs.toArray 0)).get? h'.objs.size = some (seqObj "list" vs.toArray 0) := Heap.get?_push_size _ rfl
  refine wpAny_bind (wpAny_holding (wpAny_call_entry slot_list_sort ⟨_, hoL, rfl⟩ entry_list_sort (list_sort_tree hoL hI (by omega) fun out ns' a1 a2 a3 => ⟨_, rfl, ?_⟩) (args_list_sort _)))
  refine wpAny_pure ⟨_, rfl, ?_⟩
  have hs : ns' = sortI ns := sorted_unique (a2.trans (sortI_perm ns).symm) a3 (sortI_sorted ns)
  subst hs
  have g : ∀ b o, s.heap.get? b = some o → (sortedHeap (h'.push (seqObj "list" vs.toArray 0)) h'.objs.size vs out).get? b = some o := fun b o e => by
    have h1 := hk b o e
    have h2 := Heap.lt_size h1
    rw [sortedHeap_old (Nat.ne_of_lt h2) (Nat.lt_of_lt_of_le h2 (by rw [Heap.size_push]; exact Nat.le_succ _))]
    exact Heap.get?_push_of_some _ h1
  obtain ⟨e', he⟩ := sortedHeap_at (out := out) hoL
  have hnm : h'.objs.size ∉ ρ := fun m => by
    obtain ⟨o', h1, _⟩ := S.mutR _ m
    exact absurd (Heap.lt_size (hk _ _ h1)) (Nat.lt_irrefl _)
  refine k.grown S g (.lst (vs := out.toList) ⟨_, he, rfl, e', by simp⟩ hnm (RL.ofInts a1)) _

theorem join_sound (S : St w h₀ ρ σ s.heap) {t : Tok} {v : Value} {y : V} (r : RV ρ s.heap v y) {l : List V} {ls : List (List Nat)} (e1 : listOf? σ y = some l) (e : strsOf l = some ls) (hz : (joinL ls).length ≤ 1000) (k : Ret w h₀ ρ s σ (.str (joinL ls)) Q) :
    wpAny (model prog w) A (call (.builtin "str.join") [.str ⟨[].toArray⟩ t, v]) Q E s := by
  obtain ⟨a, vs, rfl, hl, hr⟩ := list_in S r e1
  refine join_list hl (strs_are hr e) ?_ fun t' k' => ?_
  · rw [joinL_length] at hz
    rw [List.map_map]
    have : (List.map ((fun x : Str => x.length) ∘ fun x => (⟨x.toArray⟩ : Str)) ls) = ls.map List.length := by
      apply List.map_congr_left; intro z _; simp [Str.length]
    rw [this]
    have h0 : (⟨[].toArray⟩ : Str).length = 0 := rfl
    rw [h0]; omega
  · rw [join_empty]
    exact k.flat S (fun _ => .str _ _) _

theorem builtin_sound (S : St w h₀ ρ σ s.heap) (hh : A.handled = Option.none) {f : Str} {as : List V} {vs : List Value} (r : RL ρ s.heap vs as) (e : builtinV σ f as = some x) (k : Ret w h₀ ρ s σ x Q) :
    ∃ fv, bval f = some fv ∧ wpAny (model prog w) A (call fv vs) Q E s := by
  unfold builtinV at e
  unfold bval
  split at e
  · rw [if_pos (by assumption)]
    refine ⟨_, rfl, ?_⟩
    split at e
    · rename_i a
      obtain ⟨v1, rfl, r1⟩ := r.one
      rw [Option.map_eq_some_iff] at e
      obtain ⟨n, h1, rfl⟩ := e
      exact len_sound S r1 h1 k
    · cases e
  rw [if_neg (by assumption)]
  split at e
  · rw [if_pos (by assumption)]
    refine ⟨_, rfl, ?_⟩
    split at e
    · cases e
      obtain ⟨v1, rfl, r1⟩ := r.one
      obtain ⟨t, rfl⟩ := int_of r1
      exact call_range_1 (k.grown S (grow _ _) (.rng (IsRange.new _ _ _ _ _ _ _)) _)
    · cases e
      obtain ⟨v1, v2, rfl, r1, r2⟩ := r.two
      obtain ⟨t, rfl⟩ := int_of r1
      obtain ⟨u, rfl⟩ := int_of r2
      exact call_range_2 (k.grown S (grow _ _) (.rng (IsRange.new _ _ _ _ _ _ _)) _)
    · cases e
  rw [if_neg (by assumption)]
  split at e
  · rw [if_pos (by assumption)]
    refine ⟨_, rfl, ?_⟩
    split at e
    · rename_i a
      obtain ⟨v1, rfl, r1⟩ := r.one
      rw [Option.bind_eq_some_iff] at e
      obtain ⟨l, h1, e⟩ := e
      rw [Option.map_eq_some_iff] at e
      obtain ⟨n, h2, rfl⟩ := e
      exact sum_sound S hh r1 h1 h2 k
    · cases e
  rw [if_neg (by assumption)]
  split at e
  · rw [if_pos (by assumption)]
    refine ⟨_, rfl, ?_⟩
    split at e
    · rename_i a
      obtain ⟨v1, rfl, r1⟩ := r.one
      rw [Option.map_eq_some_iff] at e
      obtain ⟨m, e, rfl⟩ := e
      rw [Option.bind_eq_some_iff] at e
      obtain ⟨l, h1, e⟩ := e
      obtain ⟨rfl, hz⟩ := short_some e
      obtain ⟨a, ws, rfl, hl, hr⟩ := list_in S r1 h1
      have hlen := hr.length
      refine call_tuple_list hl (fun h' hk => ?_) (by rw [List.size_toArray, sizeLine_eq]; omega)
      have S' := S.ext hk
      refine Ret.newTup (s := { s with heap := h' }) S' (hr.push S hk) (fun v ρ' s' st sS rv => ?_) s.toks
      exact k v ρ' s' ((step_ext' hk).trans st) sS rv
    · cases e
  rw [if_neg (by assumption)]
  split at e
  · rw [if_pos (by assumption)]
    refine ⟨_, rfl, ?_⟩
    split at e
    · rename_i l
      obtain ⟨v1, rfl, r1⟩ := r.one
      rw [Option.map_eq_some_iff] at e
      obtain ⟨m, e, rfl⟩ := e
      obtain ⟨rfl, hz⟩ := short_some e
      cases r1 with
      | @tup ad ws _ ht hr =>
      obtain ⟨o, ho, hc, n, hd⟩ := id ht
      have hlen := hr.length
      refine call_list_seq ad (.inr rfl) ho hc hd (fun h' c' hk he => ?_) (by rw [List.size_toArray, sizeLine_eq]; omega)
      refine k.grown S hk (.lst ⟨_, he, rfl, c', rfl⟩ (fun m => ?_) (hr.push S hk)) s.toks
      obtain ⟨o', h1, _⟩ := S.mutR _ m
      exact absurd (Heap.lt_size h1) (Nat.lt_irrefl _)
    · cases e
  rw [if_neg (by assumption)]
  split at e
  · rw [if_pos (by assumption)]
    refine ⟨_, rfl, ?_⟩
    split at e
    · rename_i l
      obtain ⟨v1, rfl, r1⟩ := r.one
      split at e
      · rw [Option.map_eq_some_iff] at e
        obtain ⟨ns, e, rfl⟩ := e
        exact sorted_sound S r1 (by assumption) e k
      · cases e
    · cases e
  rw [if_neg (by assumption)]
  split at e
  · rw [if_pos (by assumption)]
    refine ⟨_, rfl, ?_⟩
    split at e
    · cases e
      obtain ⟨v1, v2, rfl, r1, r2⟩ := r.two
      obtain ⟨t, rfl⟩ := int_of r1
      obtain ⟨u, rfl⟩ := int_of r2
      refine max_two_ints hh fun h' tk hk => ?_
      split
      · rename_i hc; rw [if_pos hc] at k; exact k.grown S hk (.int _ _) _
      · rename_i hc; rw [if_neg hc] at k; exact k.grown S hk (.int _ _) _
    · cases e
  rw [if_neg (by assumption)]
  split at e
  · rw [if_pos (by assumption)]
    refine ⟨_, rfl, ?_⟩
    split at e
    · cases e
      obtain ⟨v1, v2, rfl, r1, r2⟩ := r.two
      obtain ⟨t, rfl⟩ := int_of r1
      obtain ⟨u, rfl⟩ := int_of r2
      refine min_two_ints hh fun h' tk hk => ?_
      split
      · rename_i hc; rw [if_pos hc] at k; exact k.grown S hk (.int _ _) _
      · rename_i hc; rw [if_neg hc] at k; exact k.grown S hk (.int _ _) _
    · cases e
  cases e
end
end HQ
end
section
set_option autoImplicit false
set_option linter.unusedSectionVars false
set_option maxRecDepth 10000
namespace HQ
open PySem PySem.W PySem.Calls PyProof.Rows PySem.Spec
variable [Gh]

/-- the iterator I stands before its turn i of n over src -/
noncomputable def IT (ρ : List Addr) (h : Heap) (I : Addr) (n i : Nat) : V → Prop
  | .tup l => ∃ a vs, h.IsTupleIter I a i ∧ h.IsTuple a vs.toArray ∧ a ≠ I ∧ RL ρ h vs l ∧ n = l.length
  | .lst l => ∃ a vs, h.IsListIter I a i ∧ h.IsList a vs.toArray ∧ a ≠ I ∧ a ∉ ρ ∧ RL ρ h vs l
  | .rng x _ => IsRangeIter h I (x + (i : Int)) ((n : Int) - (i : Int)) 1
  | .str s => ∃ t, h.IsStrIter I "str_ascii_iterator" ⟨s.toArray⟩ t i
  | .ref c => ∃ a, ρ[c]? = some a ∧ h.IsListIter I a i
  | .keys c => ∃ a, ρ[c]? = some a ∧ h.IsKeyIter I a i n n
  | .its c => ∃ a ok ov, ρ[c]? = some a ∧ IsItemIter h I a i n n ok ov
  | _ => False
/-- just behind a turn, the value v in hand -/
noncomputable def ITO (ρ : List Addr) (h : Heap) (I : Addr) (n i : Nat) (v : Value) : V → Prop
  | .its c => ∃ a ok ov T, ρ[c]? = some a ∧ v = .ref T ∧ IsItemIterOut h I a i n n ok ov T
  | src => IT ρ h I n i src

theorem IT.obj {ρ : List Addr} {h : Heap} {I : Addr} {n i : Nat} {src : V} (x : IT ρ h I n i src) : ∃ o, h.get? I = some o ∧ frozenO o = false ∧ seqO o = false := by
  cases src with
  | tup l => obtain ⟨_, _, ⟨⟨c, d, dt, sl⟩, e, hc, hd⟩, _⟩ := x; dsimp only at hc hd; subst hc; subst hd; exact ⟨_, e, rfl, rfl⟩
  | lst l => obtain ⟨_, _, ⟨⟨c, d, dt, sl⟩, e, hc, hd⟩, _⟩ := x; dsimp only at hc hd; subst hc; subst hd; exact ⟨_, e, rfl, rfl⟩
  | rng a b => exact ⟨_, x, rfl, rfl⟩
  | str l => obtain ⟨_, ⟨c, d, dt, sl⟩, e, hc, hd⟩ := x; dsimp only at hc hd; subst hc; subst hd; exact ⟨_, e, rfl, rfl⟩
  | ref c => obtain ⟨_, _, ⟨c, d, dt, sl⟩, e, hc, hd⟩ := x; dsimp only at hc hd; subst hc; subst hd; exact ⟨_, e, rfl, rfl⟩
  | keys c => obtain ⟨_, _, ⟨c, d, dt, sl⟩, e, hc, hd⟩ := x; dsimp only at hc hd; subst hc; subst hd; exact ⟨_, e, rfl, rfl⟩
  | its c => obtain ⟨_, _, _, _, e⟩ := x; exact ⟨_, e, rfl, rfl⟩
  | _ => exact x.elim
theorem ITO.obj {ρ : List Addr} {h : Heap} {I : Addr} {n i : Nat} {v : Value} {src : V} (x : ITO ρ h I n i v src) : ∃ o, h.get? I = some o ∧ frozenO o = false ∧ seqO o = false := by
  cases src with
  | its c => obtain ⟨_, _, _, _, _, _, e⟩ := x; exact ⟨_, e, rfl, rfl⟩
  | _ => simp only [ITO] at x; exact IT.obj x

abbrev Only (I : Addr) : Addr → Prop := fun b => b = I
theorem mutO_only {h : Heap} {I : Addr} (x : ∃ o, h.get? I = some o ∧ frozenO o = false ∧ seqO o = false) : MutO (Only I) h := fun a e => by cases e; exact x

/-- a step that keeps all but I, which stands -/
noncomputable def ButI (I : Addr) (h h' : Heap) : Prop := ∀ b o, b ≠ I → h.get? b = some o → h'.get? b = some o
theorem ButI.kept {I : Addr} {h h' : Heap} (x : ButI I h h') (ρ : List Addr) : Kept (Only I) ρ h h' := fun b o e _ n => x b o n e
theorem ButI.trans {I : Addr} {h h' h'' : Heap} (x : ButI I h h') (y : ButI I h' h'') : ButI I h h'' := fun b o n e => y b o n (x b o n e)

section
variable {w : World} {h₀ : Heap} {ρ : List Addr} {s : Shared} {σ σ' : Sto} {x : V} {A : Around} {E : Value → Shared → Prop}

theorem St.but {h h' : Heap} {I : Addr} (S : St w h₀ ρ σ h) (k : ButI I h h') (nI : I ∉ ρ) (mo : MutO (Only I) h) (b0 : h₀.get? I = Option.none) : St w h₀ ρ σ h' :=
  ⟨S.len, S.nd, S.lo, S.nsys, S.big, fun b o e => k b o (fun q => by rw [q, b0] at e; cases e) (S.base b o e), fun c x a e q => by
    have r := S.cell c x a e q
    obtain ⟨o, ho, _⟩ := r.mutable
    have ne : a ≠ I := fun z => nI (z ▸ List.mem_of_getElem? q)
    exact r.mono (List.prefix_refl _) (k.kept ρ) S.mutR mo (fun _ m => .inl m) ((k a o ne ho).trans ho.symm)⟩
theorem step_but {h' : Heap} {tk : Nat} {I : Addr} (k : ButI I s.heap h') (al : ∃ o, h'.get? I = some o) : Step (Only I) ρ s ρ { s with heap := h', toks := tk } :=
  ⟨⟨h', tk, rfl⟩, List.prefix_refl _, fun _ m => .inl m, k.kept ρ, fun b o e => by
    by_cases hb : b = I
    · subst hb; exact al
    · exact ⟨o, k b o hb e⟩⟩

theorem start_sound (S : St w h₀ ρ σ s.heap) (hs : SysIn h₀) {Q : Value → Shared → Prop} {v : Value} {y src : V} {n : Nat} (r : RV ρ s.heap v y) (e : startV σ y = some (src, n))
    (k : ∀ I h', (∀ b o, s.heap.get? b = some o → h'.get? b = some o) → s.heap.get? I = Option.none → h₀.get? I = Option.none → IT ρ h' I n 0 src → Q (.ref I) { s with heap := h' }) :
    wpAny (model prog w) A (pyIter v) Q E s := by
  have nr : s.heap.objs.size ∉ ρ := fun m => by obtain ⟨o', h1, _⟩ := S.mutR _ m; exact absurd (Heap.lt_size h1) (Nat.lt_irrefl _)
  cases r with
  | @tup a vs l ht hr =>
    cases e
    refine wpAny_pyIter_tuple ht (k _ _ (grow _ _) (fresh_none _) (S.fresh (fresh_none _)) ⟨a, vs, ⟨_, Heap.get?_push_size _ rfl, rfl, rfl⟩, ht.push _, ?_, hr.push S (grow _ _), rfl⟩)
    obtain ⟨o, ho, _⟩ := ht
    exact Nat.ne_of_lt (Heap.lt_size ho)
  | @lst a vs l hl hn hr =>
    cases e
    obtain ⟨o, ho, hc⟩ := id hl
    exact wpAny_pyIter_list hl (k _ _ (grow _ _) (fresh_none _) (S.fresh (fresh_none _)) ⟨a, vs, ⟨_, Heap.get?_push_size _ rfl, rfl, rfl⟩, ⟨o, grow _ _ _ _ ho, hc⟩, Nat.ne_of_lt (Heap.lt_size ho), hn, hr.push S (grow _ _)⟩)
  | @rng a x z t u v hr =>
    simp only [startV] at e
    split at e
    · rename_i hb
      cases e
      refine wpAny_pyIter_range hr (small_one (by omega) (by omega) (by omega) (by omega)) (k _ _ (grow _ _) (fresh_none _) (S.fresh (fresh_none _)) ?_)
      show IsRangeIter _ _ _ _ _
      have e1 : x + ((0 : Nat) : Int) = x := by simp
      have e2 : (((z - x).toNat : Nat) : Int) - ((0 : Nat) : Int) = Builtin.Range.rangeSize x z 1 := by
        rw [rangeSize_one]; split <;> omega
      rw [e1, e2]
      exact Heap.get?_push_size _ rfl
    · cases e
  | str l t =>
    simp only [startV] at e
    split at e
    · rename_i hb
      cases e
      refine wpAny_pyIter_ascii (by simpa using hb) (k _ _ (grow _ _) (fresh_none _) (S.fresh (fresh_none _)) ⟨t, _, Heap.get?_push_size _ rfl, rfl, rfl⟩)
    · cases e
  | @ref a c q =>
    simp only [startV] at e
    split at e
    · rename_i l hc
      cases e
      obtain ⟨vs, ⟨n, hp⟩, hr⟩ := S.ref hc q
      exact wpAny_pyIter_list ⟨_, hp, rfl, n, rfl⟩ (k _ _ (grow _ _) (fresh_none _) (S.fresh (fresh_none _)) ⟨a, q, ⟨_, Heap.get?_push_size _ rfl, rfl, rfl⟩⟩)
    · rename_i l hc
      cases e
      obtain ⟨kvs, hd, rd⟩ := S.ref hc q
      refine wpAny_pyIter_dict (S.sys hs (List.mem_of_getElem? q)) hd (k _ _ (grow _ _) (fresh_none _) (S.fresh (fresh_none _)) ⟨a, q, ⟨_, Heap.get?_push_size _ rfl, rfl, ?_⟩⟩)
      rw [rd.length]; rfl
    · cases e
  | @its a d c hv q =>
    simp only [startV] at e
    split at e
    · rename_i l hc
      cases e
      obtain ⟨kvs, hd, rd⟩ := S.ref hc q
      refine wpAny_pyIter_items hv hd (k _ _ (grow _ _) (fresh_none _) (S.fresh (fresh_none _)) ⟨d, .none, .none, q, ?_⟩)
      rw [rd.length]
      exact Heap.get?_push_size _ rfl
    · cases e
  | _ => simp only [startV] at e; cases e

theorem RD.get {h : Heap} : ∀ {kvs : List (Int × Value)} {l : List (Int × V)}, RD ρ h kvs l → ∀ {i : Nat} {p : Int × V}, l[i]? = some p → ∃ v, kvs[i]? = some (p.1, v) ∧ RV ρ h v p.2
  | _, _, .nil, _, _, e => by simp at e
  | _, _, .cons hv _, 0, _, e => by simp at e; subst e; exact ⟨_, rfl, hv⟩
  | _, _, .cons _ r, i + 1, _, e => by simp at e; obtain ⟨v, e', hv⟩ := r.get e; exact ⟨v, by simpa using e', hv⟩

theorem isInt_of {k : Int} {v : Value} (e : Value.isInt k v = true) : ∃ t, v = .int k t := by
  cases v <;> simp [Value.isInt] at e
  subst e; exact ⟨_, rfl⟩

theorem next_sound (S : St w h₀ ρ σ s.heap) (hh : A.handled = Option.none) {Q : Option Value → Shared → Prop} {src : V} {I : Addr} {n i : Nat} {r : Option V} (it : IT ρ s.heap I n i src) (e : nextV σ n i src = some r)
    (kx : ∀ x v h' tk, r = some x → ButI I s.heap h' → RV ρ h' v x → ITO ρ h' I n (i + 1) v src → Q (some v) { s with heap := h', toks := tk })
    (k0 : ∀ h' tk, r = Option.none → ButI I s.heap h' → Q Option.none { s with heap := h', toks := tk }) :
    wpAny (model prog w) A (pyNext (.ref I)) Q E s := by
  have mo : MutO (Only I) s.heap := mutO_only it.obj
  have up : ∀ {h' : Heap} {v : Value} {y : V}, ButI I s.heap h' → RV ρ s.heap v y → RV ρ h' v y := fun b r => r.mono (List.prefix_refl _) (b.kept ρ) S.mutR mo (fun _ m => .inl m)
  have ups : ∀ {h' : Heap} {v : List Value} {y : List V}, ButI I s.heap h' → RL ρ s.heap v y → RL ρ h' v y := fun b r => r.mono (List.prefix_refl _) (b.kept ρ) S.mutR mo (fun _ m => .inl m)
  have sb : ∀ {h' : Heap}, Heap.SameBut I s.heap h' → ButI I s.heap h' := fun hs b o ne e => (hs.2 b ne).trans e
  have eb : ∀ {h' : Heap}, Heap.ExtBut I s.heap h' → ButI I s.heap h' := fun hs b o ne e => hs b o ne e
  cases src with
  | tup l =>
    obtain ⟨a, vs, hit, ht, ne, hr, hn⟩ := it
    simp only [nextV] at e
    cases hx : l[i]? with
    | some y =>
      obtain ⟨v, hv, rv⟩ := hr.get hx
      rw [hx] at e; cases e
      refine wpAny_pyNext_tuple_item hit ht (x := v) (by simpa using hv) fun h' hit' hs => kx y v h' s.toks rfl (sb hs) (up (sb hs) rv) ⟨a, vs, hit', ?_, ne, ups (sb hs) hr, hn⟩
      obtain ⟨o, ho, q⟩ := ht
      exact ⟨o, sb hs _ _ ne ho, q⟩
    | none =>
      rw [hx] at e; cases e
      refine wpAny_pyNext_tuple_end hh hit ht ?_ fun h' hs => k0 h' s.toks rfl (eb hs)
      have := hr.length
      rw [List.getElem?_eq_none_iff] at hx
      simp; omega
  | lst l =>
    obtain ⟨a, vs, hit, hl, ne, hn, hr⟩ := it
    simp only [nextV] at e
    cases hx : l[i]? with
    | some y =>
      obtain ⟨v, hv, rv⟩ := hr.get hx
      rw [hx] at e; cases e
      refine wpAny_pyNext_list_item hit hl (x := v) (by simpa using hv) fun h' hit' hs => kx y v h' s.toks rfl (sb hs) (up (sb hs) rv) ⟨a, vs, hit', ?_, ne, hn, ups (sb hs) hr⟩
      obtain ⟨o, ho, q⟩ := hl
      exact ⟨o, sb hs _ _ ne ho, q⟩
    | none =>
      rw [hx] at e; cases e
      refine wpAny_pyNext_list_end hh hit hl ?_ fun h' hs => k0 h' s.toks rfl (eb hs)
      have := hr.length
      rw [List.getElem?_eq_none_iff] at hx
      simp; omega
  | ref c =>
    obtain ⟨a, q, hit⟩ := it
    simp only [nextV] at e
    split at e
    · rename_i l hc
      obtain ⟨vs, ⟨m, hp⟩, hr⟩ := S.ref hc q
      have hl : s.heap.IsList a vs.toArray := ⟨_, hp, rfl, m, rfl⟩
      cases hx : l[i]? with
      | some y =>
        obtain ⟨v, hv, rv⟩ := hr.get hx
        rw [hx] at e; cases e
        exact wpAny_pyNext_list_item hit hl (x := v) (by simpa using hv) fun h' hit' hs => kx y v h' s.toks rfl (sb hs) (up (sb hs) rv) ⟨a, q, hit'⟩
      | none =>
        rw [hx] at e; cases e
        refine wpAny_pyNext_list_end hh hit hl ?_ fun h' hs => k0 h' s.toks rfl (eb hs)
        have := hr.length
        rw [List.getElem?_eq_none_iff] at hx
        simp; omega
    · cases e
  | rng a b =>
    simp only [nextV] at e
    cases e
    by_cases hi : i < n
    · rw [if_pos hi] at kx
      refine wpAny_pyNext_range_item it (by omega) fun h' hit' hs => kx _ _ h' _ rfl (sb hs) (.int _ _) ?_
      show IsRangeIter _ _ _ _ _
      have e1 : a + ((i + 1 : Nat) : Int) = a + (i : Int) + 1 := by omega
      have e2 : (n : Int) - ((i + 1 : Nat) : Int) = (n : Int) - (i : Int) - 1 := by omega
      rw [e1, e2]; exact hit'
    · rw [if_neg hi] at k0
      exact wpAny_pyNext_range_end hh it (by omega) fun h' hs => k0 h' s.toks rfl (eb hs)
  | str l =>
    obtain ⟨t, hit⟩ := it
    simp only [nextV] at e
    cases e
    cases hx : l[i]? with
    | some y =>
      rw [hx] at kx
      exact wpAny_pyNext_ascii_item hit (c := y) (by simpa using hx) fun h' hit' hs => kx _ _ h' _ rfl (sb hs) (.str [y] _) ⟨t, hit'⟩
    | none =>
      rw [hx] at k0
      exact wpAny_pyNext_ascii_end hh hit (by simpa using hx) fun h' hs => k0 h' s.toks rfl (eb hs)
  | keys c =>
    obtain ⟨a, q, hit⟩ := it
    simp only [nextV] at e
    split at e
    · rename_i l hc
      split at e
      · rename_i hn
        subst hn
        obtain ⟨kvs, hd, rd⟩ := S.ref hc q
        have hlen := rd.length
        have hit2 : s.heap.IsKeyIter I a i kvs.length l.length := by rw [hlen]; exact hit
        cases hx : l[i]? with
        | some y =>
          obtain ⟨v, hv, rv⟩ := rd.get hx
          rw [hx] at e; cases e
          refine wpAny_pyNext_dict_item hit2 hd hv fun key h' hkey hit' hs => ?_
          obtain ⟨t, rfl⟩ := isInt_of hkey
          rw [hlen] at hit'
          exact kx _ _ h' s.toks rfl (sb hs) (.int _ _) ⟨a, q, hit'⟩
        | none =>
          rw [hx] at e; cases e
          refine wpAny_pyNext_dict_end hh hit2 hd ?_ fun h' hs => k0 h' s.toks rfl (eb hs)
          rw [List.getElem?_eq_none_iff] at hx ⊢
          omega
      · cases e
    · cases e
  | its c =>
    obtain ⟨a, ok, ov, q, hit⟩ := it
    simp only [nextV] at e
    split at e
    · rename_i l hc
      split at e
      · rename_i hn
        subst hn
        obtain ⟨kvs, hd, rd⟩ := S.ref hc q
        have hlen := rd.length
        have hit2 : IsItemIter s.heap I a i kvs.length l.length ok ov := by rw [hlen]; exact hit
        cases hx : l[i]? with
        | some y =>
          obtain ⟨v, hv, rv⟩ := rd.get hx
          rw [hx] at e; cases e
          refine wpAny_pyNext_items_item hit2 hd hv fun key h' hkey hit' ht hz hk => ?_
          obtain ⟨t, rfl⟩ := isInt_of hkey
          rw [hlen] at hit'
          have bt : ButI I s.heap h' := fun b o ne e => hk b o ne e
          exact kx _ _ h' s.toks rfl bt (.tup (vs := [.int y.1 t, v]) ⟨_, ht, rfl, 0, rfl⟩ (.cons (.int _ _) (.cons (up bt rv) .nil))) ⟨a, _, _, _, q, rfl, hit'⟩
        | none =>
          rw [hx] at e; cases e
          refine wpAny_pyNext_items_end hh hit2 hd ?_ fun h' hs => k0 h' s.toks rfl (eb hs)
          rw [List.getElem?_eq_none_iff] at hx ⊢
          omega
      · cases e
    · cases e
  | _ => exact it.elim

theorem letGo_name {x : Str} {p : Pos} {I v : Value} {Q : Unit → Shared → Prop} (k : Q () s) : wpAny (model prog w) A (letOwnedTupleGo (.Name x p) I v) Q E s := wpAny_pure k
theorem letGo_tup {elts : List Expr} {x1 : Nat} {p : Pos} {I : Addr} {v : Value} {n i : Nat} {src : V} {Q : Unit → Shared → Prop} (it : ITO ρ s.heap I n i v src)
    (k : ∀ h', ButI I s.heap h' → IT ρ h' I n i src → Q () { s with heap := h' }) : wpAny (model prog w) A (letOwnedTupleGo (.Tuple elts x1 p) (.ref I) v) Q E s := by
  have here : ∀ {T : String} {fs : Array Value} {o : Obj}, s.heap.get? I = some o → o.cls = .type T → o.data = .fields fs → (["enumerate", "zip", "dict_itemiterator", "dict_reverseitemiterator", "odict_iterator", "itertools.zip_longest", "itertools.pairwise"].contains T) = false →
      IT ρ s.heap I n i src → wpAny (model prog w) A (letOwnedTupleGo (.Tuple elts x1 p) (.ref I) v) Q E s := by
    intro T fs o ho hc hd hT hi
    have kk : Q () s := k s.heap (fun _ _ _ e => e) hi
    cases v with
    | ref a =>
      unfold letOwnedTupleGo
      refine wpAny_bind (wpAny_load ho ?_)
      rw [hc, hd]
      show wpAny _ A (if (["enumerate", "zip", "dict_itemiterator", "dict_reverseitemiterator", "odict_iterator", "itertools.zip_longest", "itertools.pairwise"].contains T && fs[0]? == some (rawInt a)) = true then _ else _) Q E s
      rw [hT, Bool.false_and, if_neg (by simp)]
      exact wpAny_pure kk
    | _ => exact wpAny_pure kk
  cases src with
  | tup l => obtain ⟨_, _, ⟨o, e, hc, hd⟩, _⟩ := id it; exact here e hc hd (by decide) it
  | lst l => obtain ⟨_, _, ⟨o, e, hc, hd⟩, _⟩ := id it; exact here e hc hd (by decide) it
  | rng a b => exact here (show s.heap.get? I = some _ from it) rfl rfl (by decide) it
  | str l => obtain ⟨_, o, e, hc, hd⟩ := id it; exact here e hc hd (by decide) it
  | ref c => obtain ⟨_, _, o, e, hc, hd⟩ := id it; exact here e hc hd (by decide) it
  | keys c => obtain ⟨_, _, o, e, hc, hd⟩ := id it; exact here e hc hd (by decide) it
  | its c =>
    obtain ⟨a, ok, ov, T, q, rfl, e⟩ := it
    exact wpAny_letOwnedTupleGo_items e fun h' he hs => k h' (fun b o ne e => (hs.2 b ne).trans e) ⟨a, ok, ov, q, he⟩
  | _ => exact it.elim
end
end HQ
end
section
set_option autoImplicit false
set_option linter.unusedSectionVars false
set_option maxRecDepth 10000
namespace HQ
open PySem PySem.W PySem.Calls PyProof.Rows PySem.Spec
variable [Gh]

section
variable {w : World} {h₀ : Heap} {ρ : List Addr} {s : Shared} {σ σ' : Sto} {x : V} {A : Around} {E : Value → Shared → Prop}

theorem same_kept {h h' : Heap} {a : Addr} (hs : Heap.SameBut a h h') (m : a ∈ ρ) : Kept NoO ρ h h' := fun b o e n _ => (hs.2 b fun z => n (by rw [z]; exact m)).trans e
theorem RV.upd {h h' : Heap} {a : Addr} {v : Value} {y : V} (r : RV ρ h v y) (S : St w h₀ ρ σ h) (hs : Heap.SameBut a h h') (m : a ∈ ρ) : RV ρ h' v y :=
  r.mono (List.prefix_refl _) (same_kept hs m) S.mutR (mutO_no _) (fun _ m => .inl m)
theorem RL.upd {h h' : Heap} {a : Addr} {v : List Value} {y : List V} (r : RL ρ h v y) (S : St w h₀ ρ σ h) (hs : Heap.SameBut a h h') (m : a ∈ ρ) : RL ρ h' v y :=
  r.mono (List.prefix_refl _) (same_kept hs m) S.mutR (mutO_no _) (fun _ m => .inl m)
theorem RD.upd {h h' : Heap} {a : Addr} {v : List (Int × Value)} {y : List (Int × V)} (r : RD ρ h v y) (S : St w h₀ ρ σ h) (hs : Heap.SameBut a h h') (m : a ∈ ρ) : RD ρ h' v y :=
  r.mono (List.prefix_refl _) (same_kept hs m) S.mutR (mutO_no _) (fun _ m => .inl m)

theorem append_sound (S : St w h₀ ρ σ s.heap) {Q : Value → Shared → Prop} {a : Addr} {c : Nat} {l : List V} {v : Value} {y : V} (q : ρ[c]? = some a) (hc : (getF σ c) = some (.list l)) (hz : l.length ≤ 1000) (r : RV ρ s.heap v y)
    (k : Ret w h₀ ρ s (setF σ c (.list (l ++ [y]))) .none Q) : wpAny (model prog w) A (call (.builtin "list.append") [.ref a, v]) Q E s := by
  obtain ⟨vs, hp, hr⟩ := S.ref hc q
  have m := List.mem_of_getElem? q
  have hlen := hr.length
  refine wpAny_list_append_plain hp (fun h' hp' hs => ?_) (by rw [List.size_toArray, sizeLine_eq]; omega)
  obtain ⟨n, ho⟩ := id hp'
  refine k .none ρ _ (step_upd (tk := s.toks) hs m ho) (S.upd hs q ⟨vs ++ [v], by simpa using hp', (hr.upd S hs m).append (.cons (r.upd S hs m) .nil)⟩) .none

theorem eraseLast {α : Type} (l : List α) : l.toArray.eraseIdxIfInBounds (l.toArray.size - 1) = l.dropLast.toArray := by
  apply Array.ext'
  rw [Array.eraseIdxIfInBounds]
  split
  · rename_i h
    rw [Array.toList_eraseIdx]
    simp [List.dropLast_eq_take, List.eraseIdx_eq_take_drop_succ]
    simp at h
    omega
  · rename_i h
    simp at h ⊢
    have : l = [] := by
      cases l with
      | nil => rfl
      | cons a r => simp at h; omega
    subst this; rfl
theorem RL.dropLast {h : Heap} {vs : List Value} {l : List V} (r : RL ρ h vs l) : RL ρ h vs.dropLast l.dropLast := by
  rw [List.dropLast_eq_take, List.dropLast_eq_take, r.length]; exact r.take _

theorem pop_sound (S : St w h₀ ρ σ s.heap) {Q : Value → Shared → Prop} {a : Addr} {c : Nat} {l : List V} {y : V} (q : ρ[c]? = some a) (hc : (getF σ c) = some (.list l)) (hz : l.length ≤ 1000) (hl : l.getLast? = some y)
    (k : Ret w h₀ ρ s (setF σ c (.list l.dropLast)) y Q) : wpAny (model prog w) A (call (.builtin "list.pop") [.ref a]) Q E s := by
  obtain ⟨vs, ⟨n, hp⟩, hr⟩ := S.ref hc q
  have m := List.mem_of_getElem? q
  have hlen := hr.length
  rw [List.getLast?_eq_getElem?] at hl
  obtain ⟨v, hv, rv⟩ := hr.get hl
  have hs : Heap.SameBut a s.heap (s.heap.update a (Obj.mapSeq fun xs => xs.eraseIdxIfInBounds (vs.toArray.size - 1))) := Heap.SameBut.update ..
  have ho := Heap.get?_update_self (Obj.mapSeq fun xs => xs.eraseIdxIfInBounds (vs.toArray.size - 1)) hp rfl
  refine call_meets PySem.F.slot_list_pop ⟨_, hp, rfl⟩ PySem.F.entry_list_pop (PySem.F.args_list_pop_1 _) (PySem.MeetsSeq.list_pop_last a vs.toArray n v (by simp [hlen, hv]) (by rw [List.size_toArray, sizeLine_eq]; omega)) ⟨hp, ?_⟩
  have hpl : (s.heap.update a (Obj.mapSeq fun xs => xs.eraseIdxIfInBounds (vs.toArray.size - 1))).PlainList a vs.dropLast.toArray := by
    unfold Heap.PlainList
    rw [ho]
    simp only [Obj.mapSeq, eraseLast]
    exact ⟨_, rfl⟩
  exact k v ρ _ (step_upd (tk := s.toks) hs m ho) (S.upd hs q ⟨vs.dropLast, hpl, hr.dropLast.upd S hs m⟩) (rv.upd S hs m)

theorem setItem_listH {a : Addr} {items : Array Value} {n : Nat} {k : Int} {t : Tok} {v : Value} {Q : Unit → Shared → Prop} (ho : s.heap.get? a = some (seqObj "list" items n))
    (h0 : 0 ≤ k) (hfit : k < 2 ^ 63) (hn : k < items.size)
    (hQ : ∀ h', h'.PlainList a (items.setIfInBounds k.toNat v) → Heap.SameBut a s.heap h' → Q () { s with heap := h' }) :
    wpAny (model prog w) A (setItem (.ref a) (.int k t) v) Q E s := by
  have hT : s.TypeIs (.ref a) "list" := ⟨_, ho, rfl⟩
  unfold setItem
  try with_reducible refine wpAny_holding ?_
  refine wpAny_bind (wpAny_sequenceKey hT (by decide) ?_)
  refine wpAny_bind (wpAny_callSpecial?_slot (name := Str.ofString "__setitem__") hT slot_list_setitem
    (wpAny_call_entry slot_list_setitem hT entry_list_setitem ?_ (args_list_setitem _ _ _)))
  show wpAny _ _ (Builtin.List.listSubscript? (.int k t) >>= _) _ _ s
  refine wpAny_bind (wpAny_listSubscript_int (fitsIndex_of h0 hfit) ?_)
  clear hfit
  obtain ⟨j, rfl⟩ := Int.eq_ofNat_of_zero_le h0
  have hj : j < items.size := by omega
  show wpAny _ _ ((seqItemAt a j >>= fun r => pure (r.map (j, ·))) >>= _) _ _ s
  refine wpAny_bind (wpAny_bind (wpAny_seqItemAt ho rfl (wpAny_pure ?_)))
  rw [Array.getElem?_eq_getElem hj]
  show wpAny _ _ (setSeqItemAt a j v >>= _) _ _ s
  have hu := Heap.get?_update_self (Obj.mapSeq (·.setIfInBounds j v)) ho rfl
  have fin := hQ (s.heap.update a (Obj.mapSeq (·.setIfInBounds j v))) ⟨_, hu⟩ (Heap.SameBut.update ..)
  refine wpAny_bind (wpAny_setSeqItemAt ho rfl ?_)
  first
    | exact wpAny_bind (wpAny_pure (wpAny_pure ⟨.none, rfl, wpAny_pure fin⟩))
    | exact wpAny_pure ⟨.none, rfl, wpAny_pure fin⟩

theorem setList_sound (S : St w h₀ ρ σ s.heap) {Q : Unit → Shared → Prop} {a : Addr} {c n : Nat} {l : List V} {i : Int} {t : Tok} {v : Value} {y : V} (q : ρ[c]? = some a) (hc : (getF σ c) = some (.list l)) (hp : place l.length i = some n) (r : RV ρ s.heap v y)
    (k : RetU w h₀ ρ s (setF σ c (.list (l.set n y))) Q) : wpAny (model prog w) A (setItem (.ref a) (.int i t) v) Q E s := by
  obtain ⟨vs, ⟨m, ho⟩, hr⟩ := S.ref hc q
  have mem := List.mem_of_getElem? q
  have hlen := hr.length
  obtain ⟨h0, h1, h2, rfl⟩ := place_some hp
  refine setItem_listH ho h0 (by omega) (by rw [List.size_toArray]; omega) fun h' hp' hs => ?_
  obtain ⟨n', ho'⟩ := id hp'
  exact k ρ _ (step_upd (tk := s.toks) hs mem ho') (S.upd hs q ⟨vs.set i.toNat v, by simpa using hp', (hr.upd S hs mem).set (r.upd S hs mem) _⟩)

/-- a dict's entry is put: the epoch counts the entries -/
theorem dictSet_at {d : Addr} {kvs : List (Int × Value)} {ep : Nat} {j : Int} {t : Tok} {v : Value} {Q : Unit → Shared → Prop} (hm : s.heap.DictAt (DK w) d kvs ep) (hz : kvs.length ≤ 1000)
    (hQ : ∀ h', h'.DictAt (DK w) d (stored kvs j v) (ep + ((stored kvs j v).length - kvs.length)) → Heap.SameBut d s.heap h' → Q () { s with heap := h', toks := s.toks + 1 }) :
    wpAny (model prog w) A (dictSet d (.int j t) v) Q E s := by
  have hkey : (DK w).is j (.int j t) = true := by show (j == j) = true; simp
  obtain ⟨o, es, ho, hc, hd, hk, hp, hn⟩ := hm
  have hes : es.size = kvs.length := by rw [← hp.length]; simp
  unfold dictSet
  try with_reducible refine wpAny_holding ?_
  refine wpAny_bind ((DK w).pyHash hkey ?_)
  unfold dictSetHashed
  try with_reducible refine wpAny_holding ?_
  refine wpAny_bind (wpAny_dictFind_of (s := { s with toks := s.toks + 1 }) hkey ho hd hk ?_)
  have hidx : (es.findIdx? fun e => (DK w).is j e.key) = kvs.findIdx? fun kv => decide (kv.1 = j) := by
    rw [← hp.findIdx j]; obtain ⟨l⟩ := es; simp
  cases hi : es.findIdx? fun e => (DK w).is j e.key with
  | some i =>
    have hst : stored kvs j v = kvs.map fun kv => if kv.1 = j then (kv.1, v) else kv := by rw [stored, if_pos (any_of_findIdx_some (hidx ▸ hi))]
    have hep : ep + ((stored kvs j v).length - kvs.length) = ep := by rw [hst, List.length_map]; omega
    rw [hep] at hQ
    refine wpAny_bind (wpAny_rule (wpAny_bind (wpAny_updateDict (s := { s with toks := s.toks + 1 }) ho hd (wpAny_point (hQ _ ?_ (Heap.SameBut.update ..))))))
    have hl : (es.toList.findIdx? fun e => (DK w).is j e.key) = some i := by rw [← hi]; obtain ⟨l⟩ := es; simp
    have := hp.modify hn hl v
    rw [hst]
    refine ⟨_, _, Heap.get?_update_self _ ho (Obj.isFreed_of_dict (Obj.data_mapDict hd _)), hc.mapDict _, Obj.data_mapDict hd _, hk.modify _ _, ?_, by rw [keys_map_store]; exact hn⟩
    obtain ⟨l⟩ := es
    simpa using this
  | none =>
    have hnot : j ∉ kvs.map (·.1) := not_mem_of_findIdx_none (hidx ▸ hi)
    have hany : ¬ (kvs.any fun kv => decide (kv.1 = j)) = true := by
      rw [List.any_eq_true]; rintro ⟨kv, hkv, he⟩
      exact hnot (List.mem_map.mpr ⟨kv, hkv, of_decide_eq_true he⟩)
    have hst : stored kvs j v = kvs ++ [(j, v)] := by rw [stored, if_neg hany]
    have hep : ep + ((stored kvs j v).length - kvs.length) = ep + 1 := by rw [hst, List.length_append]; simp
    rw [hep] at hQ
    refine wpAny_bind (wpAny_rule (wpAny_updateDictKeys (hz := by rw [hes, sizeLine_eq]; omega) (s := { s with toks := s.toks + 1 }) ho hd (hQ _ ?_ (Heap.SameBut.update ..))))
    have := hp.append hkey ((DK w).hash j) v
    rw [hst]
    refine ⟨_, _, Heap.get?_update_self _ ho (Obj.isFreed_of_dict (Obj.data_mapDictKeys hd _)), hc.mapDictKeys _, Obj.data_mapDictKeys hd _, hk.push hkey _, ?_, ?_⟩
    · obtain ⟨l⟩ := es
      simpa using this
    · rw [List.map_append, List.nodup_append]
      refine ⟨hn, by simp, fun a ha b hb => ?_⟩
      simp at hb
      subst hb
      exact fun e => hnot (e ▸ ha)

theorem dictPut_sound (S : St w h₀ ρ σ s.heap) {Q : Unit → Shared → Prop} {a : Addr} {c : Nat} {l : List (Int × V)} {i : Int} {t : Tok} {v : Value} {y : V} (q : ρ[c]? = some a) (hc : (getF σ c) = some (.dict l)) (hz : l.length ≤ 1000) (r : RV ρ s.heap v y)
    (k : RetU w h₀ ρ s (setF σ c (.dict (dPut i y l))) Q) : wpAny (model prog w) A (dictSet a (.int i t) v) Q E s := by
  obtain ⟨kvs, hd, rd⟩ := S.ref hc q
  have mem := List.mem_of_getElem? q
  have hlen := rd.length
  have hn := hd.nodup
  refine dictSet_at hd (by omega) fun h' hd' hs => ?_
  obtain ⟨o, _, ho', _⟩ := id hd'
  have rp := (rd.upd S hs mem).put i (r.upd S hs mem) hn
  refine k ρ _ (step_upd hs mem ho') (S.upd hs q ⟨stored kvs i v, ?_, rp⟩)
  have e1 := rp.length
  have : l.length + ((stored kvs i v).length - kvs.length) = (dPut i y l).length := by
    have h1 : kvs.length ≤ (stored kvs i v).length := by
      unfold stored; split <;> simp
    omega
  rw [← this]; exact hd'

theorem setDict_sound (S : St w h₀ ρ σ s.heap) {Q : Unit → Shared → Prop} {a : Addr} {c : Nat} {l : List (Int × V)} {i : Int} {t : Tok} {v : Value} {y : V} (q : ρ[c]? = some a) (hc : (getF σ c) = some (.dict l)) (hz : l.length ≤ 1000) (r : RV ρ s.heap v y)
    (k : RetU w h₀ ρ s (setF σ c (.dict (dPut i y l))) Q) : wpAny (model prog w) A (setItem (.ref a) (.int i t) v) Q E s := by
  obtain ⟨kvs, hd, rd⟩ := S.ref hc q
  have hT : s.TypeIs (.ref a) "dict" := (Heap.DictAt.dictOf hd).typeIs
  unfold setItem
  try with_reducible refine wpAny_holding ?_
  refine wpAny_bind (wpAny_sequenceKey hT (by decide) ?_)
  refine wpAny_bind (wpAny_callSpecial?_slot (name := Str.ofString "__setitem__") hT slot_dict_setitem
    (wpAny_call_entry slot_dict_setitem hT entry_dict_setitem ?_ (args_dict_setitem _ _ _)))
  show wpAny _ _ (Builtin.Dict.notOrdered "__setitem__" ⟨[.ref a, .int i t, v], []⟩ >>= _) _ _ s
  refine wpAny_bind (wpAny_notOrdered_dict hT ?_)
  show wpAny _ _ (dictSet a (.int i t) v >>= _) _ _ s
  exact wpAny_bind (dictPut_sound S q hc hz r fun ρ' s' st sS => wpAny_pure ⟨.none, rfl, wpAny_pure (k ρ' s' st sS)⟩)

theorem truthy_sound (S : St w h₀ ρ σ s.heap) {Q : Bool → Shared → Prop} {v : Value} {y : V} {b : Bool} (r : RV ρ s.heap v y) (e : truthyV σ y = some b) (k : RetB w h₀ ρ s σ b Q) : wpAny (model prog w) A (truthy v) Q E s := by
  cases r with
  | bool c => cases e; exact wpAny_truthy_bool (k ρ s Step.refl S)
  | @ref a c q =>
    simp only [truthyV] at e
    split at e
    · rename_i l hc
      split at e
      · cases e
        obtain ⟨vs, ⟨n, ho⟩, hr⟩ := S.ref (listAt_some hc) q
        have hlen := hr.length
        refine wpAny_truthy_list ⟨_, ho, rfl, n, rfl⟩ (by rw [List.size_toArray]; omega) ?_
        have : vs.toArray.isEmpty = l.isEmpty := by
          cases vs <;> cases l <;> simp at hlen <;> rfl
        rw [this]
        exact k ρ _ step_toks S
      · cases e
    · cases e
  | _ => simp only [truthyV] at e; cases e
end
end HQ
end
section
set_option autoImplicit false
set_option linter.unusedSectionVars false
set_option maxRecDepth 10000
namespace HQ
open PySem PySem.W PySem.Calls PyProof.Rows PySem.Spec
variable [Gh]

/-- what the base heap holds -/
structure Base (K : Frag) (h : Heap) : Prop where
  X : K.In h
  sys : SysIn h
  lim : h.NoLimit
  ns : ∃ mg mb, h.Ns mainGlobals mg ∧ h.Ns builtinsNs mb ∧ ∀ x : Str, x ≠ "__name__" → mb x = bootBuiltins x

theorem Base.mono {K : Frag} {h h' : Heap} (B : Base K h) (k : ∀ b o, h.get? b = some o → h'.get? b = some o) : Base K h' :=
  ⟨B.X.keeps k, B.sys.up k, B.lim.keeps k, let ⟨mg, mb, h1, h2, h3⟩ := B.ns; ⟨mg, mb, h1.keeps k, h2.keeps k, h3⟩⟩

structure FnK (K : Frag) (d : FDef) : Prop where
  obj : ∃ oc od fd osl, K.lookup d.addr = some ⟨oc, od, .func fd, osl⟩ ∧ fd.scope = d.scope ∧ fd.globals = mainGlobals ∧ fd.closure = [] ∧ fd.builtins = builtinsNs ∧ fd.body = .stmts d.body ∧ codeIn K fd.code fd.qualname = true ∧
    ∀ vs : List Value, vs.length = d.params.length → bindArgs fd ⟨vs, []⟩ = pure (d.params.zip vs)
  fn : isFn K (.ref d.addr) = true
  keep : keepIn K (.ref d.addr) = true
  ok : defOk d = true

/-- a class whose objects hold their attributes in a dict, plainly -/
structure InsK (K : Frag) (C : Addr) : Prop where
  get : findIn K (.ref C) "__getattribute__" = some (some (.builtin "object.__getattribute__"))
  set : findIn K (.ref C) "__setattr__" = some (some (.builtin "object.__setattr__"))
  hook : findIn K (.ref C) "__getattr__" = some Option.none
  over : plainOver K C = true
  hasDict : (clsIn K C).any (·.hasDict) = true

structure ProgOK (P : Prog) (K : Frag) : Prop where
  fn : ∀ f d, P.fn f = some d → nsIn K mainGlobals f = some (some (.ref d.addr)) ∧ FnK K d
  cls : ∀ f c, P.cls f = some c → nsIn K mainGlobals f = some (some (.ref c.addr)) ∧ FnK K c.init ∧ makesIn K c.addr = true ∧ findIn K (.ref c.addr) "__init__" = some (some (.ref c.init.addr)) ∧ keepIn K (.ref c.addr) = true
  bi : ∀ f v, P.fn f = Option.none → P.cls f = Option.none → bval f = some v → nsIn K mainGlobals f = some Option.none ∧ bootBuiltins f = some v ∧ f ≠ "__name__"
  isi : nsIn K mainGlobals "isinstance" = some Option.none ∧ bootBuiltins "isinstance" = some (.builtin "isinstance")
  tup : nsIn K mainGlobals "tuple" = some Option.none ∧ bootBuiltins "tuple" = some (.type "tuple")
  meth : ∀ C m d, P.meth C m = some d → FnK K d ∧ InsK K C ∧ findIn K (.ref C) m = some (some (.ref d.addr))
  cattr : ∀ c a v, P.cattr c a = some v → ∃ C mc val, nsIn K mainGlobals c = some (some (.ref C)) ∧ readsIn K C mc = true ∧ findCls K (.ref C) mc a = some (.val val) ∧ handedIn val = true ∧ ∀ ρ h, RV ρ h val v
  iattr : ∀ C a, P.iattr C a = true → InsK K C ∧ findIn K (.ref C) a = some Option.none

/-- a frame and the evaluator's view of it -/
structure FrOK (h₀ : Heap) (ρ : List Addr) (h : Heap) (env : Env) (F : Fm) : Prop where
  kind : env.scope.kind = .function
  gl : env.globals = mainGlobals
  bi : env.builtins = builtinsNs
  kl : ∀ x, F.scope.names.lookup x = some .local → env.kindOf x = some .local
  kc : ∀ x, F.scope.names.lookup x = some .cell → env.kindOf x = some .cell
  kf : ∀ x, F.scope.names.lookup x = some .free → env.kindOf x = some .cell ∨ env.kindOf x = some .free
  kg : ∀ x, F.scope.names.lookup x = some .globalImplicit → env.kindOf x = some .globalImplicit
  nd : F.scope.names.lookup ("__debug__" : Str) = Option.none
  nc : F.scope.names.lookup ("__classdict__" : Str) = Option.none
  known : ∀ x v, look x F.vars = some v → F.scope.names.lookup x = some .local ∨ F.scope.names.lookup x = some .cell ∨ F.scope.names.lookup x = some .free
  ns : ∃ m, h.Ns env.locals m ∧ ∀ x v, F.scope.names.lookup x = some .local → look x F.vars = some v → ∃ val, m x = some val ∧ RV ρ h val v
  cells : ∀ x, F.scope.names.lookup x = some .cell ∨ F.scope.names.lookup x = some .free → ∃ c v₀, env.cells.lookup x = some c ∧ h.IsCell c v₀ ∧ c ∉ ρ ∧ ∀ v, look x F.vars = some v → ∃ val, v₀ = some val ∧ RV ρ h val v
  apart : ∀ x y c, F.scope.names.lookup x = some .cell → env.cells.lookup x = some c → env.cells.lookup y = some c → x = y
  lr : env.locals ∉ ρ
  l0 : h₀.get? env.locals = Option.none
  c0 : ∀ x c, F.scope.names.lookup x = some .cell → env.cells.lookup x = some c → h₀.get? c = Option.none

/-- the frame's own addresses -/
noncomputable def Own (env : Env) (F : Fm) : Addr → Prop := fun a => a = env.locals ∨ ∃ x, F.scope.names.lookup x = some .cell ∧ env.cells.lookup x = some a

section
variable {K : Frag} {w : World} {h₀ : Heap} {ρ ρ' : List Addr} {s s' : Shared} {σ σ' : Sto} {x : V} {A : Around} {E : Value → Shared → Prop} {env : Env} {F : Fm}

theorem ns_obj {h : Heap} {a : Addr} {m : Str → Option Value} (n : h.Ns a m) : ∃ o, h.get? a = some o ∧ frozenO o = false ∧ seqO o = false := by
  obtain ⟨⟨c, d, dt, sl⟩, es, ep, e, hd, _⟩ := n
  dsimp only at hd; subst hd
  exact ⟨_, e, rfl, rfl⟩
theorem cell_obj {h : Heap} {a : Addr} {v : Option Value} (n : h.IsCell a v) : ∃ o, h.get? a = some o ∧ frozenO o = false ∧ seqO o = false := by
  obtain ⟨⟨c, d, dt, sl⟩, e, hd⟩ := n
  dsimp only at hd; subst hd
  exact ⟨_, e, rfl, rfl⟩
theorem ns_cell {h : Heap} {a : Addr} {m : Str → Option Value} {v : Option Value} (n : h.Ns a m) (c : h.IsCell a v) : False := by
  obtain ⟨o, es, ep, e, hd, _⟩ := n
  obtain ⟨o', e', hd'⟩ := c
  rw [e] at e'; cases e'; rw [hd] at hd'; cases hd'

theorem FrOK.mutO (X : FrOK h₀ ρ s.heap env F) : MutO (Own env F) s.heap := fun a q => by
  rcases q with rfl | ⟨x, h1, h2⟩
  · obtain ⟨m, hn, _⟩ := X.ns; exact ns_obj hn
  · obtain ⟨c, v₀, hc, hi, _⟩ := X.cells x (.inl h1)
    rw [hc] at h2; cases h2; exact cell_obj hi

/-- a step that leaves the frame's own objects leaves the frame -/
theorem FrOK.step {O : Addr → Prop} (X : FrOK h₀ ρ s.heap env F) (S : St w h₀ ρ σ s.heap) (st : Step O ρ s ρ' s') (mo : MutO O s.heap) (nl : ¬ O env.locals) (ncl : ∀ x c, env.cells.lookup x = some c → ¬ O c) : FrOK h₀ ρ' s'.heap env F :=
  { X with
    ns := by
      obtain ⟨m, hn, hv⟩ := X.ns
      have hn' : s'.heap.Ns env.locals m := by
        obtain ⟨o, es, ep, e, r⟩ := hn
        exact ⟨o, es, ep, st.keep _ _ e X.lr nl, r⟩
      exact ⟨m, hn', fun x v h1 h2 => let ⟨val, h3, h4⟩ := hv x v h1 h2; ⟨val, h3, st.rv S mo h4⟩⟩
    cells := fun x hx => by
      obtain ⟨c, v₀, hc, ⟨o, e, hd⟩, hn, hv⟩ := X.cells x hx
      exact ⟨c, v₀, hc, ⟨o, st.keep _ _ e hn (ncl x c hc), hd⟩, st.mem e hn, fun v h2 => let ⟨val, h3, h4⟩ := hv v h2; ⟨val, h3, st.rv S mo h4⟩⟩
    lr := by
      obtain ⟨m, hn, _⟩ := X.ns
      obtain ⟨o, e, _⟩ := ns_obj hn
      exact st.mem e X.lr }
theorem FrOK.step0 (X : FrOK h₀ ρ s.heap env F) (S : St w h₀ ρ σ s.heap) (st : Step NoO ρ s ρ' s') : FrOK h₀ ρ' s'.heap env F :=
  X.step S st (mutO_no _) (fun q => q) (fun _ _ _ q => q)

theorem St.base' (S : St w h₀ ρ σ s.heap) (B : Base K h₀) : Base K s.heap := B.mono S.base

/-- a name that the frame holds -/
theorem load_var (X : FrOK h₀ ρ s.heap env F) {Q : Value → Shared → Prop} {n : Str} {p : Pos} {v : V} (e : look n F.vars = some v) (k : ∀ val, RV ρ s.heap val v → Q val s) : wpAny (model prog w) A (eval (.Name n p) env) Q E s := by
  have known := X.known n v e
  have hd : (n == ("__debug__" : Str)) = false := by
    rw [beq_eq_false_iff_ne]; rintro rfl
    rw [X.nd] at known; simp at known
  have hc : (n == ("__classdict__" : Str)) = false := by
    rw [beq_eq_false_iff_ne]; rintro rfl
    rw [X.nc] at known; simp at known
  rcases known with h | h | h
  · obtain ⟨m, hn, hv⟩ := X.ns
    obtain ⟨val, h1, h2⟩ := hv n v h e
    exact wpAny_Name (wpAny_loadName_local X.kind (X.kl n h) hn h1 (k val h2)) hd
  · obtain ⟨c, v₀, hl, hi, _, hv⟩ := X.cells n (.inl h)
    obtain ⟨val, rfl, h2⟩ := hv v e
    exact wpAny_Name (wpAny_loadName_cell X.kind (X.kc n h) hl hi (k val h2)) hd
  · obtain ⟨c, v₀, hl, hi, _, hv⟩ := X.cells n (.inr h)
    obtain ⟨val, rfl, h2⟩ := hv v e
    rcases X.kf n h with q | q
    · exact wpAny_Name (wpAny_loadName_cell X.kind q hl hi (k val h2)) hd
    · exact wpAny_Name (wpAny_loadName_free X.kind q hl hi (k val h2) hc) hd

theorem isGlob_of {n : Str} (e : isGlob F n = true) : F.scope.names.lookup n = some .globalImplicit := by
  obtain ⟨sc, vars⟩ := F
  have e : (globS sc n && (look n vars).isNone) = true := e
  rw [Bool.and_eq_true] at e
  have h1 := e.1
  unfold globS at h1
  rw [look_lookup] at h1
  show sc.names.lookup n = _
  cases q : sc.names.lookup n with
  | none => rw [q] at h1; cases h1
  | some k =>
    rw [q] at h1
    cases k <;> first | rfl | cases h1
/-- a global of the program's -/
theorem load_glob (X : FrOK h₀ ρ s.heap env F) (S : St w h₀ ρ σ s.heap) (B : Base K h₀) {Q : Value → Shared → Prop} {n : Str} {p : Pos} {v : Value} (e : isGlob F n = true) (hn : nsIn K mainGlobals n = some (some v)) (k : Q v s) : wpAny (model prog w) A (eval (.Name n p) env) Q E s := by
  have hg := isGlob_of e
  have hd : (n == ("__debug__" : Str)) = false := by
    rw [beq_eq_false_iff_ne]; rintro rfl
    rw [X.nd] at hg; cases hg
  obtain ⟨mg, mb, h1, h2, h3⟩ := B.ns
  have B' := S.base' B
  exact Name_function_global X.kind (X.kg n hg) (loadGlobal_global (by rw [X.gl]; exact h1.keeps S.base) (mg_of B.X h1 hn) k) hd
theorem load_boot (X : FrOK h₀ ρ s.heap env F) (S : St w h₀ ρ σ s.heap) (B : Base K h₀) {Q : Value → Shared → Prop} {n : Str} {p : Pos} {v : Value} (e : isGlob F n = true) (hn : nsIn K mainGlobals n = some Option.none) (hb : bootBuiltins n = some v) (hne : n ≠ "__name__") (k : Q v s) :
    wpAny (model prog w) A (eval (.Name n p) env) Q E s := by
  have hg := isGlob_of e
  have hd : (n == ("__debug__" : Str)) = false := by
    rw [beq_eq_false_iff_ne]; rintro rfl
    rw [X.nd] at hg; cases hg
  obtain ⟨mg, mb, h1, h2, h3⟩ := B.ns
  exact Name_function_global X.kind (X.kg n hg) (loadGlobal_builtin (by rw [X.gl]; exact h1.keeps S.base) (mg_none_of B.X h1 hn) (by rw [X.bi]; exact h2.keeps S.base) ((h3 n hne).trans hb) k) hd

theorem look_setv {α : Type} (n y : Str) (v : α) : ∀ l : List (Str × α), look y (setv n v l) = if y = n then some v else look y l
  | [] => by rw [setv_nil, look_cons, look_nil]
  | (z, u) :: r => by
    rw [setv_cons]
    by_cases h : n = z
    · subst h
      rw [if_pos rfl]
      simp only [look_cons, look_nil]
      by_cases h2 : y = n
      · simp [h2]
      · simp [h2]
    · rw [if_neg h]
      simp only [look_cons, look_nil]
      by_cases h2 : y = z
      · have : ¬ y = n := fun e => h (e.symm.trans h2)
        rw [if_pos h2, if_neg this, if_pos h2]
      · rw [if_neg h2, look_setv n y v r, if_neg h2]

theorem storeOk_of {sc : Scope} {n : Str} (e : storeOk sc n = true) : sc.names.lookup n = some .local ∨ sc.names.lookup n = some .cell := by
  unfold storeOk at e
  rw [look_lookup] at e
  split at e
  · exact .inl (by assumption)
  · exact .inr (by assumption)
  · cases e

/-- a name is stored -/
theorem store_var (X : FrOK h₀ ρ s.heap env F) (S : St w h₀ ρ σ s.heap) {Q : Unit → Shared → Prop} {n : Str} {val : Value} {v : V} (e : storeOk F.scope n = true) (r : RV ρ s.heap val v)
    (k : ∀ s', Step (Own env F) ρ s ρ s' → St w h₀ ρ σ s'.heap → FrOK h₀ ρ s'.heap env ⟨F.scope, setv n v F.vars⟩ → Q () s') : wpAny (model prog w) A (storeName env n val) Q E s := by
  have mo := X.mutO
  rcases storeOk_of e with h | h
  · obtain ⟨m, hn, hv⟩ := X.ns
    refine wpAny_storeName_local (X.kl n h) hn (fun h' hn' hs => ?_) (by rw [X.kind]; rfl)
    have al : ∃ o, h'.get? env.locals = some o := let ⟨o, e, _⟩ := ns_obj hn'; ⟨o, e⟩
    have bt : ButI env.locals s.heap h' := fun b o ne e => (hs.2 b ne).trans e
    have mo1 : MutO (Only env.locals) s.heap := mutO_only (ns_obj hn)
    have st1 : Step (Only env.locals) ρ s ρ { s with heap := h', toks := s.toks + 1 } := step_but bt al
    have cne : ∀ {c : Addr} {v₀ : Option Value}, s.heap.IsCell c v₀ → c ≠ env.locals := fun hi q => ns_cell (q ▸ hn) hi
    refine k _ (st1.weak fun a q => .inl q) (S.but bt X.lr mo1 X.l0) { X with
      known := fun y u hy => ?_
      ns := ⟨_, hn', fun y u h1 h2 => ?_⟩
      cells := fun y hy => ?_ }
    · rw [look_setv] at hy
      by_cases q : y = n
      · exact .inl (q ▸ h)
      · rw [if_neg q] at hy; exact X.known y u hy
    · rw [look_setv] at h2
      by_cases q : y = n
      · rw [if_pos q] at h2; cases h2
        exact ⟨val, by rw [if_pos q], st1.rv S mo1 r⟩
      · rw [if_neg q] at h2
        obtain ⟨val', h3, h4⟩ := hv y u h1 h2
        exact ⟨val', by rw [if_neg q]; exact h3, st1.rv S mo1 h4⟩
    · obtain ⟨c, v₀, hc, hi, hnr, hcv⟩ := X.cells y hy
      refine ⟨c, v₀, hc, ?_, hnr, fun u h2 => ?_⟩
      · obtain ⟨o, eo, hd⟩ := id hi
        exact ⟨o, bt c o (cne hi) eo, hd⟩
      · rw [look_setv] at h2
        have q : ¬ y = n := by rintro rfl; rw [h] at hy; rcases hy with hy | hy <;> cases hy
        rw [if_neg q] at h2
        obtain ⟨val', h3, h4⟩ := hcv u h2
        exact ⟨val', h3, st1.rv S mo1 h4⟩
  · obtain ⟨c, v₀, hc, hi, hnr, hcv⟩ := X.cells n (.inl h)
    refine wpAny_storeName_cell X.kind (X.kc n h) hc hi fun h' hi' hs => ?_
    have al : ∃ o, h'.get? c = some o := let ⟨o, e, _⟩ := cell_obj hi'; ⟨o, e⟩
    have bt : ButI c s.heap h' := fun b o ne e => (hs.2 b ne).trans e
    have mo1 : MutO (Only c) s.heap := mutO_only (cell_obj hi)
    have st1 : Step (Only c) ρ s ρ { s with heap := h' } := step_but (tk := s.toks) bt al
    obtain ⟨m, hn, hv⟩ := X.ns
    have lne : env.locals ≠ c := fun q => ns_cell (q ▸ hn) hi
    refine k _ (st1.weak fun a q => .inr ⟨n, h, by rw [q]; exact hc⟩) (S.but bt hnr mo1 (X.c0 n c h hc)) { X with
      known := fun y u hy => ?_
      ns := ⟨m, ?_, fun y u h1 h2 => ?_⟩
      cells := fun y hy => ?_ }
    · rw [look_setv] at hy
      by_cases q : y = n
      · exact .inr (.inl (q ▸ h))
      · rw [if_neg q] at hy; exact X.known y u hy
    · obtain ⟨o, es, ep, eo, rr⟩ := hn
      exact ⟨o, es, ep, bt _ o lne eo, rr⟩
    · rw [look_setv] at h2
      have q : ¬ y = n := by rintro rfl; rw [h] at h1; cases h1
      rw [if_neg q] at h2
      obtain ⟨val', h3, h4⟩ := hv y u h1 h2
      exact ⟨val', h3, st1.rv S mo1 h4⟩
    · obtain ⟨c', v₁, hc', hi1, hnr', hcv'⟩ := X.cells y hy
      by_cases q : y = n
      · subst q
        rw [hc] at hc'; cases hc'
        refine ⟨c, some val, hc, hi', hnr, fun u h2 => ?_⟩
        rw [look_setv, if_pos rfl] at h2
        cases h2
        exact ⟨val, rfl, st1.rv S mo1 r⟩
      · have cne : c' ≠ c := fun z => q (X.apart n y c h hc (z ▸ hc')).symm
        refine ⟨c', v₁, hc', ?_, hnr', fun u h2 => ?_⟩
        · obtain ⟨o, eo, hd⟩ := id hi1
          exact ⟨o, bt c' o cne eo, hd⟩
        · rw [look_setv, if_neg q] at h2
          obtain ⟨val', h3, h4⟩ := hcv' u h2
          exact ⟨val', h3, st1.rv S mo1 h4⟩
end
end HQ
end
section
set_option autoImplicit false
set_option linter.unusedSectionVars false
set_option maxRecDepth 10000
namespace HQ
open PySem PySem.W PySem.Calls PyProof.Rows PySem.Spec
variable [Gh]

theorem RV.handed {ρ : List Addr} {h : Heap} {v : Value} {x : V} (r : RV ρ h v x) : handedIn v = true := by
  cases r <;> first | rfl | assumption

theorem lookIn_ns {h : Heap} {a : Addr} {m : Str → Option Value} (n : h.Ns1 a m) : ∃ o, h.get? a = some o ∧ ∀ name, lookIn name o = some (m name) := by
  obtain ⟨⟨c, d, dt, sl⟩, es, ep, e, hd, hk, hu, hf⟩ := n
  dsimp only at hd; subst hd
  refine ⟨_, e, fun name => ?_⟩
  unfold lookIn
  dsimp only
  rw [← hf name]
  unfold nsFind findBy
  rw [← Array.find?_toList]
  cases q : es.toList.find? (fun x => x.key.isStr name) with
  | some en => rfl
  | none =>
    have : es.toList.any (·.refKey) = false := by
      rw [List.any_eq_false]
      intro e he
      obtain ⟨n, t, h⟩ := hk e (Array.mem_toList_iff.mp he)
      simp [DictEntry.refKey, h]
    dsimp only
    rw [this]; rfl

section
variable {K : Frag} {w : World} {h₀ : Heap} {ρ ρ' : List Addr} {s s' : Shared} {σ σ' : Sto} {x : V} {A : Around} {E : Value → Shared → Prop} {env : Env} {F : Fm}

theorem attrsAt_some {c : Nat} {k : Addr} {d : Nat} {l : List (Str × V)} (e : attrsAt σ c = some (k, d, l)) : (getF σ c) = some (.inst k d) ∧ (getF σ d) = some (.attrs l) := by
  unfold attrsAt at e
  split at e
  · rename_i h1
    split at e
    · rename_i h2; cases e; exact ⟨h1, h2⟩
    · cases e
  · cases e

/-- a made object and its dict -/
theorem inst_at (S : St w h₀ ρ σ s.heap) {a : Addr} {c d : Nat} {k : Addr} {l : List (Str × V)} (q : ρ[c]? = some a) (h1 : (getF σ c) = some (.inst k d)) (h2 : (getF σ d) = some (.attrs l)) :
    ∃ dx od m, ρ[d]? = some dx ∧ InstAt s.heap a (instObj k dx) k (some od) ∧ s.heap.get? dx = some od ∧ s.heap.Ns1 dx m ∧ RA ρ s.heap m l ∧ ∀ name, lookIn name od = some (m name) := by
  obtain ⟨dx, q2, ho⟩ := S.ref h1 q
  obtain ⟨m, hn, ra⟩ := S.ref h2 q2
  obtain ⟨od, hod, hl⟩ := lookIn_ns hn
  exact ⟨dx, od, m, q2, ⟨ho, rfl, rfl, hod⟩, hod, hn, ra, hl⟩

theorem get_attr (S : St w h₀ ρ σ s.heap) (B : Base K h₀) {Q : Value → Shared → Prop} {a : Addr} {c d : Nat} {k : Addr} {l : List (Str × V)} {name : Str} {y : V} {expr : Bool} (q : ρ[c]? = some a) (e : attrsAt σ c = some (k, d, l))
    (I : InsK K k) (hf : findIn K (.ref k) name = some Option.none) (hy : look name l = some y) (kk : Ret w h₀ ρ s σ y Q) : wpAny (model prog w) A (getAttr (.ref a) name expr) Q E s := by
  obtain ⟨h1, h2⟩ := attrsAt_some e
  obtain ⟨dx, od, m, q2, IA, hod, hn, ra, hl⟩ := inst_at S q h1 h2
  have r := ra name
  rw [hy] at r
  obtain ⟨val, hm, rv⟩ := r
  have B' := S.base' B
  refine get_value (v := val) B'.X IA I.get ?_ rv.handed (kk val ρ _ step_toks S rv)
  obtain ⟨cd, hc, hd⟩ := any_some I.hasDict
  unfold findObj
  rw [hc, hf]
  simp only [Option.bind_some]
  unfold W.ownOf
  rw [hd, if_pos rfl]
  dsimp only
  rw [hl name, hm]
  rfl

theorem meth_get (S : St w h₀ ρ σ s.heap) (B : Base K h₀) {Q : Value × List Value → Shared → Prop} {a : Addr} {c d : Nat} {k : Addr} {l : List (Str × V)} {name : Str} {f : Addr} {pl : Sem Bool} (q : ρ[c]? = some a) (h1 : (getF σ c) = some (.inst k d)) (h2 : (getF σ d) = some (.attrs l))
    (I : InsK K k) (hf : findIn K (.ref k) name = some (some (.ref f))) (ht : isFn K (.ref f) = true) (hy : look name l = Option.none) (kk : Q (.ref f, [.ref a]) s) : wpAny (model prog w) A (getMethod (.ref a) name pl) Q E s := by
  obtain ⟨dx, od, m, q2, IA, hod, hn, ra, hl⟩ := inst_at S q h1 h2
  have r := ra name
  rw [hy] at r
  have B' := S.base' B
  refine method_fn B'.X IA I.get I.hook hf (beq_iff_eq.mp ht) ?_ kk
  show (lookIn name od).map _ = _
  rw [hl name, r]; rfl

theorem setv_length {α : Type} (n : Str) (v : α) : ∀ l : List (Str × α), (setv n v l).length ≤ l.length + 1
  | [] => by simp [setv_nil]
  | (y, u) :: r => by
    rw [setv_cons]
    have := setv_length n v r
    split
    · simp
    · simp only [List.length_cons]; omega

theorem within_of {h : Heap} {m : Str → Option Value} {l : List (Str × V)} (ra : RA ρ h m l) : Within m (l.map (·.1)) := fun y hy => by
  have r := ra y
  cases q : look y l with
  | none => rw [q] at r; exact absurd r hy
  | some v =>
    clear r ra
    induction l with
    | nil => cases q
    | cons p t ih =>
      obtain ⟨z, u⟩ := p
      rw [look_cons] at q
      split at q
      · rename_i e; subst e; simp
      · exact List.mem_cons_of_mem _ (ih q)

theorem set_attr (S : St w h₀ ρ σ s.heap) (B : Base K h₀) {Q : Unit → Shared → Prop} {a : Addr} {c d : Nat} {k : Addr} {l : List (Str × V)} {name : Str} {v : Value} {y : V} (q : ρ[c]? = some a) (e : attrsAt σ c = some (k, d, l)) (hz : l.length ≤ 100)
    (I : InsK K k) (hf : findIn K (.ref k) name = some Option.none) (r : RV ρ s.heap v y) (kk : RetU w h₀ ρ s (setF σ d (.attrs (setv name y l))) Q) : wpAny (model prog w) A (setAttr (.ref a) name v) Q E s := by
  obtain ⟨h1, h2⟩ := attrsAt_some e
  obtain ⟨dx, od, m, q2, IA, hod, hn, ra, hl⟩ := inst_at S q h1 h2
  have B' := S.base' B
  have ht : takerIn K k name = some Option.none := by unfold takerIn; rw [hf]; rfl
  refine set_plain B'.X IA I.set (osa_open (s := { s with toks := s.toks + 1 }) B'.X IA I.over ht fun b => ?_)
  obtain ⟨cd, hc, hd'⟩ := any_some I.hasDict
  obtain ⟨hx, -, -, -⟩ := IA
  have X1 : K.In (Shared.heap { s with toks := s.toks + 1 }) := B'.X
  refine wpAny_bind (wpAny_pure (wpAny_bind (wpAny_bind (wpAny_loadPart hx (wpAny_bind ((looks_clsIn X1 hc).here ?_))))))
  rw [hd']
  refine wpAny_pure (a := some dx) (wpAny_bind (wpAny_pure (wpAny_bind (wpAny_nsSet1 hn fun h' hn' hs => ?_))))
  have mem := List.mem_of_getElem? q2
  have ra' : RA ρ h' (fun z => if z = name then some v else m z) (setv name y l) := fun z => by
    rw [look_setv]
    by_cases hz : z = name
    · rw [if_pos hz]; exact ⟨v, if_pos hz, r.upd S hs mem⟩
    · rw [if_neg hz]
      have := ra z
      cases hq : look z l with
      | none => rw [hq] at this; exact (if_neg hz).trans this
      | some u =>
        rw [hq] at this
        obtain ⟨val, h3, h4⟩ := this
        exact ⟨val, (if_neg hz).trans h3, h4.upd S hs mem⟩
  obtain ⟨o', es, ep, ho', hd2, hsz⟩ := hn'.count (within_of ra')
  have hlen := setv_length name y l
  rw [List.length_map] at hsz
  refine wpAny_bind (wpAny_lookBehind ho' (by rw [hd2]; exact pastItsLine_dict (by rw [sizeLine_eq]; omega)) ?_)
  exact wpAny_pure (kk ρ _ (step_upd hs mem ho') (S.upd hs q2 ⟨_, hn', ra'⟩))

theorem cls_attr (S : St w h₀ ρ σ s.heap) (B : Base K h₀) {Q : Value → Shared → Prop} {C : Addr} {mc val : Value} {name : Str} {expr : Bool} {y : V} (hr : readsIn K C mc = true) (e : findCls K (.ref C) mc name = some (.val val)) (hh : handedIn val = true) (rv : ∀ ρ h, RV ρ h val y)
    (kk : Ret w h₀ ρ s σ y Q) : wpAny (model prog w) A (getAttr (.ref C) name expr) Q E s :=
  cls_value (S.base' B).X hr e hh (kk val ρ _ step_toks S (rv _ _))

/-- the methods of lists, dicts, texts -/
theorem meth_list (S : St w h₀ ρ σ s.heap) {Q : Value × List Value → Shared → Prop} {a : Addr} {c : Nat} {l : List V} {pl : Sem Bool} {name : Str} {id : String} (slot : Slot "list" name id) (hty : typeOf (.builtin id) = pure (.type "method_descriptor")) (q : ρ[c]? = some a) (hc : (getF σ c) = some (.list l)) (k : Q (.builtin id, [.ref a]) s) :
    wpAny (model prog w) A (getMethod (.ref a) name pl) Q E s := by
  obtain ⟨vs, ⟨n, ho⟩, _⟩ := S.ref hc q
  exact getMethod_builtin ⟨_, ho, rfl⟩ PySem.F.plainAttrs_list slot hty (fun b e => by cases e; exact ⟨_, ho, rfl⟩) k
theorem meth_dict (S : St w h₀ ρ σ s.heap) {Q : Value × List Value → Shared → Prop} {a : Addr} {c : Nat} {l : List (Int × V)} {pl : Sem Bool} (q : ρ[c]? = some a) (hc : (getF σ c) = some (.dict l)) (k : Q (.builtin "dict.items", [.ref a]) s) :
    wpAny (model prog w) A (getMethod (.ref a) "items" pl) Q E s := by
  obtain ⟨kvs, hd, _⟩ := S.ref hc q
  have hd := Heap.DictAt.dictOf hd
  exact getMethod_builtin hd.typeIs PySem.F.plainAttrs_dict PySem.F.slot_dict_items PySem.F.type_dict_items hd.mapOf.noDict k
theorem meth_str {Q : Value × List Value → Shared → Prop} {x : Str} {t : Tok} {pl : Sem Bool} (k : Q (.builtin "str.join", [.str x t]) s) :
    wpAny (model prog w) A (getMethod (.str x t) "join" pl) Q E s :=
  getMethod_builtin (typeIs_str s x t) PySem.F.plainAttrs_str PySem.F.slot_str_join PySem.F.type_str_join (fun b e => by cases e) k

theorem items_sound (S : St w h₀ ρ σ s.heap) (hs : SysIn h₀) {Q : Value → Shared → Prop} {a : Addr} {c : Nat} {l : List (Int × V)} (q : ρ[c]? = some a) (hc : (getF σ c) = some (.dict l)) (k : Ret w h₀ ρ s σ (.its c) Q) :
    wpAny (model prog w) A (call (.builtin "dict.items") [.ref a]) Q E s := by
  obtain ⟨kvs, hd, _⟩ := S.ref hc q
  have hd := Heap.DictAt.dictOf hd
  refine call_meetsIn PySem.F.slot_dict_items hd.typeIs PySem.F.entry_dict_items (PySem.F.args_dict_items_1 _) (meets_dict_items (DK w) a (S.sys hs (List.mem_of_getElem? q))) ⟨⟨kvs, hd⟩, ?_⟩
  exact k.grown S (grow _ _) (.its ⟨_, Heap.get?_push_size _ rfl, rfl, rfl⟩ q) s.toks
end
end HQ
end
section
set_option autoImplicit false
set_option linter.unusedSectionVars false
set_option maxRecDepth 10000
namespace HQ
open PySem PySem.W PySem.Calls PyProof.Rows PySem.Spec
variable [Gh]

noncomputable def Room (c n : Nat) (A : Around) : Prop := A.handled = Option.none ∧ A.depth + 2 * (n + c) + 4 ≤ recursionLimit ∧ A.units + 10 * (n + c) + 200 ≤ cLine

inductive FlR (ρ : List Addr) (h : Heap) : Flow → Fl → Prop
  | next : FlR ρ h .next .next
  | brk : FlR ρ h .brk .brk
  | cont : FlR ρ h .cont .cont
  | ret {v : Value} {x : V} : RV ρ h v x → FlR ρ h (.ret v) (.ret x)

noncomputable def RetL (w : World) (h₀ : Heap) (ρ : List Addr) (s : Shared) (σ' : Sto) (l : List V) (Q : List Value → Shared → Prop) : Prop :=
  ∀ vs ρ' s', Step NoO ρ s ρ' s' → St w h₀ ρ' σ' s'.heap → RL ρ' s'.heap vs l → Q vs s'
noncomputable def RetF (w : World) (h₀ : Heap) (ρ : List Addr) (s : Shared) (env : Env) (sc : Scope) (vars : Vars) (σ' : Sto) (fl : Fl) (Q : Flow → Shared → Prop) : Prop :=
  ∀ f ρ' s', Step (Own env ⟨sc, vars⟩) ρ s ρ' s' → St w h₀ ρ' σ' s'.heap → FrOK h₀ ρ' s'.heap env ⟨sc, vars⟩ → FlR ρ' s'.heap f fl → Q f s'
/-- a call's end -/
noncomputable def RetC (w : World) (h₀ : Heap) (ρ : List Addr) (s : Shared) (σ' : Sto) (x : V) (R : Result → Shared → Prop) : Prop :=
  ∀ v ρ' s', Step NoO ρ s ρ' s' → St w h₀ ρ' σ' s'.heap → RV ρ' s'.heap v x → R (.ok (.ret v)) s'

structure SO (P : Prog) (K : Frag) (w : World) (h₀ : Heap) (c n : Nat) (R : Evs) : Prop where
  e : ∀ {A E env F ρ s σ ex x σ'}, R.e F ex σ = some (x, σ') → Room c n A → St w h₀ ρ σ s.heap → FrOK h₀ ρ s.heap env F → ∀ {Q}, Ret w h₀ ρ s σ' x Q → wpAny (model prog w) A (eval ex env) Q E s
  l : ∀ {A E env F ρ s σ es l σ'} (pos : Pos), R.l F es σ = some (l, σ') → Room c n A → St w h₀ ρ σ s.heap → FrOK h₀ ρ s.heap env F → ∀ {Q}, RetL w h₀ ρ s σ' l Q → wpAny (model prog w) A (spliced (backTo pos (starEach es env))) Q E s
  t : ∀ {A E env F ρ s σ ex b σ'}, R.t F ex σ = some (b, σ') → Room c n A → St w h₀ ρ σ s.heap → FrOK h₀ ρ s.heap env F → ∀ {Q}, RetB w h₀ ρ s σ' b Q → wpAny (model prog w) A (isTrue ex env (eval ex env)) Q E s
  s : ∀ {A E env F ρ s σ st fl vars σ'}, R.s F st σ = some (fl, vars, σ') → Room c n A → St w h₀ ρ σ s.heap → FrOK h₀ ρ s.heap env F → ∀ {Q}, RetF w h₀ ρ s env F.scope vars σ' fl Q → wpAny (model prog w) A (exec st env) Q E s
  ss : ∀ {A E env F ρ s σ st fl vars σ'}, R.ss F st σ = some (fl, vars, σ') → Room c n A → St w h₀ ρ σ s.heap → FrOK h₀ ρ s.heap env F → ∀ {Q}, RetF w h₀ ρ s env F.scope vars σ' fl Q → wpAny (model prog w) A (execs st env) Q E s
  c : ∀ {A ρ s σ d as x σ' vs}, R.c d as σ = some (x, σ') → FnK K d → Room c n A → St w h₀ ρ σ s.heap → RL ρ s.heap vs as → ∀ {Rr}, RetC w h₀ ρ s σ' x Rr → codeAny (model prog w) A (.call (.ref d.addr) ⟨vs, []⟩) Rr s

structure ΩOK (P : Prog) (K : Frag) (w : World) (h₀ : Heap) (c : Nat) (Ω : Str → List V → Sto → Option (V × Sto)) : Prop where
  run : ∀ {A : Around} {ρ : List Addr} {s : Shared} {σ : Sto} {f : Str} {as : List V} {x : V} {σ' : Sto} {vs : List Value} {d : FDef}, (P.fn f = some d ∨ ∃ t, P.ometh t f = some d) → Ω f as σ = some (x, σ') → Room c 0 A → St w h₀ ρ σ s.heap → RL ρ s.heap vs as →
    ∀ {R : Result → Shared → Prop}, RetC w h₀ ρ s σ' x R → codeAny (model prog w) A (.call (.ref d.addr) ⟨vs, []⟩) R s
  oattr : ∀ {A : Around} {E : Value → Shared → Prop} {ρ : List Addr} {s : Shared} {σ : Sto} {t : Nat} {a : Str} {y : V} {expr : Bool} {Q : Value → Shared → Prop}, P.oattr t a = some y → St w h₀ ρ σ s.heap → Ret w h₀ ρ s σ y Q → wpAny (model prog w) A (getAttr (Gh.g t) a expr) Q E s
  ometh : ∀ {t : Nat} {m : Str} {d : FDef}, P.ometh t m = some d → FnK K d ∧
    ∀ {A : Around} {E : Value → Shared → Prop} {ρ : List Addr} {s : Shared} {σ : Sto} {pl : Sem Bool} {Q : Value × List Value → Shared → Prop}, St w h₀ ρ σ s.heap → Q (.ref d.addr, [Gh.g t]) s → wpAny (model prog w) A (getMethod (Gh.g t) m pl) Q E s

section
variable {P : Prog} {K : Frag} {w : World} {h₀ : Heap} {c n : Nat} {Ω : Str → List V → Sto → Option (V × Sto)} {R : Evs}
variable {ρ ρ' : List Addr} {s s' : Shared} {σ σ' : Sto} {x : V} {A : Around} {E : Value → Shared → Prop} {env : Env} {F : Fm}

theorem Room.less {A : Around} (r : Room c (n + 1) A) : Room c n A := ⟨r.1, by have := r.2.1; omega, by have := r.2.2; omega⟩
theorem Room.in1 {A : Around} (r : Room c (n + 1) A) : Room c n A.in1 := ⟨r.1, by have := r.2.1; simp only [Around.in1_depth]; omega, by have := r.2.2; simp only [Around.in1_units]; omega⟩
theorem Room.zero {A : Around} : ∀ {n : Nat}, Room c n A → Room c 0 A
  | 0, r => r
  | _ + 1, r => Room.zero r.less

theorem Ret.after {ρ₁ : List Addr} {s₁ : Shared} {Q : Value → Shared → Prop} (k : Ret w h₀ ρ s σ' x Q) (st : Step NoO ρ s ρ₁ s₁) : Ret w h₀ ρ₁ s₁ σ' x Q := fun v ρ' s' st' S r => k v ρ' s' (st.trans st') S r
theorem RetB.after {ρ₁ : List Addr} {s₁ : Shared} {b : Bool} {Q : Bool → Shared → Prop} (k : RetB w h₀ ρ s σ' b Q) (st : Step NoO ρ s ρ₁ s₁) : RetB w h₀ ρ₁ s₁ σ' b Q := fun ρ' s' st' S => k ρ' s' (st.trans st') S
theorem RetU.after {ρ₁ : List Addr} {s₁ : Shared} {Q : Unit → Shared → Prop} (k : RetU w h₀ ρ s σ' Q) (st : Step NoO ρ s ρ₁ s₁) : RetU w h₀ ρ₁ s₁ σ' Q := fun ρ' s' st' S => k ρ' s' (st.trans st') S
theorem RetL.after {ρ₁ : List Addr} {s₁ : Shared} {l : List V} {Q : List Value → Shared → Prop} (k : RetL w h₀ ρ s σ' l Q) (st : Step NoO ρ s ρ₁ s₁) : RetL w h₀ ρ₁ s₁ σ' l Q := fun v ρ' s' st' S r => k v ρ' s' (st.trans st') S r
theorem RetC.after {ρ₁ : List Addr} {s₁ : Shared} {Q : Result → Shared → Prop} (k : RetC w h₀ ρ s σ' x Q) (st : Step NoO ρ s ρ₁ s₁) : RetC w h₀ ρ₁ s₁ σ' x Q := fun v ρ' s' st' S r => k v ρ' s' (st.trans st') S r
theorem RetC.call {Q : Value → Shared → Prop} (k : Ret w h₀ ρ s σ' x Q) : RetC w h₀ ρ s σ' x (fun r s' => match r with | .ok (.ret v) => Q v s' | .ok _ => False | .error e => E e s') := fun v ρ' s' st S r => k v ρ' s' st S r

/-- an expression, then the rest -/
theorem SO.then (H : SO P K w h₀ c n R) {ex : Expr} {y : V} {σ₁ : Sto} (e : R.e F ex σ = some (y, σ₁)) (r : Room c n A) (S : St w h₀ ρ σ s.heap) (X : FrOK h₀ ρ s.heap env F) {Q : Value → Shared → Prop}
    (k : ∀ v ρ₁ s₁, Step NoO ρ s ρ₁ s₁ → St w h₀ ρ₁ σ₁ s₁.heap → FrOK h₀ ρ₁ s₁.heap env F → RV ρ₁ s₁.heap v y → Q v s₁) : wpAny (model prog w) A (eval ex env) Q E s :=
  H.e e r S X fun v ρ₁ s₁ st S₁ rv => k v ρ₁ s₁ st S₁ (X.step0 S st) rv

theorem plainE_of {e : Expr} (h : plainE e = true) {rest : List Expr} : starEach (e :: rest) env = (false, eval e env) :: starEach rest env := by
  cases e <;> first | rfl | cases h

theorem evL_sound (H : SO P K w h₀ c n R) {es : List Expr} {l : List V} (pos : Pos) (e : evL R F es σ = some (l, σ')) (r : Room c (n + 1) A) (S : St w h₀ ρ σ s.heap) (X : FrOK h₀ ρ s.heap env F) {Q : List Value → Shared → Prop} (k : RetL w h₀ ρ s σ' l Q) :
    wpAny (model prog w) A (spliced (backTo pos (starEach es env))) Q E s := by
  cases es with
  | nil =>
    (unfold evL at e; try dsimp only at e); cases e
    exact spliced_nil (k [] ρ s Step.refl S .nil)
  | cons ex rest =>
    (unfold evL at e; try dsimp only at e)
    split at e
    · cases e
    rename_i hp
    simp only [Bool.not_eq_true', Bool.not_eq_false] at hp
    split at e
    · rename_i v σ₁ h1
      split at e
      · rename_i vs σ₂ h2
        cases e
        rw [plainE_of hp]
        refine spliced_cons (H.then h1 r.less S X fun u ρ₁ s₁ st₁ S₁ X₁ rv => ?_)
        refine H.l pos h2 r.less S₁ X₁ fun us ρ₂ s₂ st₂ S₂ rl => ?_
        exact k _ ρ₂ s₂ (st₁.trans st₂) S₂ (.cons (st₂.rv0 S₁ rv) rl)
      · cases e
    · cases e

/-- plain arguments -/
theorem args_any : ∀ es : List Expr, (∀ e ∈ es, plainE e = true) → ∀ pos : Pos, (backTo pos (starEach es env)).any (·.1) = false
  | [], _, _ => rfl
  | e :: r, h, pos => by
    rw [plainE_of (h e (List.mem_cons_self ..))]
    show (false || (backTo pos (starEach r env)).any (·.1)) = false
    rw [args_any r (fun x m => h x (List.mem_cons_of_mem _ m)) pos]; rfl
theorem args_each : ∀ es : List Expr, (∀ e ∈ es, plainE e = true) → ∀ pos : Pos, (backTo pos (starEach es env)).all (!·.1) = true
  | [], _, _ => rfl
  | e :: r, h, pos => by
    rw [plainE_of (h e (List.mem_cons_self ..))]
    show (!false && (backTo pos (starEach r env)).all (!·.1)) = true
    rw [args_each r (fun x m => h x (List.mem_cons_of_mem _ m)) pos]; rfl

theorem eval_args {f : Value} {es : List Expr} {pos : Pos} {Q : Args → Shared → Prop} (hp : es.all plainE = true) (h : wpAny (model prog w) A (spliced (backTo pos (starEach es env))) (fun vs s' => Q ⟨vs, []⟩ s') E s) :
    wpAny (model prog w) A (evalArgs f true (backTo pos (starEach es env)) []) Q E s := by
  cases es with
  | nil =>
    unfold evalArgs
    show wpAny _ A (spliced [] >>= _) Q E s
    refine wpAny_bind (wpAny_mono (show wpAny (model prog w) A (spliced []) _ E s from h) (fun vs s' h' => wpAny_bind (wpAny_pure ?_)) fun _ _ x => x)
    refine wpAny_holding ?_
    exact wpAny_bind (wpAny_pure (wpAny_bind (wpAny_pure (wpAny_pure h'))))
  | cons e r =>
    have h0 : plainE e = true := by
      rw [List.all_cons, Bool.and_eq_true] at hp; exact hp.1
    rw [plainE_of h0] at h ⊢
    exact evalArgs_plain h

theorem keep_machine {f : Value} (h : ∀ a, f ≠ .ref a) (hp : Heap) : ∃ k, (k = Keeper.frame ∨ k = Keeper.machine ∨ k = Keeper.boundFrame) ∧ Looks (model prog w) hp (keeperOf f) k := by
  refine ⟨.machine, .inr (.inl rfl), ?_⟩
  cases f <;> first | exact Looks.of_pure rfl | exact absurd rfl (h _)
theorem keep_ref {f : Value} {h : Heap} (X : K.In h) (e : keepIn K f = true) : ∃ k, (k = Keeper.frame ∨ k = Keeper.machine ∨ k = Keeper.boundFrame) ∧ Looks (model prog w) h (keeperOf f) k := by
  obtain ⟨k, h1, h2⟩ := looks_keep e X
  exact ⟨k, h1.elim .inl fun q => .inr (.inl q), h2⟩

/-- a call of a value with evaluated arguments -/
theorem call_args (H : SO P K w h₀ c n R) {es : List Expr} {l : List V} {σ₁ : Sto} {f : Value} {first : List Value} {pos pos' : Pos} (hp : es.all plainE = true) (e : R.l F es σ = some (l, σ₁)) (r : Room c n A) (S : St w h₀ ρ σ s.heap) (X : FrOK h₀ ρ s.heap env F) {Q : Value → Shared → Prop}
    (hk : ∀ h, (∀ b o, h₀.get? b = some o → h.get? b = some o) → ∃ k, (k = Keeper.frame ∨ k = Keeper.machine ∨ k = Keeper.boundFrame) ∧ Looks (model prog w) h (keeperOf f) k)
    (k : ∀ vs ρ₁ s₁, Step NoO ρ s ρ₁ s₁ → St w h₀ ρ₁ σ₁ s₁.heap → RL ρ₁ s₁.heap vs l → wpAny (model prog w) A (call f (first ++ vs)) Q E s₁) :
    wpAny (model prog w) A (callWith pos' f first (backTo pos (starEach es env)) []) Q E s := by
  refine callWith_of (P := fun h => ∀ b o, h₀.get? b = some o → h.get? b = some o) (by rw [args_any es (List.all_eq_true.mp hp)]; rfl) hk ?_
  refine eval_args hp (H.l pos e r S X fun vs ρ₁ s₁ st S₁ rl => ?_)
  exact ⟨S₁.base, k vs ρ₁ s₁ st S₁ rl⟩

/-- a call of a def -/
theorem call_fn (B : Base K h₀) (H : SO P K w h₀ c n R) {d : FDef} {as : List V} {vs : List Value} (e : R.c d as σ = some (x, σ')) (f : FnK K d) (r : Room c n A) (S : St w h₀ ρ σ s.heap) (rl : RL ρ s.heap vs as) {Q : Value → Shared → Prop} (k : Ret w h₀ ρ s σ' x Q) :
    wpAny (model prog w) A (call (.ref d.addr) vs) Q E s := wpAny_call (H.c e f r S rl (RetC.call k))

theorem tc_frames (args : Args) : (Code.builtin "type.__call__" args).frames = 0 := by kernel_rfl
theorem tc_guard (args : Args) : (Code.builtin "type.__call__" args).isGuard = false := by kernel_rfl
theorem tc_caller (args : Args) : (Code.builtin "type.__call__" args).isCaller = false := by kernel_rfl
theorem tc_weight (args : Args) : (Code.builtin "type.__call__" args).weight ≤ 1 := by
  unfold Code.weight
  rw [tc_frames, tc_guard, tc_caller]
  split <;> simp
theorem tc_units (args : Args) : (Code.builtin "type.__call__" args).cUnits = 1 := by
  show 1 + 3 * (Code.builtin "type.__call__" args).frames = 1
  rw [tc_frames]
theorem Room.under {A : Around} (r : Room c (n + 1) A) (args : Args) : Room c n (A.under (.builtin "type.__call__" args)) := by
  refine ⟨r.1, ?_, ?_⟩
  · have h1 := r.2.1
    have h2 := tc_weight args
    show A.depth + _ + _ + _ ≤ _
    omega
  · have h1 := r.2.2
    have h2 := tc_units args
    show A.units + _ + _ + _ ≤ _
    omega

/-- two new cells -/
theorem St.push2 {h h' : Heap} {a b : Addr} {y z : Cell} (S : St w h₀ ρ σ h) (k : ∀ b o, h.get? b = some o → h'.get? b = some o) (ha : h.get? a = Option.none) (hb : h.get? b = Option.none) (ne : a ≠ b) (za : h.objs.size ≤ a) (zb : h.objs.size ≤ b)
    (r1 : RC w (ρ ++ [a, b]) h' a y) (r2 : RC w (ρ ++ [a, b]) h' b z) : St w h₀ (ρ ++ [a, b]) (appF σ [y, z]) h' := by
  rw [appF_eq]
  have na : ∀ {a : Addr}, h.get? a = Option.none → a ∉ ρ := fun ha m => by obtain ⟨o, e, _⟩ := S.mutR _ m; rw [ha] at e; cases e
  have pre : ρ <+: ρ ++ [a, b] := List.prefix_append _ _
  refine ⟨by simp [S.len], List.nodup_append.mpr ⟨S.nd, by simp [ne], fun u hu v hv => ?_⟩, fun u m => ?_, fun u m => ?_, S.big, fun b o e => k _ _ (S.base b o e), fun c u v e q => ?_⟩
  · rintro rfl
    simp at hv
    rcases hv with rfl | rfl
    · exact na ha hu
    · exact na hb hu
  · rcases List.mem_append.mp m with m | m
    · exact S.lo u m
    · simp at m
      rcases m with rfl | rfl
      · exact S.fresh ha
      · exact S.fresh hb
  · rcases List.mem_append.mp m with m | m
    · exact S.nsys u m
    · simp at m
      rcases m with rfl | rfl
      · exact (S.big.up S.base).new za
      · exact (S.big.up S.base).new zb
  · by_cases hc : c < σ.length
    · rw [List.getElem?_append_left hc] at e
      rw [List.getElem?_append_left (S.len ▸ hc)] at q
      have r' := S.cell c u v e q
      obtain ⟨o, ho, _⟩ := r'.mutable
      refine r'.mono (O := NoO) pre (fun b o e _ _ => k b o e) S.mutR (mutO_no _) (fun d m => ?_) ((k _ _ ho).trans ho.symm)
      rcases List.mem_append.mp m with m | m
      · exact .inl m
      · simp at m
        rcases m with rfl | rfl
        · exact .inr ha
        · exact .inr hb
    · have e1 := (List.getElem?_eq_some_iff.mp e).1
      simp at e1
      rw [List.getElem?_append_right (Nat.le_of_not_lt hc)] at e
      rw [List.getElem?_append_right (by rw [S.len]; exact Nat.le_of_not_lt hc), S.len] at q
      have hcc : c - σ.length = 0 ∨ c - σ.length = 1 := by omega
      rcases hcc with hcc | hcc
      · rw [hcc] at e q
        simp at e q
        subst e; subst q; exact r1
      · rw [hcc] at e q
        simp at e q
        subst e; subst q; exact r2

/-- a new made object: its dict, itself, then its __init__ -/
theorem call_cls' (B : Base K h₀) (PO : ProgOK P K) (H : SO P K w h₀ c n R) {f : Str} {cd : CDef} (hf : P.cls f = some cd) {as : List V} {vs : List Value}
    (e : R.c cd.init (.ref (lenF σ) :: as) (appF σ [.inst cd.addr ((lenF σ) + 1), .attrs []]) = some (.none, σ')) (r : Room c (n + 1) A) (S : St w h₀ ρ σ s.heap) (rl : RL ρ s.heap vs as) {Q : Value → Shared → Prop} (k : Ret w h₀ ρ s σ' (.ref (lenF σ)) Q) :
    wpAny (model prog w) A (call (.ref cd.addr) vs) Q E s := by
  obtain ⟨-, fk, hm, hi, -⟩ := PO.cls f cd hf
  obtain ⟨hh, g, d, t, os⟩ := s
  have X : K.In hh := (S.base' B).X
  refine wpAny_call (make_core (makes_of X hm) (looks_findIn X hi) (fun self => bind_fn X self (beq_iff_eq.mp fk.fn)) (.inl rfl) ?_)
  have k1 : ∀ b o, hh.get? b = some o → (hh.push emptyDict).get? b = some o := fun b o e => Heap.get?_push_of_some _ e
  have k2 : ∀ b o, (hh.push emptyDict).get? b = some o → ((hh.push emptyDict).push (instObj cd.addr hh.objs.size)).get? b = some o := fun b o e => Heap.get?_push_of_some _ e
  have sz : (hh.push emptyDict).objs.size = hh.objs.size + 1 := Heap.size_push ..
  have hd : ((hh.push emptyDict).push (instObj cd.addr hh.objs.size)).get? hh.objs.size = some emptyDict := k2 _ _ (Heap.get?_push_size _ rfl)
  have hx : ((hh.push emptyDict).push (instObj cd.addr hh.objs.size)).get? (hh.objs.size + 1) = some (instObj cd.addr hh.objs.size) := by rw [← sz]; exact Heap.get?_push_size _ rfl
  have f1 : hh.get? (hh.objs.size + 1) = Option.none := by
    cases q : hh.get? (hh.objs.size + 1) with
    | none => rfl
    | some o => exact absurd (Heap.lt_size q) (Nat.not_lt.mpr (Nat.le_succ _))
  have f2 : hh.get? hh.objs.size = Option.none := fresh_none hh
  have ne : hh.objs.size + 1 ≠ hh.objs.size := Nat.succ_ne_self _
  have kk : ∀ b o, hh.get? b = some o → ((hh.push emptyDict).push (instObj cd.addr hh.objs.size)).get? b = some o := fun b o e => k2 b o (k1 b o e)
  have S2 := S.push2 (y := .inst cd.addr ((lenF σ) + 1)) (z := .attrs []) kk f1 f2 ne (Nat.le_succ _) (Nat.le_refl _) ⟨hh.objs.size, by rw [← S.lenF]; simp, hx⟩
    ⟨fun _ => Option.none, ⟨_, #[], 0, hd, rfl, fun _ he => by simp at he, by unfold UniqKeys; simp, fun name => rfl⟩, fun _ => rfl⟩
  have st : Step NoO ρ ⟨hh, g, d, t, os⟩ (ρ ++ [hh.objs.size + 1, hh.objs.size]) ⟨(hh.push emptyDict).push (instObj cd.addr hh.objs.size), g, d, t, os⟩ :=
    ⟨⟨_, t, rfl⟩, List.prefix_append _ _, fun b m => by
      rcases List.mem_append.mp m with m | m
      · exact .inl m
      · simp at m
        rcases m with rfl | rfl
        · exact .inr f1
        · exact .inr f2, fun b o e _ _ => kk b o e, fun b o e => ⟨o, kk b o e⟩⟩
  have hself : RV (ρ ++ [hh.objs.size + 1, hh.objs.size]) ((hh.push emptyDict).push (instObj cd.addr hh.objs.size)) (.ref (hh.objs.size + 1)) (.ref (lenF σ)) := .ref (by rw [← S.lenF]; simp)
  refine H.c (s := ⟨(hh.push emptyDict).push (instObj cd.addr hh.objs.size), g, d, t, os⟩) e fk (r.under _) S2 (.cons hself (st.rl0 S rl)) fun v ρ' s' st' S' rv => ?_
  cases rv with
  | none =>
    refine ⟨rfl, k _ ρ' s' (st.trans st') S' (.ref (prefix_get st'.pre ?_))⟩
    rw [← S.lenF]; simp
end
end HQ
end
section
set_option autoImplicit false
set_option linter.unusedSectionVars false
set_option linter.unusedVariables false
set_option linter.unusedSimpArgs false
set_option maxRecDepth 10000
namespace HQ
open PySem PySem.W PySem.Calls PyProof.Rows PySem.Spec
variable [Gh]

section
variable {P : Prog} {K : Frag} {w : World} {h₀ : Heap} {c n : Nat} {Ω : Str → List V → Sto → Option (V × Sto)} {R : Evs}
variable {ρ ρ' : List Addr} {s s' : Shared} {σ σ' : Sto} {x : V} {A : Around} {E : Value → Shared → Prop} {env : Env} {F : Fm}

theorem units_of (r : Room c n A) : A.units + 64 < cLine := by have := r.2.2; omega

theorem callG_sound (B : Base K h₀) (PO : ProgOK P K) (ΩO : ΩOK P K w h₀ c Ω) (H : SO P K w h₀ c n R) {g : Str} {p pos : Pos} {es : List Expr} {l : List V} {σ₁ : Sto} (hg : isGlob F g = true) (hp : es.all plainE = true) (e1 : R.l F es σ = some (l, σ₁)) (e : callG P Ω R g l σ₁ = some (x, σ'))
    (r : Room c (n + 1) A) (S : St w h₀ ρ σ s.heap) (X : FrOK h₀ ρ s.heap env F) {Q : Value → Shared → Prop} (k : Ret w h₀ ρ s σ' x Q) :
    wpAny (model prog w) A (eval (.Call (.Name g p) es [] pos) env) Q E s := by
  refine Call_ ?_
  unfold callG at e
  split at e
  · rename_i d hd
    obtain ⟨h1, fk⟩ := PO.fn g d hd
    refine load_glob X S B hg h1 ?_
    refine call_args H hp e1 r.less S X (fun h kk => keep_ref (B.X.keeps kk) fk.keep) fun vs ρ₁ s₁ st S₁ rl => ?_
    split at e
    · rename_i r' hΩ
      cases e
      exact wpAny_call (ΩO.run (.inl hd) hΩ r.zero S₁ rl (RetC.call (k.after st)))
    · exact call_fn B H e fk r.less S₁ rl (k.after st)
  · rename_i hfn
    skip
    · split at e
      · rename_i cd hc
        dsimp only at e
        split at e
        · rename_i σ₂ h2
          cases e
          obtain ⟨h1, -, -, -, hk⟩ := PO.cls g cd hc
          refine load_glob X S B hg h1 ?_
          refine call_args H hp e1 r.less S X (fun h kk => keep_ref (B.X.keeps kk) hk) fun vs ρ₁ s₁ st S₁ rl => ?_
          exact call_cls' B PO H hc h2 r S₁ rl (k.after st)
        · cases e
      · rename_i hcl
        rw [Option.map_eq_some_iff] at e
        obtain ⟨y, hy, e⟩ := e
        cases e
        have fv : ∃ fv, bval g = some fv ∧ ∀ a, fv ≠ .ref a := by
          unfold builtinV at hy
          unfold bval
          split at hy
          · rw [if_pos (by assumption)]; exact ⟨_, rfl, fun a q => by cases q⟩
          rw [if_neg (by assumption)]
          split at hy
          · rw [if_pos (by assumption)]; exact ⟨_, rfl, fun a q => by cases q⟩
          rw [if_neg (by assumption)]
          split at hy
          · rw [if_pos (by assumption)]; exact ⟨_, rfl, fun a q => by cases q⟩
          rw [if_neg (by assumption)]
          split at hy
          · rw [if_pos (by assumption)]; exact ⟨_, rfl, fun a q => by cases q⟩
          rw [if_neg (by assumption)]
          split at hy
          · rw [if_pos (by assumption)]; exact ⟨_, rfl, fun a q => by cases q⟩
          rw [if_neg (by assumption)]
          split at hy
          · rw [if_pos (by assumption)]; exact ⟨_, rfl, fun a q => by cases q⟩
          rw [if_neg (by assumption)]
          split at hy
          · rw [if_pos (by assumption)]; exact ⟨_, rfl, fun a q => by cases q⟩
          rw [if_neg (by assumption)]
          split at hy
          · rw [if_pos (by assumption)]; exact ⟨_, rfl, fun a q => by cases q⟩
          cases hy
        obtain ⟨fv, hb, hnr⟩ := fv
        obtain ⟨h1, h2, h3⟩ := PO.bi g fv hfn hcl hb
        refine load_boot X S B hg h1 h2 h3 ?_
        refine call_args H hp e1 r.less S X (fun h _ => keep_machine hnr h) fun vs ρ₁ s₁ st S₁ rl => ?_
        obtain ⟨fv', hb', q⟩ := builtin_sound (A := A) (E := E) S₁ r.1 rl hy (k.after st)
        rw [hb] at hb'; cases hb'
        exact q

theorem recv_base {o : Expr} {m : Str} (h : recvOk o = true) : attributeBase o m env (eval o env) = eval o env := by
  cases o <;> first | rfl | cases h

theorem method_call {o : Expr} {m : Str} {apos pos : Pos} {es : List Expr} (hb : recvOk o = true) (hp : es.all plainE = true) (hn : es.length < 30) (hl : (apos.endLine == pos.line) = true) {Q : Value → Shared → Prop}
    (h : wpAny (model prog w) A (eval o env) (fun ov s₁ => ∀ pl, wpAny (model prog w) A (getMethod ov m pl) (fun fx s₂ => wpAny (model prog w) A (callWith pos fx.1 fx.2 (backTo pos (starEach es env)) []) Q E s₂) E s₁) E s) :
    wpAny (model prog w) A (eval (.Call (.Attribute o m apos) es [] pos) env) Q E s := by
  have e : eval (.Call (.Attribute o m apos) es [] pos) env = (do
      let ov ← attributeBase o m env (eval o env)
      standAt apos.atName
      methodCall o m apos pos env ov (es.length + 0) (backTo pos (starEach es env)) []) := rfl
  rw [e, recv_base hb]
  refine wpAny_bind (wpAny_mono h (fun ov s₁ h₁ => wpAny_bind (wpAny_standAt ?_)) fun _ _ x => x)
  unfold methodCall
  have hf : methodCallForm (es.length + 0) (backTo pos (starEach es env)) [] = true := by
    unfold methodCallForm
    rw [args_each es (List.all_eq_true.mp hp)]
    simp [hn]
  rw [hf]
  refine wpAny_bind (wpAny_holding ?_)
  unfold calleeOf
  rw [if_pos rfl]
  refine wpAny_mono (h₁ _) (fun fx s₂ h₂ => ?_) fun _ _ x => x
  refine wpAny_bind ?_
  unfold methodCallPos
  rw [hl]
  simp only [Bool.not_true, Bool.false_or, if_true]
  exact wpAny_pure h₂

theorem all_plain_nil : ([] : List Expr).all plainE = true := rfl

theorem meth_sound (B : Base K h₀) (PO : ProgOK P K) (ΩO : ΩOK P K w h₀ c Ω) (H : SO P K w h₀ c n R) {o : Expr} {m : Str} {apos pos : Pos} {es : List Expr}
    (e : evE P Ω R F (.Call (.Attribute o m apos) es [] pos) σ = some (x, σ')) (r : Room c (n + 1) A) (S : St w h₀ ρ σ s.heap) (X : FrOK h₀ ρ s.heap env F) {Q : Value → Shared → Prop} (k : Ret w h₀ ρ s σ' x Q) :
    wpAny (model prog w) A (eval (.Call (.Attribute o m apos) es [] pos) env) Q E s := by
  (unfold evE cE at e; try dsimp only at e)
  split at e
  · cases e
  rename_i hg
  simp only [Bool.not_eq_true', Bool.not_eq_false, Bool.and_eq_true, decide_eq_true_eq] at hg
  obtain ⟨⟨⟨hl, hn⟩, hr⟩, hp⟩ := hg
  refine method_call hr hp hn hl ?_
  split at e
  · rename_i ov σ₁ h1
    refine H.then h1 r.less S X fun v ρ₁ s₁ st₁ S₁ X₁ rv => ?_
    intro pl
    split at e
    · rename_i t
      split at e
      · rename_i hc
        obtain ⟨rfl, rfl⟩ := hc
        split at e
        · rename_i a σ₂ h2
          obtain ⟨tk, rfl⟩ := str_of rv
          refine meth_str ?_
          rw [Option.bind_eq_some_iff] at e
          obtain ⟨ll, e1, e⟩ := e
          rw [Option.bind_eq_some_iff] at e
          obtain ⟨ls, e2, e⟩ := e
          split at e
          · cases e
            refine call_args H hp h2 r.less S₁ X₁ (fun h _ => keep_machine (fun a q => by cases q) h) fun vs ρ₂ s₂ st₂ S₂ rl => ?_
            obtain ⟨u, rfl, ru⟩ := rl.one
            exact join_sound S₂ ru e1 e2 (by assumption) (k.after (st₁.trans st₂))
          · cases e
        · cases e
      · cases e
    · rename_i ci
      obtain ⟨a, rfl, q⟩ := ref_of rv
      split at e
      · rename_i l0 hc
        split at e
        · rename_i hm
          rw [PySem.W.Fast.sEq_iff] at hm; subst hm
          split at e
          · rename_i y σ₂ h2
            split at e
            · rename_i l h3
              split at e
              · cases e
                refine meth_list S₁ PySem.F.slot_list_append PySem.F.type_list_append q hc ?_
                refine call_args H hp h2 r.less S₁ X₁ (fun h _ => keep_machine (fun a q => by cases q) h) fun vs ρ₂ s₂ st₂ S₂ rl => ?_
                obtain ⟨u, rfl, ru⟩ := rl.one
                exact append_sound S₂ (prefix_get st₂.pre q) (listAt_some h3) (by assumption) ru (k.after (st₁.trans st₂))
              · cases e
            · cases e
          · cases e
        · split at e
          · rename_i hm
            rw [PySem.W.Fast.sEq_iff] at hm; subst hm
            split at e
            · rename_i σ₂ h2
              split at e
              · rename_i l h3
                split at e
                · split at e
                  · rename_i y hy
                    cases e
                    refine meth_list S₁ PySem.F.slot_list_pop PySem.F.type_list_pop q hc ?_
                    refine call_args H hp h2 r.less S₁ X₁ (fun h _ => keep_machine (fun a q => by cases q) h) fun vs ρ₂ s₂ st₂ S₂ rl => ?_
                    cases rl
                    exact pop_sound S₂ (prefix_get st₂.pre q) (listAt_some h3) (by assumption) hy (k.after (st₁.trans st₂))
                  · cases e
                · cases e
              · cases e
            · cases e
          · cases e
      · rename_i l0 hc
        split at e
        · rename_i hm
          rw [PySem.W.Fast.sEq_iff] at hm; subst hm
          split at e
          · rename_i σ₂ h2
            split at e
            · rename_i l h3
              cases e
              refine meth_dict S₁ q hc ?_
              refine call_args H hp h2 r.less S₁ X₁ (fun h _ => keep_machine (fun a q => by cases q) h) fun vs ρ₂ s₂ st₂ S₂ rl => ?_
              cases rl
              exact items_sound S₂ B.sys (prefix_get st₂.pre q) (dictAt_some h3) (k.after (st₁.trans st₂))
            · cases e
          · cases e
        · cases e
      · rename_i kC d hc
        split at e
        · rename_i l hd
          split at e
          · cases e
          rename_i hlk
          split at e
          · rename_i fd hm
            obtain ⟨fk, I, hf⟩ := PO.meth kC m fd hm
            split at e
            · rename_i vs' σ₂ h2
              refine meth_get S₁ B q hc hd I hf fk.fn (by simpa using hlk) ?_
              refine call_args H hp h2 r.less S₁ X₁ (fun h kk => keep_ref (B.X.keeps kk) fk.keep) fun vs ρ₂ s₂ st₂ S₂ rl => ?_
              exact call_fn B H e fk r.less S₂ (.cons (.ref (prefix_get st₂.pre q)) rl) (k.after (st₁.trans st₂))
            · cases e
          · cases e
        · cases e
      · cases e
    · rename_i t
      cases rv with
      | any _ hv hh =>
      subst hv
      split at e
      · rename_i fd hm
        obtain ⟨fk, hget⟩ := ΩO.ometh hm
        split at e
        · rename_i vs' σ₂ h2
          refine hget S₁ ?_
          refine call_args H hp h2 r.less S₁ X₁ (fun h kk => keep_ref (B.X.keeps kk) fk.keep) fun vs ρ₂ s₂ st₂ S₂ rl => ?_
          have rl2 : RL ρ₂ s₂.heap ([Gh.g t] ++ vs) (V.any t :: vs') := .cons (.any t rfl hh) rl
          split at e
          · rename_i r' hΩ
            cases e
            exact wpAny_call (ΩO.run (.inr ⟨t, hm⟩) hΩ r.zero S₂ rl2 (RetC.call (k.after (st₁.trans st₂))))
          · exact call_fn B H e fk r.less S₂ rl2 (k.after (st₁.trans st₂))
        · cases e
      · cases e
    · cases e
  · cases e
end
end HQ
end
section
set_option autoImplicit false
set_option linter.unusedSectionVars false
set_option linter.unusedVariables false
set_option linter.unusedSimpArgs false
set_option maxRecDepth 10000
namespace HQ
open PySem PySem.W PySem.Calls PyProof.Rows PySem.Spec
variable [Gh]

section
variable {P : Prog} {K : Frag} {w : World} {h₀ : Heap} {c n : Nat} {Ω : Str → List V → Sto → Option (V × Sto)} {R : Evs}
variable {ρ ρ' : List Addr} {s s' : Shared} {σ σ' : Sto} {x : V} {A : Around} {E : Value → Shared → Prop} {env : Env} {F : Fm}

theorem backTo_nil (pos : Pos) : backTo pos (starEach [] env) = [] := rfl

theorem const_sound {cc : Const} {k0 : Nat} {pos : Pos} (e : evE P Ω R F (.Constant cc k0 pos) σ = some (x, σ')) (S : St w h₀ ρ σ s.heap) {Q : Value → Shared → Prop} (k : Ret w h₀ ρ s σ' x Q) : wpAny (model prog w) A (eval (.Constant cc k0 pos) env) Q E s := by
  (unfold evE cE at e; try dsimp only at e)
  split at e
  · cases e
    exact fun Γ p hΓ => k.flat S (fun _ => .int _ _) _
  · rename_i t
    cases e
    refine wpAny_Constant_str (k _ ρ _ step_toks S ?_)
    have := RV.str (ρ := ρ) (h := s.heap) t.cps.toList s.toks
    simpa using this
  · cases e

theorem name_sound {id : Str} {pos : Pos} (e : evE P Ω R F (.Name id pos) σ = some (x, σ')) (S : St w h₀ ρ σ s.heap) (X : FrOK h₀ ρ s.heap env F) {Q : Value → Shared → Prop} (k : Ret w h₀ ρ s σ' x Q) : wpAny (model prog w) A (eval (.Name id pos) env) Q E s := by
  (unfold evE cE at e; try dsimp only at e)
  rw [Option.map_eq_some_iff] at e
  obtain ⟨v, h1, e⟩ := e
  cases e
  exact load_var X h1 fun val rv => k.here S rv

theorem tuple_sound (H : SO P K w h₀ c n R) {es : List Expr} {k0 : Nat} {pos : Pos} (e : evE P Ω R F (.Tuple es k0 pos) σ = some (x, σ')) (r : Room c (n + 1) A) (S : St w h₀ ρ σ s.heap) (X : FrOK h₀ ρ s.heap env F) {Q : Value → Shared → Prop} (k : Ret w h₀ ρ s σ' x Q) :
    wpAny (model prog w) A (eval (.Tuple es k0 pos) env) Q E s := by
  (unfold evE cE at e; try dsimp only at e)
  split at e
  · rename_i l σ₁ h1
    split at e
    · cases e
      refine wpAny_Tuple_spliced (H.l pos h1 r.less S X fun vs ρ₁ s₁ st S₁ rl => ?_)
      have := rl.length
      exact ⟨by rw [sizeLine_eq]; omega, Ret.newTup S₁ rl (k.after st) s₁.toks⟩
    · cases e
  · cases e

theorem list_sound (H : SO P K w h₀ c n R) {es : List Expr} {pos : Pos} (e : evE P Ω R F (.List es pos) σ = some (x, σ')) (r : Room c (n + 1) A) (S : St w h₀ ρ σ s.heap) (X : FrOK h₀ ρ s.heap env F) {Q : Value → Shared → Prop} (k : Ret w h₀ ρ s σ' x Q) :
    wpAny (model prog w) A (eval (.List es pos) env) Q E s := by
  (unfold evE cE at e; try dsimp only at e)
  split at e
  · rename_i l σ₁ h1
    split at e
    · cases e
      refine wpAny_List_spliced (H.l pos h1 r.less S X fun vs ρ₁ s₁ st S₁ rl => ?_)
      have := rl.length
      exact ⟨by rw [sizeLine_eq]; omega, Ret.newList S₁ rl (k.after st) s₁.toks⟩
    · cases e
  · cases e

/-- a new dict as a new cell -/
theorem new_dict (S : St w h₀ ρ σ s.heap) : St w h₀ (ρ ++ [s.heap.objs.size]) (appF σ [.dict []]) (s.heap.push { cls := .type "dict", data := .dict #[] }) ∧
    Step NoO ρ s (ρ ++ [s.heap.objs.size]) { s with heap := s.heap.push { cls := .type "dict", data := .dict #[] } } := by
  have g := grow s.heap { cls := .type "dict", data := .dict #[] }
  have f := fresh_none s.heap
  exact ⟨S.push g f (Nat.le_refl _) ⟨[], ⟨_, #[], Heap.get?_push_size _ rfl, ⟨rfl, rfl, rfl⟩, rfl, fun _ he => by simp at he, Pairs.nil, List.nodup_nil⟩, .nil⟩, step_push (tk := s.toks) g f⟩

theorem putD_some {m : Nat} {kv : Int} {y : V} (e : putD m kv y σ = some σ') : ∃ l, (getF σ m) = some (.dict l) ∧ l.length ≤ 1000 ∧ σ' = setF σ m (.dict (dPut kv y l)) := by
  unfold putD at e
  split at e
  · rename_i l h
    split at e
    · cases e; exact ⟨l, dictAt_some h, by assumption, rfl⟩
    · cases e
  · cases e
theorem putL_some {m : Nat} {y : V} (e : putL m y σ = some σ') : ∃ l, (getF σ m) = some (.list l) ∧ l.length ≤ 1000 ∧ σ' = setF σ m (.list (l ++ [y])) := by
  unfold putL at e
  split at e
  · rename_i l h
    split at e
    · cases e; exact ⟨l, listAt_some h, by assumption, rfl⟩
    · cases e
  · cases e

theorem dict_sound (H : SO P K w h₀ c n R) {ks : List (Option Expr)} {vs : List Expr} {pos : Pos} (e : evE P Ω R F (.Dict ks vs pos) σ = some (x, σ')) (r : Room c (n + 1) A) (S : St w h₀ ρ σ s.heap) (X : FrOK h₀ ρ s.heap env F) {Q : Value → Shared → Prop} (k : Ret w h₀ ρ s σ' x Q) :
    wpAny (model prog w) A (eval (.Dict ks vs pos) env) Q E s := by
  obtain ⟨S1, st1⟩ := new_dict S
  have X1 := X.step0 S st1
  (unfold evE cE at e; try dsimp only at e)
  split at e
  · cases e
    refine wpAny_Dict_empty (k _ _ _ st1 S1 (.ref ?_))
    rw [← S.lenF]; simp
  · rename_i ke ve
    split at e
    · rename_i kv σ₁ h1
      split at e
      · rename_i vv σ₂ h2
        split at e
        · rename_i σ₃ h3
          cases e
          refine wpAny_Dict_any rfl rfl (by simp) (by simp) ?_
          show wpAny _ A (do let kv ← eval ke env; let vv ← holding [kv] (do let x ← eval ve env; standAt pos; pure x); pure ((kv, vv) :: (← holding [kv, vv] (evalPairs [])))) _ E _
          refine wpAny_bind (H.then h1 r.less S1 X1 fun u ρ₁ s₁ st₁ S₁ X₁ ru => ?_)
          refine wpAny_bind (wpAny_holding (wpAny_bind (H.then h2 r.less S₁ X₁ fun u' ρ₂ s₂ st₂ S₂ X₂ ru' => wpAny_bind (wpAny_standAt (wpAny_pure ?_)))))
          refine wpAny_bind (wpAny_holding (wpAny_pure (wpAny_pure ?_)))
          obtain ⟨t, rfl⟩ := int_of ru
          obtain ⟨l, h4, hz, rfl⟩ := putD_some h3
          have q : ρ₂[(lenF σ)]? = some s.heap.objs.size := prefix_get st₂.pre (prefix_get st₁.pre (by rw [← S.lenF]; simp))
          show wpAny _ A (forIn [(Value.int kv t, u')] PUnit.unit fun (x : Value × Value) (_ : PUnit) => (do dictSet _ x.1 x.2; pure (ForInStep.yield PUnit.unit) : Sem (ForInStep PUnit))) _ E _
          rw [List.forIn_cons]
          refine wpAny_bind (wpAny_bind (dictPut_sound S₂ q h4 hz ru' fun ρ₃ s₃ st₃ S₃ => wpAny_pure ?_))
          dsimp only
          rw [List.forIn_nil]
          refine wpAny_pure ?_
          exact k _ _ _ (((st1.trans st₁).trans st₂).trans st₃) S₃ (.ref (prefix_get st₃.pre q))
        · cases e
      · cases e
    · cases e
  · cases e

theorem binop_sound (H : SO P K w h₀ c n R) {l rr : Expr} {op : Operator} {pos : Pos} (e : evE P Ω R F (.BinOp l op rr pos) σ = some (x, σ')) (r : Room c (n + 1) A) (S : St w h₀ ρ σ s.heap) (X : FrOK h₀ ρ s.heap env F) {Q : Value → Shared → Prop} (k : Ret w h₀ ρ s σ' x Q) :
    wpAny (model prog w) A (eval (.BinOp l op rr pos) env) Q E s := by
  (unfold evE cE at e; try dsimp only at e)
  split at e
  · rename_i a σ₁ h1
    split at e
    · rename_i b σ₂ h2
      refine wpAny_BinOp (H.then h1 r.less S X fun u ρ₁ s₁ st₁ S₁ X₁ ru => H.then h2 r.less S₁ X₁ fun u' ρ₂ s₂ st₂ S₂ X₂ ru' => ?_)
      exact bin_sound S₂ (st₂.rv0 S₁ ru) ru' e (k.after (st₁.trans st₂))
    · cases e
  · cases e

theorem unary_sound (H : SO P K w h₀ c n R) {op : UnaryOp} {o : Expr} {pos : Pos} (e : evE P Ω R F (.UnaryOp op o pos) σ = some (x, σ')) (r : Room c (n + 1) A) (S : St w h₀ ρ σ s.heap) (X : FrOK h₀ ρ s.heap env F) {Q : Value → Shared → Prop} (k : Ret w h₀ ρ s σ' x Q) :
    wpAny (model prog w) A (eval (.UnaryOp op o pos) env) Q E s := by
  (unfold evE cE at e; try dsimp only at e)
  split at e
  · split at e
    · rename_i i σ₁ h1
      cases e
      refine wpAny_UnaryOp (H.then h1 r.less S X fun u ρ₁ s₁ st₁ S₁ X₁ ru => ?_)
      obtain ⟨t, rfl⟩ := int_of ru
      exact PySem.P.neg_int ((k.after st₁).flat S₁ (fun _ => .int _ _) _)
    · cases e
  · cases e

theorem compare_sound (B : Base K h₀) (H : SO P K w h₀ c n R) {l : Expr} {ops : List CmpOp} {rs : List Expr} {pos : Pos} (e : evE P Ω R F (.Compare l ops rs pos) σ = some (x, σ')) (r : Room c (n + 1) A) (S : St w h₀ ρ σ s.heap) (X : FrOK h₀ ρ s.heap env F) {Q : Value → Shared → Prop} (k : Ret w h₀ ρ s σ' x Q) :
    wpAny (model prog w) A (eval (.Compare l ops rs pos) env) Q E s := by
  (unfold evE cE at e; try dsimp only at e)
  split at e
  · rename_i op rr
    split at e
    · cases e
    rename_i hb
    split at e
    · rename_i a σ₁ h1
      split at e
      · rename_i b σ₂ h2
        rw [Option.map_eq_some_iff] at e
        obtain ⟨q, hq, e⟩ := e
        cases e
        refine wpAny_Compare1 (H.then h1 r.less S X fun u ρ₁ s₁ st₁ S₁ X₁ ru => H.then h2 r.less S₁ X₁ fun u' ρ₂ s₂ st₂ S₂ X₂ ru' => ?_) (by simpa using hb)
        exact cmp_sound S₂ B.sys (st₂.rv0 S₁ ru) ru' hq (units_of r) (k.after (st₁.trans st₂))
      · cases e
    · cases e
  · cases e

theorem bool_sound (H : SO P K w h₀ c n R) {op : BoolOp} {vs : List Expr} {pos : Pos} (e : evE P Ω R F (.BoolOp op vs pos) σ = some (x, σ')) (r : Room c (n + 1) A) (S : St w h₀ ρ σ s.heap) (X : FrOK h₀ ρ s.heap env F) {Q : Value → Shared → Prop} (k : Ret w h₀ ρ s σ' x Q) :
    wpAny (model prog w) A (eval (.BoolOp op vs pos) env) Q E s := by
  (unfold evE cE at e; try dsimp only at e)
  split at e
  · rename_i a b
    split at e
    · rename_i σ₁ h1
      cases e
      refine wpAny_Or2 (H.then h1 r.less S X fun u ρ₁ s₁ st₁ S₁ X₁ ru => ?_)
      cases bool_of ru
      exact wpAny_truthy_bool ((k.after st₁).here S₁ ru)
    · rename_i σ₁ h1
      refine wpAny_Or2 (H.then h1 r.less S X fun u ρ₁ s₁ st₁ S₁ X₁ ru => ?_)
      cases bool_of ru
      exact wpAny_truthy_bool (H.e e r.less S₁ X₁ (k.after st₁))
    · cases e
  · cases e

/-- a part of a slice -/
theorem part_sound (H : SO P K w h₀ c n R) {o : Option Expr} {i : Option Int} (e : optInt R F σ o = some (i, σ')) (r : Room c n A) (S : St w h₀ ρ σ s.heap) (X : FrOK h₀ ρ s.heap env F) {Q : Value → Shared → Prop}
    (k : ∀ v ρ' s', Step NoO ρ s ρ' s' → St w h₀ ρ' σ' s'.heap → FrOK h₀ ρ' s'.heap env F → IsPart v i → Q v s') : wpAny (model prog w) A (evalPart o env) Q E s := by
  cases o with
  | none => (unfold optInt at e; try dsimp only at e); cases e; exact wpAny_pure (k _ _ _ Step.refl S X .none)
  | some ex =>
    (unfold optInt at e; try dsimp only at e)
    split at e
    · rename_i j σ₁ h1
      cases e
      refine H.then h1 r S X fun u ρ₁ s₁ st₁ S₁ X₁ ru => ?_
      obtain ⟨t, rfl⟩ := int_of ru
      exact k _ _ _ st₁ S₁ X₁ (.int _ _)
    · cases e

theorem subscript_sound (H : SO P K w h₀ c n R) {o sl : Expr} {pos : Pos} (e : evE P Ω R F (.Subscript o sl pos) σ = some (x, σ')) (r : Room c (n + 1) A) (S : St w h₀ ρ σ s.heap) (X : FrOK h₀ ρ s.heap env F) {Q : Value → Shared → Prop} (k : Ret w h₀ ρ s σ' x Q) :
    wpAny (model prog w) A (eval (.Subscript o sl pos) env) Q E s := by
  (unfold evE cE at e; try dsimp only at e)
  split at e
  · rename_i lo hi stp p
    dsimp only at e
    split at e
    · rename_i a σ₁ h1
      split at e
      · rename_i l σ₂ h2
        split at e
        · rename_i u σ₃ h3
          split at e
          · rename_i t σ₄ h4
            rw [Option.map_eq_some_iff] at e
            obtain ⟨y, hy, e⟩ := e
            cases e
            refine Subscript_ (H.then h1 r.less S X fun v ρ₁ s₁ st₁ S₁ X₁ rv => wpAny_Slice (part_sound H h2 r.less S₁ X₁ fun vl ρ₂ s₂ st₂ S₂ X₂ pl => part_sound H h3 r.less S₂ X₂ fun vu ρ₃ s₃ st₃ S₃ X₃ pu => part_sound H h4 r.less S₃ X₃ fun vs ρ₄ s₄ st₄ S₄ X₄ ps => ?_))
            have g := grow s₄.heap { cls := .type "slice", data := .fields #[vl, vu, vs] }
            have st5 : Step NoO ρ₄ s₄ ρ₄ { s₄ with heap := s₄.heap.push { cls := .type "slice", data := .fields #[vl, vu, vs] } } := step_ext' g
            have S5 := S₄.ext g
            refine slice_sound (s := { s₄ with heap := s₄.heap.push { cls := .type "slice", data := .fields #[vl, vu, vs] } }) S5 (st5.rv0 S₄ (st₄.rv0 S₃ (st₃.rv0 S₂ (st₂.rv0 S₁ rv)))) (Heap.IsSliceOf.new _ _ _ _) pl pu ps hy (k.after ((((st₁.trans st₂).trans st₃).trans st₄).trans st5))
          · cases e
        · cases e
      · cases e
    · cases e
  dsimp only at e
  · split at e
    · rename_i a σ₁ h1
      split at e
      · rename_i b σ₂ h2
        rw [Option.map_eq_some_iff] at e
        obtain ⟨y, hy, e⟩ := e
        cases e
        refine Subscript_ (H.then h1 r.less S X fun u ρ₁ s₁ st₁ S₁ X₁ ru => H.then h2 r.less S₁ X₁ fun u' ρ₂ s₂ st₂ S₂ X₂ ru' => ?_)
        exact index_sound S₂ (st₂.rv0 S₁ ru) ru' hy (k.after (st₁.trans st₂))
      · cases e
    · cases e

theorem attr_sound (B : Base K h₀) (PO : ProgOK P K) (ΩO : ΩOK P K w h₀ c Ω) {o : Expr} {a : Str} {pos : Pos} (e : evE P Ω R F (.Attribute o a pos) σ = some (x, σ')) (r : Room c (n + 1) A) (S : St w h₀ ρ σ s.heap) (X : FrOK h₀ ρ s.heap env F) {Q : Value → Shared → Prop} (k : Ret w h₀ ρ s σ' x Q) :
    wpAny (model prog w) A (eval (.Attribute o a pos) env) Q E s := by
  (unfold evE cE at e; try dsimp only at e)
  split at e
  · rename_i id p
    dsimp only at e
    split at e
    · rename_i i hl
      split at e
      · rename_i kC d l hat
        split at e
        · rename_i hi
          rw [Option.map_eq_some_iff] at e
          obtain ⟨y, hy, e⟩ := e
          cases e
          obtain ⟨I, hf⟩ := PO.iattr kC a hi
          refine Attribute_name (load_var X hl fun val rv => ?_)
          obtain ⟨ad, rfl, q⟩ := ref_of rv
          exact get_attr S B q hat I hf hy k
        · cases e
      · cases e
    · rename_i t hl
      rw [Option.map_eq_some_iff] at e
      obtain ⟨y, hy, e⟩ := e
      cases e
      refine Attribute_name (load_var X hl fun val rv => ?_)
      cases rv with
      | any _ hv hh =>
      subst hv
      exact ΩO.oattr hy S k
    · cases e
    · split at e
      · rename_i hg
        rw [Option.map_eq_some_iff] at e
        obtain ⟨y, hy, e⟩ := e
        cases e
        obtain ⟨C, mc, val, h1, h2, h3, h4, h5⟩ := PO.cattr id a x hy
        refine Attribute_name (load_glob X S B hg h1 ?_)
        exact cls_attr S B h2 h3 h4 h5 k
      · cases e
  · cases e

theorem call_sound (B : Base K h₀) (PO : ProgOK P K) (ΩO : ΩOK P K w h₀ c Ω) (H : SO P K w h₀ c n R) {f : Expr} {es : List Expr} {ks : List Keyword} {pos : Pos} (e : evE P Ω R F (.Call f es ks pos) σ = some (x, σ')) (r : Room c (n + 1) A) (S : St w h₀ ρ σ s.heap) (X : FrOK h₀ ρ s.heap env F) {Q : Value → Shared → Prop} (k : Ret w h₀ ρ s σ' x Q) :
    wpAny (model prog w) A (eval (.Call f es ks pos) env) Q E s := by
  cases ks with
  | cons _ _ => (unfold evE cE at e; try dsimp only at e); cases e
  | nil =>
    cases f with
    | Attribute o m apos => exact meth_sound B PO ΩO H e r S X k
    | Name g p =>
      (unfold evE cE at e; try dsimp only at e)
      split at e
      · rename_i hg
        split at e
        · rename_i hisi
          rw [PySem.W.Fast.sEq_iff] at hisi; subst hisi
          split at e
          · rename_i a t pt
            split at e
            · rename_i ht
              obtain ⟨rfl, hgt, hpa⟩ := ht
              split at e
              · rename_i i σ₁ h1
                cases e
                refine Call_ (load_boot X S B hg PO.isi.1 PO.isi.2 (by decide) ?_)
                refine callWith_builtin (by rw [plainE_of hpa]; rfl) ?_
                rw [plainE_of hpa]
                refine evalArgs_plain (spliced_cons (H.then h1 r.less S X fun u ρ₁ s₁ st₁ S₁ X₁ ru => ?_))
                refine spliced_cons (load_boot X₁ S₁ B hgt PO.tup.1 PO.tup.2 (by decide) (spliced_nil ?_))
                obtain ⟨tk, rfl⟩ := int_of ru
                exact IsiPair.int_tuple ((k.after st₁).flat S₁ (fun _ => .bool _) _)
              · cases e
            · cases e
          · cases e
        · split at e
          · cases e
          rename_i hp
          simp only [Bool.not_eq_true', Bool.not_eq_false] at hp
          split at e
          · rename_i vs σ₁ h1
            exact callG_sound B PO ΩO H hg hp h1 e r S X k
          · cases e
      · cases e
    | _ => (unfold evE cE at e; try dsimp only at e); cases e
end
end HQ
end
section
set_option autoImplicit false
set_option linter.unusedSectionVars false
set_option linter.unusedVariables false
set_option linter.unusedSimpArgs false
set_option maxRecDepth 10000
namespace HQ
open PySem PySem.W PySem.Calls PyProof.Rows PySem.Spec
variable [Gh]

/-- the tests of a comprehension, one after the other -/
abbrev testsOf (ifs : List Expr) (env : Env) (b : Bool) : Sem Bool := forIn ifs b fun c r => if r = true then do let ok ← isTrue c env (eval c env); pure (ForInStep.yield ok) else pure (ForInStep.yield r)

section
variable {prog : Program} {w : World} {A : Around} {R : Result → Shared → Prop} {E : Value → Shared → Prop} {s : Shared}
variable {elt kx vx iter it2 : Expr} {x y : Str} {px py : Pos} {ifs : List Expr} {scope : Scope} {pos : Pos} {it acc : Value} {env : Env}

theorem tests_false : ∀ (ifs : List Expr) {Q : Bool → Shared → Prop}, Q false s → wpAny (model prog w) A (testsOf ifs env false) Q E s
  | [], Q, h => by show wpAny _ A (forIn [] _ _) Q E s; rw [List.forIn_nil]; exact wpAny_pure h
  | c :: r, Q, h => by
    show wpAny _ A (forIn (c :: r) _ _) Q E s
    rw [List.forIn_cons, if_neg (by simp)]
    exact wpAny_bind (wpAny_pure (tests_false r h))

theorem turn_list1 (h : ∀ E, wpAny (model prog w) A (pyNext it) (fun r s₁ => match r with
      | none => R (.ok .next) s₁
      | some v => wpAny (model prog w) A (assign (.Name x px) env v) (fun _ s₂ => wpAny (model prog w) A (testsOf ifs env true) (fun ok s₃ =>
          if ok = true then wpAny (model prog w) A (eval elt env) (fun u s₄ => wpAny (model prog w) A (call (.builtin "list.append") [acc, u]) (fun _ s₅ => codeAny (model prog w) A (.compLoop (.ListComp elt [⟨.Name x px, iter, ifs, 0⟩] scope pos) 0 it acc env) R s₅) E s₄) E s₃
          else codeAny (model prog w) A (.compLoop (.ListComp elt [⟨.Name x px, iter, ifs, 0⟩] scope pos) 0 it acc env) R s₃) E s₂) E s₁) E s) :
    codeAny (model prog w) A (.compLoop (.ListComp elt [⟨.Name x px, iter, ifs, 0⟩] scope pos) 0 it acc env) R s := by
  refine codeAny_of_tree ?_
  show wpAny _ A ((compTurn (.ListComp elt [⟨.Name x px, iter, ifs, 0⟩] scope pos) 0 it acc env).onRaise (fun x => do noteFrame x env; theTreesLotGoes x)) _ _ s
  refine wpAny_noted ?_
  rw [compTurn_list]
  refine wpAny_bind (wpAny_standAt (wpAny_bind (wpAny_mono (h _) (fun r s₁ h₁ => ?_) fun _ _ h' => h')))
  cases r with
  | none => exact wpAny_pure h₁
  | some v =>
    refine wpAny_bind (wpAny_pure ?_)
    refine wpAny_bind (wpAny_mono h₁ (fun _ s₂ h₂ => wpAny_bind (wpAny_mono h₂ (fun ok s₃ h₃ => ?_) fun _ _ h' => h')) fun _ _ h' => h')
    cases ok with
    | false => exact wpAny_pure (And.intro rfl h₃)
    | true => exact wpAny_bind (wpAny_bind (wpAny_mono h₃ (fun u s₄ h₄ => wpAny_bind (wpAny_mono h₄ (fun _ s₅ h₅ => wpAny_pure (wpAny_pure (And.intro rfl h₅))) fun _ _ h' => h')) fun _ _ h' => h'))

theorem turn_dict1 {D : Addr} (h : ∀ E, wpAny (model prog w) A (pyNext it) (fun r s₁ => match r with
      | none => R (.ok .next) s₁
      | some v => wpAny (model prog w) A (assign (.Name x px) env v) (fun _ s₂ => wpAny (model prog w) A (testsOf ifs env true) (fun ok s₃ =>
          if ok = true then wpAny (model prog w) A (eval kx env) (fun kv s₄ => wpAny (model prog w) A (eval vx env) (fun vv s₅ => wpAny (model prog w) A (dictSet D kv vv) (fun _ s₆ => codeAny (model prog w) A (.compLoop (.DictComp kx vx [⟨.Name x px, iter, ifs, 0⟩] scope pos) 0 it (.ref D) env) R s₆) E s₅) E s₄) E s₃
          else codeAny (model prog w) A (.compLoop (.DictComp kx vx [⟨.Name x px, iter, ifs, 0⟩] scope pos) 0 it (.ref D) env) R s₃) E s₂) E s₁) E s) :
    codeAny (model prog w) A (.compLoop (.DictComp kx vx [⟨.Name x px, iter, ifs, 0⟩] scope pos) 0 it (.ref D) env) R s := by
  refine codeAny_of_tree ?_
  show wpAny _ A ((compTurn (.DictComp kx vx [⟨.Name x px, iter, ifs, 0⟩] scope pos) 0 it (.ref D) env).onRaise (fun x => do noteFrame x env; theTreesLotGoes x)) _ _ s
  refine wpAny_noted ?_
  rw [compTurn_dict]
  refine wpAny_bind (wpAny_standAt (wpAny_bind (wpAny_mono (h _) (fun r s₁ h₁ => ?_) fun _ _ h' => h')))
  cases r with
  | none => exact wpAny_pure h₁
  | some v =>
    refine wpAny_bind (wpAny_pure ?_)
    refine wpAny_bind (wpAny_mono h₁ (fun _ s₂ h₂ => wpAny_bind (wpAny_mono h₂ (fun ok s₃ h₃ => ?_) fun _ _ h' => h')) fun _ _ h' => h')
    cases ok with
    | false => exact wpAny_pure (And.intro rfl h₃)
    | true => exact wpAny_bind (wpAny_bind (wpAny_mono h₃ (fun kv s₄ h₄ => wpAny_bind (wpAny_holding (wpAny_mono h₄ (fun vv s₅ h₅ => wpAny_bind (wpAny_standAt (wpAny_holding (wpAny_mono h₅ (fun _ s₆ h₆ => wpAny_pure (And.intro rfl h₆)) fun _ _ h' => h')))) fun _ _ h' => h'))) fun _ _ h' => h'))

/-- a comprehension with two fors: the inner loop -/
theorem turn_list2i {g0 : Comprehension} (h : ∀ E, wpAny (model prog w) A (pyNext it) (fun r s₁ => match r with
      | none => R (.ok .next) s₁
      | some v => wpAny (model prog w) A (assign (.Name x px) env v) (fun _ s₂ => wpAny (model prog w) A (testsOf ifs env true) (fun ok s₃ =>
          if ok = true then wpAny (model prog w) A (eval elt env) (fun u s₄ => wpAny (model prog w) A (call (.builtin "list.append") [acc, u]) (fun _ s₅ => codeAny (model prog w) A (.compLoop (.ListComp elt [g0, ⟨.Name x px, iter, ifs, 0⟩] scope pos) 1 it acc env) R s₅) E s₄) E s₃
          else codeAny (model prog w) A (.compLoop (.ListComp elt [g0, ⟨.Name x px, iter, ifs, 0⟩] scope pos) 1 it acc env) R s₃) E s₂) E s₁) E s) :
    codeAny (model prog w) A (.compLoop (.ListComp elt [g0, ⟨.Name x px, iter, ifs, 0⟩] scope pos) 1 it acc env) R s := by
  refine codeAny_of_tree ?_
  show wpAny _ A ((compTurn (.ListComp elt [g0, ⟨.Name x px, iter, ifs, 0⟩] scope pos) 1 it acc env).onRaise (fun x => do noteFrame x env; theTreesLotGoes x)) _ _ s
  refine wpAny_noted ?_
  have e : compTurn (.ListComp elt [g0, ⟨.Name x px, iter, ifs, 0⟩] scope pos) 1 it acc env = (do
      standAt iter.pos
      match ← pyNext it with
      | none => pure (.done .next)
      | some v =>
        letOwnedTupleGo (.Name x px) it v
        assign (.Name x px) env v
        let mut ok := true
        for c in ifs do
          if ok then ok ← isTrue c env (eval c env)
        if ok then
          (do let _ ← call (.builtin "list.append") [acc, ← eval elt env])
        again (.compLoop (.ListComp elt [g0, ⟨.Name x px, iter, ifs, 0⟩] scope pos) 1 it acc env)) := rfl
  rw [e]
  refine wpAny_bind (wpAny_standAt (wpAny_bind (wpAny_mono (h _) (fun r s₁ h₁ => ?_) fun _ _ h' => h')))
  cases r with
  | none => exact wpAny_pure h₁
  | some v =>
    refine wpAny_bind (wpAny_pure ?_)
    refine wpAny_bind (wpAny_mono h₁ (fun _ s₂ h₂ => wpAny_bind (wpAny_mono h₂ (fun ok s₃ h₃ => ?_) fun _ _ h' => h')) fun _ _ h' => h')
    cases ok with
    | false => exact wpAny_pure (And.intro rfl h₃)
    | true => exact wpAny_bind (wpAny_bind (wpAny_mono h₃ (fun u s₄ h₄ => wpAny_bind (wpAny_mono h₄ (fun _ s₅ h₅ => wpAny_pure (wpAny_pure (And.intro rfl h₅))) fun _ _ h' => h')) fun _ _ h' => h'))

/-- the outer loop -/
theorem turn_list2o (hs : ∀ v, foldedSetIterable it2 env v = pure v)
    (h : ∀ E, wpAny (model prog w) A (pyNext it) (fun r s₁ => match r with
      | none => R (.ok .next) s₁
      | some v => wpAny (model prog w) A (assign (.Name x px) env v) (fun _ s₂ => wpAny (model prog w) A (eval it2 env) (fun u s₄ => wpAny (model prog w) A (pyIter u) (fun j s₅ =>
            codeAny (model prog w) A (.compStart (.ListComp elt [⟨.Name x px, iter, [], 0⟩, ⟨.Name y py, it2, ifs, 0⟩] scope pos) 1 j acc env) (fun r s' => match r with
              | .ok _ => codeAny (model prog w) A (.compLoop (.ListComp elt [⟨.Name x px, iter, [], 0⟩, ⟨.Name y py, it2, ifs, 0⟩] scope pos) 0 it acc env) R s'
              | .error _ => False) s₅) E s₄) E s₂) E s₁) E s) :
    codeAny (model prog w) A (.compLoop (.ListComp elt [⟨.Name x px, iter, [], 0⟩, ⟨.Name y py, it2, ifs, 0⟩] scope pos) 0 it acc env) R s := by
  refine codeAny_of_tree ?_
  show wpAny _ A ((compTurn (.ListComp elt [⟨.Name x px, iter, [], 0⟩, ⟨.Name y py, it2, ifs, 0⟩] scope pos) 0 it acc env).onRaise (fun x => do noteFrame x env; theTreesLotGoes x)) _ _ s
  refine wpAny_noted ?_
  have e : compTurn (.ListComp elt [⟨.Name x px, iter, [], 0⟩, ⟨.Name y py, it2, ifs, 0⟩] scope pos) 0 it acc env = (do
      standAt iter.pos
      match ← pyNext it with
      | none => pure (.done .next)
      | some v =>
        letOwnedTupleGo (.Name x px) it v
        assign (.Name x px) env v
        let u ← eval it2 env
        standAt it2.pos
        let u ← foldedSetIterable it2 env u
        let _ ← runOwn (.compStart (.ListComp elt [⟨.Name x px, iter, [], 0⟩, ⟨.Name y py, it2, ifs, 0⟩] scope pos) 1 (← holding [u] (pyIter u)) acc env) env
        again (.compLoop (.ListComp elt [⟨.Name x px, iter, [], 0⟩, ⟨.Name y py, it2, ifs, 0⟩] scope pos) 0 it acc env)) := rfl
  rw [e]
  refine wpAny_bind (wpAny_standAt (wpAny_bind (wpAny_mono (h _) (fun r s₁ h₁ => ?_) fun _ _ h' => h')))
  cases r with
  | none => exact wpAny_pure h₁
  | some v =>
    refine wpAny_bind (wpAny_pure ?_)
    refine wpAny_bind (wpAny_mono h₁ (fun _ s₂ h₂ => ?_) fun _ _ h' => h')
    refine wpAny_bind (wpAny_mono h₂ (fun u s₄ h₄ => wpAny_bind (wpAny_standAt (wpAny_bind (wpAny_of_eq (hs u) ?_)))) fun _ _ h' => h')
    refine wpAny_bind (wpAny_holding (wpAny_mono h₄ (fun j s₅ h₅ => ?_) fun _ _ h' => h'))
    refine wpAny_bind (wpAny_runOwn (codeAny_mono h₅ fun r s' hr => ?_))
    cases r with
    | ok f => exact wpAny_pure (And.intro rfl hr)
    | error e => exact hr.elim

/-- a loop's start asks the iterator for itself -/
theorem start_list {d : Nat} {gs : List Comprehension} (hd : ((clausesOf (.ListComp elt gs scope pos))[d]?).elim false (·.is_async != 0) = false)
    (h0 : codeAny (model prog w) A (.compLoop (.ListComp elt gs scope pos) d it acc env) R s) (hit : ∀ A E Q, Q it s → wpAny (model prog w) A (pyIter it) Q E s) :
    codeAny (model prog w) A (.compStart (.ListComp elt gs scope pos) d it acc env) R s := by
  refine codeAny_of_tree ?_
  show wpAny _ _ ((compStart (.ListComp elt gs scope pos) d it acc env).onRaise (fun x => do noteFrame x env; standAt theWindowsPlace)) _ _ s
  refine wpAny_notedAt ?_
  unfold compStart
  rw [hd]
  simp only [Bool.false_eq_true, if_false]
  refine wpAny_bind (wpAny_askSetting (wpAny_ite ?_))
  split
  · exact wpAny_pure (And.intro rfl h0)
  · refine wpAny_bind (wpAny_rule ?_)
    split
    · exact wpAny_bind (wpAny_standAt (wpAny_bind (hit _ _ _ (wpAny_pure (And.intro rfl h0)))))
    · exact wpAny_bind (hit _ _ _ (wpAny_pure (And.intro rfl h0)))
theorem start_dict {d : Nat} {gs : List Comprehension} (hd : ((clausesOf (.DictComp kx vx gs scope pos))[d]?).elim false (·.is_async != 0) = false)
    (h0 : codeAny (model prog w) A (.compLoop (.DictComp kx vx gs scope pos) d it acc env) R s) (hit : ∀ A E Q, Q it s → wpAny (model prog w) A (pyIter it) Q E s) :
    codeAny (model prog w) A (.compStart (.DictComp kx vx gs scope pos) d it acc env) R s := by
  refine codeAny_of_tree ?_
  show wpAny _ _ ((compStart (.DictComp kx vx gs scope pos) d it acc env).onRaise (fun x => do noteFrame x env; standAt theWindowsPlace)) _ _ s
  refine wpAny_notedAt ?_
  unfold compStart
  rw [hd]
  simp only [Bool.false_eq_true, if_false]
  refine wpAny_bind (wpAny_askSetting (wpAny_ite ?_))
  split
  · exact wpAny_pure (And.intro rfl h0)
  · refine wpAny_bind (wpAny_rule ?_)
    split
    · exact wpAny_bind (wpAny_standAt (wpAny_bind (hit _ _ _ (wpAny_pure (And.intro rfl h0)))))
    · exact wpAny_bind (hit _ _ _ (wpAny_pure (And.intro rfl h0)))
end

section
variable {w : World} {h₀ : Heap} {ρ ρ' : List Addr} {s s' : Shared} {σ σ' : Sto} {A : Around} {E : Value → Shared → Prop} {I : Addr} {n i : Nat} {src : V}
theorem it_self (x : IT ρ s.heap I n i src) (hf : fitN src = true) {Q : Value → Shared → Prop} (k : Q (.ref I) s) : wpAny (model prog w) A (pyIter (.ref I)) Q E s := by
  cases src with
  | tup l => obtain ⟨_, _, h, _⟩ := x; exact wpAny_pyIter_tupleiter h k
  | lst l => obtain ⟨_, _, h, _⟩ := x; exact wpAny_pyIter_listiter h k
  | rng a b => exact wpAny_pyIter_rangeiter x k
  | str l => obtain ⟨_, h⟩ := x; exact wpAny_pyIter_striter_ascii h k
  | ref c => obtain ⟨_, _, h⟩ := x; exact wpAny_pyIter_listiter h k
  | keys c => obtain ⟨_, _, h⟩ := x; exact wpAny_pyIter_keyiter h k
  | its c => cases hf
  | _ => exact x.elim

theorem IT.fields {ρ : List Addr} {h : Heap} (x : IT ρ h I n i src) : ∃ o fs, h.get? I = some o ∧ o.data = .fields fs := by
  cases src with
  | tup l => obtain ⟨_, _, ⟨o, e, _, hd⟩, _⟩ := x; exact ⟨o, _, e, hd⟩
  | lst l => obtain ⟨_, _, ⟨o, e, _, hd⟩, _⟩ := x; exact ⟨o, _, e, hd⟩
  | rng a b => exact ⟨_, _, x, rfl⟩
  | str l => obtain ⟨_, o, e, _, hd⟩ := x; exact ⟨o, _, e, hd⟩
  | ref c => obtain ⟨_, _, o, e, _, hd⟩ := x; exact ⟨o, _, e, hd⟩
  | keys c => obtain ⟨_, _, o, e, _, hd⟩ := x; exact ⟨o, _, e, hd⟩
  | its c => obtain ⟨_, _, _, _, e⟩ := x; exact ⟨_, _, e, rfl⟩
  | _ => exact x.elim
theorem IT.ne_ns {ρ : List Addr} {h : Heap} (x : IT ρ h I n i src) {a : Addr} {m : Str → Option Value} (y : h.Ns a m) : a ≠ I := by
  rintro rfl
  obtain ⟨o, fs, e, hd⟩ := x.fields
  obtain ⟨o', es, ep, e', hd', _⟩ := y
  rw [e] at e'; cases e'; rw [hd] at hd'; cases hd'
theorem IT.ne_cell {ρ : List Addr} {h : Heap} (x : IT ρ h I n i src) {a : Addr} {v : Option Value} (y : h.IsCell a v) : a ≠ I := by
  rintro rfl
  obtain ⟨o, fs, e, hd⟩ := x.fields
  obtain ⟨o', e', hd'⟩ := y
  rw [e] at e'; cases e'; rw [hd] at hd'; cases hd'

/-- a step that leaves I leaves the iterator -/
theorem IT.step {O : Addr → Prop} (x : IT ρ s.heap I n i src) (S : St w h₀ ρ σ s.heap) (st : Step O ρ s ρ' s') (mo : MutO O s.heap) (nI : I ∉ ρ) (nO : ¬ O I) : IT ρ' s'.heap I n i src := by
  have up : ∀ {o : Obj}, s.heap.get? I = some o → s'.heap.get? I = some o := fun e => st.keep _ _ e nI nO
  cases src with
  | tup l =>
    obtain ⟨a, vs, ⟨o, e, hd⟩, ht, ne, hr, hn⟩ := x
    obtain ⟨ot, et, ft⟩ := isTuple_frozen ht
    obtain ⟨n1, n2⟩ := frozen_ne S.mutR mo et ft
    obtain ⟨ot', et', r⟩ := ht
    exact ⟨a, vs, ⟨o, up e, hd⟩, ⟨ot', st.keep _ _ et' n1 n2, r⟩, ne, st.rl S mo hr, hn⟩
  | lst l =>
    obtain ⟨a, vs, ⟨o, e, hd⟩, ht, ne, hn, hr⟩ := x
    obtain ⟨ot, et, ft⟩ := isList_seq ht
    have n2 := seq_ne mo et ft
    obtain ⟨ot', et', r⟩ := ht
    exact ⟨a, vs, ⟨o, up e, hd⟩, ⟨ot', st.keep _ _ et' hn n2, r⟩, ne, st.mem et' hn, st.rl S mo hr⟩
  | rng a b => exact up x
  | str l => obtain ⟨t, o, e, hd⟩ := x; exact ⟨t, o, up e, hd⟩
  | ref c => obtain ⟨a, q, o, e, hd⟩ := x; exact ⟨a, prefix_get st.pre q, o, up e, hd⟩
  | keys c => obtain ⟨a, q, o, e, hd⟩ := x; exact ⟨a, prefix_get st.pre q, o, up e, hd⟩
  | its c => obtain ⟨a, ok, ov, q, e⟩ := x; exact ⟨a, ok, ov, prefix_get st.pre q, up e⟩
  | _ => exact x.elim
theorem ITO.it {v : Value} {h : Heap} (x : ITO ρ h I n i v src) (hf : fitN src = true) : IT ρ h I n i src := by
  cases src with
  | its c => cases hf
  | _ => simp only [ITO] at x; exact x

/-- what is hidden from the start -/
theorem Step.hide {O O' : Addr → Prop} {ρ0 : List Addr} {s0 : Shared} (x : Step O ρ0 s0 ρ s) (y : Step O' ρ s ρ' s') (h : ∀ b o, O' b → s0.heap.get? b = some o → O b) : Step O ρ0 s0 ρ' s' := by
  obtain ⟨h1, t1, rfl⟩ := x.same
  obtain ⟨h2, t2, rfl⟩ := y.same
  refine ⟨⟨h2, t2, rfl⟩, x.pre.trans y.pre, fun a m => (y.new a m).elim (x.new a) fun q => ?_, fun b o e n1 n2 => ?_, fun b o e => ?_⟩
  · cases e : s0.heap.get? a with
    | none => exact .inr rfl
    | some o => obtain ⟨o', e'⟩ := x.alive a o e; rw [q] at e'; cases e'
  · exact y.keep b o (x.keep b o e n1 n2) (x.mem e n1) fun q => n2 (h b o q e)
  · obtain ⟨o', e'⟩ := x.alive b o e; exact y.alive b o' e'
/-- a last step, behind which I may be gone -/
theorem Step.last {O : Addr → Prop} {ρ0 : List Addr} {s0 : Shared} {h' : Heap} {tk : Nat} (x : Step O ρ0 s0 ρ s) (y : ButI I s.heap h') (h : s0.heap.get? I = Option.none) : Step O ρ0 s0 ρ { s with heap := h', toks := tk } := by
  obtain ⟨h1, t1, rfl⟩ := x.same
  have ne : ∀ b o, s0.heap.get? b = some o → b ≠ I := fun b o e q => by rw [q, h] at e; cases e
  exact ⟨⟨h', tk, rfl⟩, x.pre, x.new, fun b o e n1 n2 => y b o (ne b o e) (x.keep b o e n1 n2), fun b o e => let ⟨o', e'⟩ := x.alive b o e; ⟨o', y b o' (ne b o e) e'⟩⟩
end

section
variable {w : World} {h₀ : Heap} {ρ ρ' : List Addr} {s s' : Shared} {σ σ' : Sto} {env : Env} {F : Fm} {I : Addr} {n i : Nat} {src : V}
/-- the frame behind a turn of an iterator -/
theorem FrOK.but {h' : Heap} (X : FrOK h₀ ρ s.heap env F) (S : St w h₀ ρ σ s.heap) (k : ButI I s.heap h') (mo : MutO (Only I) s.heap) (nl : env.locals ≠ I) (ncl : ∀ x c v, env.cells.lookup x = some c → s.heap.IsCell c v → c ≠ I) : FrOK h₀ ρ h' env F := by
  have up : ∀ {v : Value} {y : V}, RV ρ s.heap v y → RV ρ h' v y := fun r => r.mono (List.prefix_refl _) (k.kept ρ) S.mutR mo (fun _ m => .inl m)
  exact { X with
    ns := by
      obtain ⟨m, hn, hv⟩ := X.ns
      refine ⟨m, ?_, fun x v h1 h2 => let ⟨val, h3, h4⟩ := hv x v h1 h2; ⟨val, h3, up h4⟩⟩
      obtain ⟨o, es, ep, e, r⟩ := hn
      exact ⟨o, es, ep, k _ _ nl e, r⟩
    cells := fun x hx => by
      obtain ⟨c, v₀, hc, hi, hn, hv⟩ := X.cells x hx
      have nc := ncl x c v₀ hc hi
      obtain ⟨o, e, hd⟩ := hi
      exact ⟨c, v₀, hc, ⟨o, k _ _ nc e, hd⟩, hn, fun v h2 => let ⟨val, h3, h4⟩ := hv v h2; ⟨val, h3, up h4⟩⟩ }
end
end HQ
end
section
set_option autoImplicit false
set_option linter.unusedSectionVars false
set_option linter.unusedVariables false
set_option linter.unusedSimpArgs false
set_option maxRecDepth 10000
namespace HQ
open PySem PySem.W PySem.Calls PyProof.Rows PySem.Spec
variable [Gh]

section
variable {P : Prog} {K : Frag} {w : World} {h₀ : Heap} {c n : Nat} {Ω : Str → List V → Sto → Option (V × Sto)} {R : Evs}
variable {A : Around} {E : Value → Shared → Prop}

theorem localOk_of {sc : Scope} {x : Str} (h : localOk sc x = true) : sc.names.lookup x = some .local := by
  unfold localOk at h
  rw [look_lookup] at h
  split at h
  · assumption
  · cases h
theorem store_of_local {sc : Scope} {x : Str} (h : localOk sc x = true) : storeOk sc x = true := by
  unfold storeOk; rw [look_lookup, localOk_of h]

theorem ifs_sound (H : SO P K w h₀ c n R) {env : Env} {F : Fm} (r : Room c n A) : ∀ {ifs : List Expr} {ρ : List Addr} {s : Shared} {σ σ' : Sto} {b : Bool} {Q : Bool → Shared → Prop}, ifsC R F ifs σ = some (b, σ') → St w h₀ ρ σ s.heap → FrOK h₀ ρ s.heap env F → RetB w h₀ ρ s σ' b Q →
    wpAny (model prog w) A (testsOf ifs env true) Q E s
  | [], ρ, s, σ, σ', b, Q, e, S, X, k => by
    simp only [ifsC] at e; cases e
    show wpAny _ A (forIn [] _ _) Q E s
    rw [List.forIn_nil]
    exact wpAny_pure (k ρ s Step.refl S)
  | t :: rest, ρ, s, σ, σ', b, Q, e, S, X, k => by
    simp only [ifsC] at e
    show wpAny _ A (forIn (t :: rest) _ _) Q E s
    rw [List.forIn_cons, if_pos rfl]
    split at e
    · rename_i σ₁ h1
      refine wpAny_bind (wpAny_bind (H.t h1 r S X fun ρ₁ s₁ st₁ S₁ => wpAny_pure ?_))
      exact ifs_sound H r e S₁ (X.step0 S st₁) (k.after st₁)
    · rename_i hne
      cases b with
      | true => exact absurd e (hne σ')
      | false =>
        refine wpAny_bind (wpAny_bind (H.t e r S X fun ρ₁ s₁ st₁ S₁ => wpAny_pure ?_))
        exact tests_false rest (k ρ₁ s₁ st₁ S₁)

/-- no cells of its own -/
noncomputable def NoCells (sc : Scope) : Prop := ∀ x, sc.names.lookup x ≠ some .cell

/-- one turn's beginning: the iterator moves, the name is stored -/
theorem turn_start {A : Around} {cenv : Env} {sc : Scope} {vars : Vars} {x : Str} {px : Pos} {src : V} {I : Addr} {m i : Nat} {ρ ρ0 : List Addr} {s s0 : Shared} {σ : Sto} {O : Addr → Prop} {rr : Option V}
    (hh : A.handled = Option.none) (hx : localOk sc x = true) (hn : NoCells sc) (hfit : fitN src = true) (e : nextV σ m i src = some rr)
    (S : St w h₀ ρ σ s.heap) (X : FrOK h₀ ρ s.heap cenv ⟨sc, vars⟩) (it : IT ρ s.heap I m i src) (nI : I ∉ ρ) (I0 : h₀.get? I = Option.none) (st : Step O ρ0 s0 ρ s) (hI : s0.heap.get? I = Option.none) (hC : ∀ o, s0.heap.get? cenv.locals = some o → O cenv.locals)
    {Qn : Option Value → Shared → Prop}
    (k0 : rr = Option.none → ∀ s', Step O ρ0 s0 ρ s' → St w h₀ ρ σ s'.heap → FrOK h₀ ρ s'.heap cenv ⟨sc, vars⟩ → Qn Option.none s')
    (kx : ∀ y v s₁, rr = some y → St w h₀ ρ σ s₁.heap → FrOK h₀ ρ s₁.heap cenv ⟨sc, vars⟩ → IT ρ s₁.heap I m (i + 1) src → Step O ρ0 s0 ρ s₁ → RV ρ s₁.heap v y → Qn (some v) s₁) :
    wpAny (model prog w) A (pyNext (.ref I)) Qn E s := by
  have mo := mutO_only it.obj
  have nl : cenv.locals ≠ I := by obtain ⟨mm, hns, _⟩ := X.ns; exact it.ne_ns hns
  have ncl : ∀ x c v, cenv.cells.lookup x = some c → s.heap.IsCell c v → c ≠ I := fun x c v _ hi => it.ne_cell hi
  refine next_sound S hh it e (fun y v h' tk hr bt rv ito => ?_) (fun h' tk hr bt => ?_)
  · have al : ∃ o, h'.get? I = some o := let ⟨o, e, _⟩ := ito.obj; ⟨o, e⟩
    refine kx y v _ hr (S.but bt nI mo I0) (X.but S bt mo nl ncl) (ito.it hfit) (st.hide (step_but bt al) fun b o q eb => ?_) rv
    cases q; rw [hI] at eb; cases eb
  · exact k0 hr _ (st.last bt hI) (S.but bt nI mo I0) (X.but S bt mo nl ncl)

theorem store_turn {A : Around} {cenv : Env} {sc : Scope} {vars : Vars} {x : Str} {px : Pos} {src : V} {I : Addr} {m i : Nat} {ρ ρ0 : List Addr} {s s0 : Shared} {σ : Sto} {O : Addr → Prop} {v : Value} {y : V}
    (hx : localOk sc x = true) (hn : NoCells sc) (S : St w h₀ ρ σ s.heap) (X : FrOK h₀ ρ s.heap cenv ⟨sc, vars⟩) (it : IT ρ s.heap I m i src) (nI : I ∉ ρ) (st : Step O ρ0 s0 ρ s) (hC : ∀ o, s0.heap.get? cenv.locals = some o → O cenv.locals) (rv : RV ρ s.heap v y)
    {Q : Unit → Shared → Prop} (k : ∀ s', St w h₀ ρ σ s'.heap → FrOK h₀ ρ s'.heap cenv ⟨sc, setv x y vars⟩ → IT ρ s'.heap I m i src → Step O ρ0 s0 ρ s' → Q () s') : wpAny (model prog w) A (assign (.Name x px) cenv v) Q E s := by
  refine PyProof.Rows.assign_Name (store_var X S (store_of_local hx) rv fun s' st' S' X' => ?_)
  have own : ∀ a, Own cenv ⟨sc, vars⟩ a → a = cenv.locals := fun a q => q.elim id fun ⟨z, h1, _⟩ => absurd h1 (hn z)
  obtain ⟨mm, hns, _⟩ := X.ns
  have nO : ¬ Own cenv ⟨sc, vars⟩ I := fun q => it.ne_ns hns (own I q).symm
  refine k s' S' X' (it.step S st' X.mutO nI nO) (st.hide st' fun b o q eb => ?_)
  rw [own b q] at eb ⊢; exact hC o eb

theorem compL_sound (H : SO P K w h₀ c n R) {elt : Expr} {ifs : List Expr} {x : Str} {px : Pos} {src : V} {nc m : Nat} {sc : Scope} {cenv : Env} {I D : Addr} {loopC : Code} (r : Room c n A) (hx : localOk sc x = true) (hn : NoCells sc) (I0 : h₀.get? I = Option.none)
    (turn : ∀ {Rr : Result → Shared → Prop} {s : Shared}, (∀ E, wpAny (model prog w) A (pyNext (.ref I)) (fun r s₁ => match r with
      | none => Rr (.ok .next) s₁
      | some v => wpAny (model prog w) A (assign (.Name x px) cenv v) (fun _ s₂ => wpAny (model prog w) A (testsOf ifs cenv true) (fun ok s₃ =>
          if ok = true then wpAny (model prog w) A (eval elt cenv) (fun u s₄ => wpAny (model prog w) A (call (.builtin "list.append") [.ref D, u]) (fun _ s₅ => codeAny (model prog w) A loopC Rr s₅) E s₄) E s₃
          else codeAny (model prog w) A loopC Rr s₃) E s₂) E s₁) E s) → codeAny (model prog w) A loopC Rr s)
    {Rr : Result → Shared → Prop} {ρ0 : List Addr} {s0 : Shared} {O : Addr → Prop} {vars' : Vars} {σ' : Sto} (hI : s0.heap.get? I = Option.none) (hC : ∀ o, s0.heap.get? cenv.locals = some o → O cenv.locals)
    (k : ∀ ρ' s', Step O ρ0 s0 ρ' s' → St w h₀ ρ' σ' s'.heap → FrOK h₀ ρ' s'.heap cenv ⟨sc, vars'⟩ → ρ'[nc]? = some D → Rr (.ok .next) s') :
    ∀ (t i : Nat) {vars : Vars} {ρ : List Addr} {s : Shared} {σ : Sto}, compL R elt ifs x src nc m t i vars sc σ = some (vars', σ') → St w h₀ ρ σ s.heap → FrOK h₀ ρ s.heap cenv ⟨sc, vars⟩ → IT ρ s.heap I m i src → I ∉ ρ → ρ[nc]? = some D → Step O ρ0 s0 ρ s →
      codeAny (model prog w) A loopC Rr s
  | 0, i, vars, ρ, s, σ, e, S, X, it, nI, q, st => by
    simp only [compL] at e
    split at e
    · rename_i hnx
      cases e
      refine turn fun E => ?_
      have hfit : fitN src = true ∨ fitN src = false := by cases fitN src <;> simp
      have mo := mutO_only it.obj
      have nl : cenv.locals ≠ I := by obtain ⟨mm, hns, _⟩ := X.ns; exact it.ne_ns hns
      have ncl : ∀ x c v, cenv.cells.lookup x = some c → s.heap.IsCell c v → c ≠ I := fun x c v _ hi => it.ne_cell hi
      refine next_sound S r.1 it hnx (fun y v h' tk hr => by cases hr) (fun h' tk hr bt => ?_)
      exact k ρ _ (st.last bt hI) (S.but bt nI mo I0) (X.but S bt mo nl ncl) q
    · cases e
  | t + 1, i, vars, ρ, s, σ, e, S, X, it, nI, q, st => by
    simp only [compL] at e
    split at e
    · cases e
    rename_i hf
    simp only [Bool.not_eq_true', Bool.not_eq_false] at hf
    split at e
    · rename_i y hnx
      refine turn fun E => ?_
      refine turn_start (px := px) r.1 hx hn hf hnx S X it nI I0 st hI hC (fun hr => by cases hr) fun y' v s₁ hr S₁ X₁ it₁ st₁ rv => ?_
      cases hr
      refine store_turn hx hn S₁ X₁ it₁ nI st₁ hC rv fun s₂ S₂ X₂ it₂ st₂ => ?_
      split at e
      · rename_i σ₁ h1
        split at e
        · rename_i u σ₂ h2
          split at e
          · rename_i σ₃ h3
            obtain ⟨l, hl, hz, rfl⟩ := putL_some h3
            refine ifs_sound H r h1 S₂ X₂ fun ρ₃ s₃ st₃ S₃ => ?_
            rw [if_pos rfl]
            have X₃ := X₂.step0 S₂ st₃
            have it₃ := it₂.step S₂ st₃ (mutO_no _) nI (fun q => q)
            have nI₃ : I ∉ ρ₃ := by obtain ⟨o, eo, _⟩ := it₂.obj; exact st₃.mem eo nI
            refine H.then h2 r S₃ X₃ fun uv ρ₄ s₄ st₄ S₄ X₄ ru => ?_
            have it₄ := it₃.step S₃ st₄ (mutO_no _) nI₃ (fun q => q)
            have nI₄ : I ∉ ρ₄ := by obtain ⟨o, eo, _⟩ := it₃.obj; exact st₄.mem eo nI₃
            have q₄ : ρ₄[nc]? = some D := prefix_get st₄.pre (prefix_get st₃.pre q)
            refine append_sound S₄ q₄ hl hz ru fun nv ρ₅ s₅ st₅ S₅ _ => ?_
            have X₅ := X₄.step0 S₄ st₅
            have it₅ := it₄.step S₄ st₅ (mutO_no _) nI₄ (fun q => q)
            have nI₅ : I ∉ ρ₅ := by obtain ⟨o, eo, _⟩ := it₄.obj; exact st₅.mem eo nI₄
            exact compL_sound H r hx hn I0 turn hI hC k t (i + 1) e S₅ X₅ it₅ nI₅ (prefix_get st₅.pre q₄) (((st₂.hide st₃ fun b o q => q.elim).hide st₄ fun b o q => q.elim).hide st₅ fun b o q => q.elim)
          · cases e
        · cases e
      · rename_i σ₁ h1
        refine ifs_sound H r h1 S₂ X₂ fun ρ₃ s₃ st₃ S₃ => ?_
        rw [if_neg (by simp)]
        have X₃ := X₂.step0 S₂ st₃
        have it₃ := it₂.step S₂ st₃ (mutO_no _) nI (fun q => q)
        have nI₃ : I ∉ ρ₃ := by obtain ⟨o, eo, _⟩ := it₂.obj; exact st₃.mem eo nI
        exact compL_sound H r hx hn I0 turn hI hC k t (i + 1) e S₃ X₃ it₃ nI₃ (prefix_get st₃.pre q) (st₂.hide st₃ fun b o q => q.elim)
      · cases e
    · cases e

theorem compD_sound (H : SO P K w h₀ c n R) {kx vx : Expr} {x : Str} {px : Pos} {src : V} {nc m : Nat} {sc : Scope} {cenv : Env} {I D : Addr} {loopC : Code} (r : Room c n A) (hx : localOk sc x = true) (hn : NoCells sc) (I0 : h₀.get? I = Option.none)
    (turn : ∀ {Rr : Result → Shared → Prop} {s : Shared}, (∀ E, wpAny (model prog w) A (pyNext (.ref I)) (fun r s₁ => match r with
      | none => Rr (.ok .next) s₁
      | some v => wpAny (model prog w) A (assign (.Name x px) cenv v) (fun _ s₂ => wpAny (model prog w) A (testsOf [] cenv true) (fun ok s₃ =>
          if ok = true then wpAny (model prog w) A (eval kx cenv) (fun kv s₄ => wpAny (model prog w) A (eval vx cenv) (fun vv s₅ => wpAny (model prog w) A (dictSet D kv vv) (fun _ s₆ => codeAny (model prog w) A loopC Rr s₆) E s₅) E s₄) E s₃
          else codeAny (model prog w) A loopC Rr s₃) E s₂) E s₁) E s) → codeAny (model prog w) A loopC Rr s)
    {Rr : Result → Shared → Prop} {ρ0 : List Addr} {s0 : Shared} {O : Addr → Prop} {vars' : Vars} {σ' : Sto} (hI : s0.heap.get? I = Option.none) (hC : ∀ o, s0.heap.get? cenv.locals = some o → O cenv.locals)
    (k : ∀ ρ' s', Step O ρ0 s0 ρ' s' → St w h₀ ρ' σ' s'.heap → FrOK h₀ ρ' s'.heap cenv ⟨sc, vars'⟩ → ρ'[nc]? = some D → Rr (.ok .next) s') :
    ∀ (t i : Nat) {vars : Vars} {ρ : List Addr} {s : Shared} {σ : Sto}, compD R kx vx x src nc m t i vars sc σ = some (vars', σ') → St w h₀ ρ σ s.heap → FrOK h₀ ρ s.heap cenv ⟨sc, vars⟩ → IT ρ s.heap I m i src → I ∉ ρ → ρ[nc]? = some D → Step O ρ0 s0 ρ s →
      codeAny (model prog w) A loopC Rr s
  | 0, i, vars, ρ, s, σ, e, S, X, it, nI, q, st => by
    simp only [compD] at e
    split at e
    · rename_i hnx
      cases e
      refine turn fun E => ?_
      have mo := mutO_only it.obj
      have nl : cenv.locals ≠ I := by obtain ⟨mm, hns, _⟩ := X.ns; exact it.ne_ns hns
      have ncl : ∀ x c v, cenv.cells.lookup x = some c → s.heap.IsCell c v → c ≠ I := fun x c v _ hi => it.ne_cell hi
      refine next_sound S r.1 it hnx (fun y v h' tk hr => by cases hr) (fun h' tk hr bt => ?_)
      exact k ρ _ (st.last bt hI) (S.but bt nI mo I0) (X.but S bt mo nl ncl) q
    · cases e
  | t + 1, i, vars, ρ, s, σ, e, S, X, it, nI, q, st => by
    simp only [compD] at e
    split at e
    · cases e
    rename_i hf
    simp only [Bool.not_eq_true', Bool.not_eq_false] at hf
    split at e
    · rename_i y hnx
      refine turn fun E => ?_
      refine turn_start (px := px) r.1 hx hn hf hnx S X it nI I0 st hI hC (fun hr => by cases hr) fun y' v s₁ hr S₁ X₁ it₁ st₁ rv => ?_
      cases hr
      refine store_turn hx hn S₁ X₁ it₁ nI st₁ hC rv fun s₂ S₂ X₂ it₂ st₂ => ?_
      show wpAny _ A (forIn [] _ _) _ E _
      rw [List.forIn_nil]
      refine wpAny_pure ?_
      rw [if_pos rfl]
      split at e
      · rename_i kv σ₁ h1
        split at e
        · rename_i vv σ₂ h2
          split at e
          · rename_i σ₃ h3
            obtain ⟨l, hl, hz, rfl⟩ := putD_some h3
            refine H.then h1 r S₂ X₂ fun uk ρ₃ s₃ st₃ S₃ X₃ rk => ?_
            obtain ⟨tk, rfl⟩ := int_of rk
            have it₃ := it₂.step S₂ st₃ (mutO_no _) nI (fun q => q)
            have nI₃ : I ∉ ρ₃ := by obtain ⟨o, eo, _⟩ := it₂.obj; exact st₃.mem eo nI
            refine H.then h2 r S₃ X₃ fun uv ρ₄ s₄ st₄ S₄ X₄ ru => ?_
            have it₄ := it₃.step S₃ st₄ (mutO_no _) nI₃ (fun q => q)
            have nI₄ : I ∉ ρ₄ := by obtain ⟨o, eo, _⟩ := it₃.obj; exact st₄.mem eo nI₃
            have q₄ : ρ₄[nc]? = some D := prefix_get st₄.pre (prefix_get st₃.pre q)
            refine dictPut_sound S₄ q₄ hl hz ru fun ρ₅ s₅ st₅ S₅ => ?_
            have X₅ := X₄.step0 S₄ st₅
            have it₅ := it₄.step S₄ st₅ (mutO_no _) nI₄ (fun q => q)
            have nI₅ : I ∉ ρ₅ := by obtain ⟨o, eo, _⟩ := it₄.obj; exact st₅.mem eo nI₄
            exact compD_sound H r hx hn I0 turn hI hC k t (i + 1) e S₅ X₅ it₅ nI₅ (prefix_get st₅.pre q₄) (((st₂.hide st₃ fun b o q => q.elim).hide st₄ fun b o q => q.elim).hide st₅ fun b o q => q.elim)
          · cases e
        · cases e
      · cases e
    · cases e
end
end HQ
namespace HQ
open PySem PySem.W PySem.Calls PyProof.Rows PySem.Spec
variable [Gh]
section
variable {P : Prog} {K : Frag} {w : World} {h₀ : Heap} {c n : Nat} {Ω : Str → List V → Sto → Option (V × Sto)} {R : Evs}
variable {A : Around} {E : Value → Shared → Prop}

theorem noSet_of {e : Expr} (h : noSet e = true) (env : Env) (v : Value) : foldedSetIterable e env v = pure v := by
  cases e <;> first | rfl | cases h

theorem compL2_sound (B : Base K h₀) (H : SO P K w h₀ c n R) {elt iter it2 : Expr} {ifs : List Expr} {x y : Str} {px py pos : Pos} {src : V} {nc m : Nat} {sc scope : Scope} {cenv : Env} {I D : Addr} (r : Room c n A) (hx : localOk sc x = true) (hy : localOk sc y = true) (hn : NoCells sc) (hs2 : noSet it2 = true) (I0 : h₀.get? I = Option.none)
    {Rr : Result → Shared → Prop} {ρ0 : List Addr} {s0 : Shared} {O : Addr → Prop} {vars' : Vars} {σ' : Sto} (hI : s0.heap.get? I = Option.none) (hC : ∀ o, s0.heap.get? cenv.locals = some o → O cenv.locals)
    (k : ∀ ρ' s', Step O ρ0 s0 ρ' s' → St w h₀ ρ' σ' s'.heap → FrOK h₀ ρ' s'.heap cenv ⟨sc, vars'⟩ → ρ'[nc]? = some D → Rr (.ok .next) s') :
    ∀ (t i : Nat) {vars : Vars} {ρ : List Addr} {s : Shared} {σ : Sto}, compL2 R elt it2 ifs x y src nc m t i vars sc σ = some (vars', σ') → St w h₀ ρ σ s.heap → FrOK h₀ ρ s.heap cenv ⟨sc, vars⟩ → IT ρ s.heap I m i src → I ∉ ρ → ρ[nc]? = some D → Step O ρ0 s0 ρ s →
      codeAny (model prog w) A (.compLoop (.ListComp elt [⟨.Name x px, iter, [], 0⟩, ⟨.Name y py, it2, ifs, 0⟩] scope pos) 0 (.ref I) (.ref D) cenv) Rr s
  | 0, i, vars, ρ, s, σ, e, S, X, it, nI, q, st => by
    simp only [compL2] at e
    split at e
    · rename_i hnx
      cases e
      refine turn_list2o (noSet_of hs2 cenv) fun E => ?_
      have mo := mutO_only it.obj
      have nl : cenv.locals ≠ I := by obtain ⟨mm, hns, _⟩ := X.ns; exact it.ne_ns hns
      have ncl : ∀ x c v, cenv.cells.lookup x = some c → s.heap.IsCell c v → c ≠ I := fun x c v _ hi => it.ne_cell hi
      refine next_sound S r.1 it hnx (fun y v h' tk hr => by cases hr) (fun h' tk hr bt => ?_)
      exact k ρ _ (st.last bt hI) (S.but bt nI mo I0) (X.but S bt mo nl ncl) q
    · cases e
  | t + 1, i, vars, ρ, s, σ, e, S, X, it, nI, q, st => by
    simp only [compL2] at e
    split at e
    · cases e
    rename_i hf
    simp only [Bool.not_eq_true', Bool.not_eq_false] at hf
    split at e
    · rename_i yv hnx
      refine turn_list2o (noSet_of hs2 cenv) fun E => ?_
      refine turn_start (px := px) r.1 hx hn hf hnx S X it nI I0 st hI hC (fun hr => by cases hr) fun y' v s₁ hr S₁ X₁ it₁ st₁ rv => ?_
      cases hr
      refine store_turn hx hn S₁ X₁ it₁ nI st₁ hC rv fun s₂ S₂ X₂ it₂ st₂ => ?_
      split at e
      · rename_i wv σ₁ h1
        split at e
        · rename_i src2 m2 h2
          split at e
          · cases e
          rename_i hfJ
          simp only [Bool.not_eq_true', Bool.not_eq_false] at hfJ
          split at e
          · rename_i vars2 σ₂ h3
            refine H.then h1 r S₂ X₂ fun uw ρ₃ s₃ st₃ S₃ X₃ rw' => ?_
            have it₃ := it₂.step S₂ st₃ (mutO_no _) nI (fun q => q)
            have nI₃ : I ∉ ρ₃ := by obtain ⟨o, eo, _⟩ := it₂.obj; exact st₃.mem eo nI
            have q₃ : ρ₃[nc]? = some D := prefix_get st₃.pre q
            refine start_sound S₃ B.sys rw' h2 fun J h' g hJ J0 itJ => ?_
            have st4 : Step NoO ρ₃ s₃ ρ₃ { s₃ with heap := h' } := step_ext' g
            have S4 := S₃.ext g
            have X4 := X₃.step0 S₃ st4
            have it4 := it₃.step S₃ st4 (mutO_no _) nI₃ (fun q => q)
            have nJ : J ∉ ρ₃ := fun m => by obtain ⟨o, e, _⟩ := S₃.mutR _ m; rw [hJ] at e; cases e
            have inner := compL_sound H (loopC := .compLoop (.ListComp elt [⟨.Name x px, iter, [], 0⟩, ⟨.Name y py, it2, ifs, 0⟩] scope pos) 1 (.ref J) (.ref D) cenv) (elt := elt) (ifs := ifs) (px := py) r hy hn J0 (fun h => turn_list2i h)
              (Rr := fun r s' => match r with
                | .ok _ => codeAny (model prog w) A (.compLoop (.ListComp elt [⟨.Name x px, iter, [], 0⟩, ⟨.Name y py, it2, ifs, 0⟩] scope pos) 0 (.ref I) (.ref D) cenv) Rr s'
                | .error _ => False) (ρ0 := ρ₃) (s0 := s₃) (O := Only cenv.locals) hJ (fun _ _ => rfl)
              (fun ρ' s' st' S' X' _ => by
                obtain ⟨mm, hns, _⟩ := X₃.ns
                have mo : MutO (Only cenv.locals) s₃.heap := mutO_only (ns_obj hns)
                have ne : ¬ Only cenv.locals I := fun q => it₃.ne_ns hns q.symm
                have it' := it₃.step S₃ st' mo nI₃ ne
                have nI' : I ∉ ρ' := by obtain ⟨o, eo, _⟩ := it₃.obj; exact st'.mem eo nI₃
                exact compL2_sound B H r hx hy hn hs2 I0 hI hC k t (i + 1) e S' X' it' nI' (prefix_get st'.pre q₃) ((st₂.hide st₃ fun b o q => q.elim).hide st' fun b o q eb => by cases q; exact hC o eb))
              m2 0 h3 S4 X4 itJ nJ q₃ st4.of_no
            refine start_list rfl inner fun A' E' Q' kq => ?_
            exact it_self itJ hfJ kq
          · cases e
        · cases e
      · cases e
    · cases e
end
end HQ
end
section
set_option autoImplicit false
set_option linter.unusedSectionVars false
set_option linter.unusedVariables false
set_option linter.unusedSimpArgs false
set_option maxRecDepth 10000
namespace HQ
open PySem PySem.W PySem.Calls PyProof.Rows PySem.Spec
variable [Gh]

theorem neS_ne {a b : Str} (h : neS a b = true) : a ≠ b := by
  intro e
  unfold neS at h
  rw [PySem.W.Fast.sEq_iff.mpr e] at h
  cases h
theorem namesOk_of {sc : Scope} (h : namesOk sc = true) : sc.kind = .function ∧ ∀ p ∈ sc.names, p.1 ≠ ("__debug__" : Str) ∧ p.1 ≠ ("__classdict__" : Str) ∧ sc.names.lookup p.1 = some p.2 := by
  unfold namesOk at h
  rw [Bool.and_eq_true, List.all_eq_true] at h
  refine ⟨beq_iff_eq.mp h.1, fun p hp => ?_⟩
  have := h.2 p hp
  simp only [Bool.and_eq_true, beq_iff_eq, look_lookup] at this
  exact ⟨neS_ne this.1.1, neS_ne this.1.2, this.2⟩
theorem lookup_mem {α : Type} : ∀ {l : List (Str × α)} {n : Str} {c : α}, l.lookup n = some c → (n, c) ∈ l := fun h => mem_of_lookup h
theorem namesOk_nd {sc : Scope} (h : namesOk sc = true) : sc.names.lookup ("__debug__" : Str) = Option.none ∧ sc.names.lookup ("__classdict__" : Str) = Option.none := by
  have H := (namesOk_of h).2
  constructor
  · cases q : sc.names.lookup ("__debug__" : Str) with
    | none => rfl
    | some k => exact absurd rfl (H _ (lookup_mem q)).1
  · cases q : sc.names.lookup ("__classdict__" : Str) with
    | none => rfl
    | some k => exact absurd rfl (H _ (lookup_mem q)).2.1

theorem lookup_relabel {env : Env} {x : Str} {k : NameKind} : ∀ {names : List (Str × NameKind)}, names.lookup x = some k →
    (names.map fun (n, k) => if (k == NameKind.free && env.scope.kind == .function && env.kindOf n == some .cell) then (n, NameKind.cell) else (n, k)).lookup x = some (if (k == NameKind.free && env.scope.kind == .function && env.kindOf x == some .cell) then .cell else k)
  | [], h => by simp at h
  | (n, k') :: r, h => by
    have ih := @lookup_relabel env x k r
    show List.lookup x ((if (k' == NameKind.free && env.scope.kind == .function && env.kindOf n == some .cell) = true then (n, NameKind.cell) else (n, k')) :: _) = _
    cases hx : x == n with
    | true =>
      simp only [List.lookup_cons, hx] at h
      cases h
      have hxn := beq_iff_eq.mp hx
      subst hxn
      split <;> simp
    | false =>
      simp only [List.lookup_cons, hx] at h
      split <;> (simp only [List.lookup_cons, hx]; exact ih h)

theorem look_free {names : List (Str × NameKind)} {vars : Vars} {x : Str} {v : V} : look x (names.filterMap fun (n, k) => match k with | .free => (look n vars).map fun v => (n, v) | _ => Option.none) = some v → (x, NameKind.free) ∈ names ∧ look x vars = some v := by
  intro e
  induction names with
  | nil => cases e
  | cons p r ih =>
    obtain ⟨n, k⟩ := p
    rw [List.filterMap_cons] at e
    cases k with
    | free =>
      dsimp only at e
      cases q : look n vars with
      | none =>
        rw [q] at e
        simp only [Option.map_none] at e
        have := ih e
        exact ⟨List.mem_cons_of_mem _ this.1, this.2⟩
      | some u =>
        rw [q] at e
        simp only [Option.map_some, look_cons, look_nil] at e
        split at e
        · rename_i hx; subst hx; cases e; exact ⟨List.mem_cons_self .., q⟩
        · have := ih e; exact ⟨List.mem_cons_of_mem _ this.1, this.2⟩
    | _ => have := ih e; exact ⟨List.mem_cons_of_mem _ this.1, this.2⟩

/-- the closure of a comprehension's frame -/
noncomputable def closeL (env : Env) : List (Str × NameKind) → List (Str × Addr) → List (Str × Addr)
  | [], cs => cs
  | (n, k) :: r, cs => if k == .free then closeL env r ((n, (env.cells.lookup n).getD 0) :: cs) else closeL env r cs
theorem closure_eq {scope : Scope} {env : Env} (h : ∀ p ∈ scope.names, p.2 = .free → (env.cells.lookup p.1).isSome = true) : closureFor scope env = pure (closeL env scope.names []) := by
  unfold closureFor
  have key : ∀ (names : List (Str × NameKind)) (cs : List (Str × Addr)), (∀ p ∈ names, p.2 = .free → (env.cells.lookup p.1).isSome = true) →
      (forIn names cs fun (x : Str × NameKind) (r : List (Str × Addr)) => (match x with
        | (name, kind) => if (kind == NameKind.free) = true then do let a ← cellOf env name; pure (ForInStep.yield ((name, a) :: r)) else pure (ForInStep.yield r) : Sem (ForInStep (List (Str × Addr))))) = pure (closeL env names cs) := by
    intro names
    induction names with
    | nil => intro cs _; rw [List.forIn_nil]; rfl
    | cons p r ih =>
      intro cs h
      obtain ⟨n, k⟩ := p
      rw [List.forIn_cons]
      have ih' := ih
      unfold closeL
      by_cases hk : (k == NameKind.free) = true
      · have := h (n, k) (List.mem_cons_self ..) (beq_iff_eq.mp hk)
        obtain ⟨a, ha⟩ := Option.isSome_iff_exists.mp this
        have hc : cellOf env n = pure a := by unfold cellOf; rw [ha]
        simp only [hk, if_true, hc, pure_bind]
        rw [ha]
        exact ih' _ fun p hp => h p (List.mem_cons_of_mem _ hp)
      · simp only [hk, if_false, pure_bind]
        exact ih' _ fun p hp => h p (List.mem_cons_of_mem _ hp)
  have := key scope.names [] h
  simp only at this ⊢
  rw [show (forIn scope.names ([] : List (Str × Addr)) fun (x : Str × NameKind) (r : List (Str × Addr)) => (if (x.2 == NameKind.free) = true then do let a ← cellOf env x.1; pure (ForInStep.yield ((x.1, a) :: r)) else pure (ForInStep.yield r) : Sem (ForInStep (List (Str × Addr))))) = pure (closeL env scope.names []) from this]
  rfl
theorem closeL_mem {env : Env} : ∀ (names : List (Str × NameKind)) (cs : List (Str × Addr)) (n : Str) (a : Addr), (n, a) ∈ closeL env names cs → (n, a) ∈ cs ∨ a = (env.cells.lookup n).getD 0
  | [], _, _, _, h => .inl h
  | (m, k) :: r, cs, n, a, h => by
    unfold closeL at h
    split at h
    · rcases closeL_mem r _ n a h with q | q
      · rcases List.mem_cons.mp q with q | q
        · cases q; exact .inr rfl
        · exact .inl q
      · exact .inr q
    · exact closeL_mem r cs n a h
theorem closeL_has {env : Env} : ∀ (names : List (Str × NameKind)) (cs : List (Str × Addr)) (n : Str), (n, NameKind.free) ∈ names ∨ (cs.lookup n).isSome = true → ((closeL env names cs).lookup n).isSome = true
  | [], _, _, h => h.elim (fun q => by cases q) id
  | (m, k) :: r, cs, n, h => by
    unfold closeL
    split
    · rename_i hk
      refine closeL_has r _ n ?_
      rcases h with h | h
      · rcases List.mem_cons.mp h with q | q
        · cases q; right; simp
        · exact .inl q
      · right
        rw [List.lookup_cons]
        split
        · rfl
        · exact h
    · rename_i hk
      refine closeL_has r cs n ?_
      rcases h with h | h
      · rcases List.mem_cons.mp h with q | q
        · cases q; simp at hk
        · exact .inl q
      · exact .inr h
theorem closeL_lookup {env : Env} {names : List (Str × NameKind)} {n : Str} {c : Addr} (h : (n, NameKind.free) ∈ names) (hc : env.cells.lookup n = some c) : (closeL env names []).lookup n = some c := by
  obtain ⟨a, ha⟩ := Option.isSome_iff_exists.mp (closeL_has (env := env) names [] n (.inl h))
  rcases closeL_mem names [] n a (lookup_mem ha) with q | q
  · cases q
  · rw [hc] at q; rw [ha, q]; rfl
end HQ
namespace HQ
open PySem PySem.W PySem.Calls PyProof.Rows PySem.Spec
variable [Gh]
section
variable {P : Prog} {K : Frag} {w : World} {h₀ : Heap} {c n : Nat} {Ω : Str → List V → Sto → Option (V × Sto)} {R : Evs}
variable {ρ ρ' : List Addr} {s s' : Shared} {σ σ' : Sto} {x : V} {A : Around} {E : Value → Shared → Prop} {env : Env} {F : Fm}

structure CompOk (out sc : Scope) (xs : List Str) : Prop where
  names : namesOk sc = true
  loc : ∀ x ∈ xs, localOk sc x = true
  kind : ∀ p ∈ sc.names, p.2 = .local ∨ p.2 = .globalImplicit ∨ (p.2 = .free ∧ (out.names.lookup p.1 = some .cell ∨ out.names.lookup p.1 = some .free))
theorem compOk_of {out sc : Scope} {xs : List Str} (h : compOk out sc xs = true) : CompOk out sc xs := by
  unfold compOk at h
  rw [Bool.and_eq_true, Bool.and_eq_true, List.all_eq_true, List.all_eq_true] at h
  refine ⟨h.1.1, h.1.2, fun p hp => ?_⟩
  have := h.2 p hp
  split at this
  · rename_i q; exact .inl q
  · rename_i q; exact .inr (.inl q)
  · rename_i q
    refine .inr (.inr ⟨q, ?_⟩)
    rw [look_lookup] at this
    split at this
    · exact .inl (by assumption)
    · exact .inr (by assumption)
    · cases this
  · cases this
theorem CompOk.noCells {out sc : Scope} {xs : List Str} (h : CompOk out sc xs) : NoCells sc := fun x e => by
  have := h.kind _ (lookup_mem e)
  rcases this with q | q | ⟨q, _⟩ <;> cases q

theorem comp_env {scope : Scope} {xs : List Str} (ok : CompOk F.scope scope xs) (S : St w h₀ ρ σ s.heap) (X : FrOK h₀ ρ s.heap env F) {h₁ : Heap} {o : Obj} (hn : h₁.Ns s.heap.objs.size fun _ => Option.none) (hs : Heap.SameBut s.heap.objs.size (s.heap.push o) h₁) :
    FrOK h₀ ρ h₁ { newEnv scope s.heap.objs.size env.globals (closeL env scope.names []) env.qual Option.none .none (some env) builtinsNs with scope := relabel scope env } ⟨scope, freeOf scope F.vars⟩ ∧ ∀ b o', s.heap.get? b = some o' → h₁.get? b = some o' := by
  obtain ⟨hk, hN⟩ := namesOk_of ok.names
  obtain ⟨hnd, hnc⟩ := namesOk_nd ok.names
  have g : ∀ b o', s.heap.get? b = some o' → h₁.get? b = some o' := fun b o' e => (hs.2 b (Nat.ne_of_lt (Heap.lt_size e))).trans (grow _ _ _ _ e)
  have fr : ∀ {x : Str} {v : V}, look x (freeOf scope F.vars) = some v → scope.names.lookup x = some .free ∧ look x F.vars = some v := fun e => by
    obtain ⟨h1, h2⟩ := look_free e
    exact ⟨(hN _ h1).2.2, h2⟩
  have up : ∀ {v : Value} {y : V}, RV ρ s.heap v y → RV ρ h₁ v y := fun r => r.push S g
  refine ⟨⟨hk, X.gl, X.bi, fun x h => ?_, fun x h => absurd h (ok.noCells x), fun x h => ?_, fun x h => ?_, hnd, hnc, fun x v h => .inr (.inr (fr h).1), ⟨_, hn, fun x v h1 h2 => ?_⟩, fun x h => ?_, fun x y c h => absurd h (ok.noCells x), fun m => ?_, S.fresh (fresh_none _), fun x c h => absurd h (ok.noCells x)⟩, g⟩
  · have := lookup_relabel (env := env) h
    exact this
  · have := lookup_relabel (env := env) h
    show Env.kindOf _ x = some .cell ∨ Env.kindOf _ x = some .free
    have e : Env.kindOf { newEnv scope s.heap.objs.size env.globals (closeL env scope.names []) env.qual Option.none .none (some env) builtinsNs with scope := relabel scope env } x = _ := this
    rw [e]
    split
    · exact .inl rfl
    · exact .inr rfl
  · have := lookup_relabel (env := env) h
    exact this
  · rw [(fr h2).1] at h1; cases h1
  · have hf : scope.names.lookup x = some .free := h.resolve_left (ok.noCells x)
    have hm := lookup_mem hf
    have hout : F.scope.names.lookup x = some .cell ∨ F.scope.names.lookup x = some .free := by
      rcases ok.kind _ hm with q | q | ⟨_, q⟩
      · cases q
      · cases q
      · exact q
    obtain ⟨c, v₀, hc, ⟨o', eo, hd⟩, hn', hv⟩ := X.cells x hout
    exact ⟨c, v₀, closeL_lookup hm hc, ⟨o', g _ _ eo, hd⟩, hn', fun v h2 => let ⟨val, h3, h4⟩ := hv v (fr h2).2; ⟨val, h3, up h4⟩⟩
  · obtain ⟨o', h1, _⟩ := S.mutR _ m
    exact absurd (Heap.lt_size h1) (Nat.lt_irrefl _)

/-- the frame of a comprehension, the loop, the end -/
theorem comp_block {e : Expr} {scope : Scope} {xs : List Str} {g0 : Comprehension} {gs : List Comprehension} {pos : Pos} {newAcc : Sem Value} {wv src : V} {m : Nat} {σ₁ : Sto} {cell : Cell} {vars' : Vars}
    (B : Base K h₀) (H : SO P K w h₀ c n R) (r : Room c n A) (ok : CompOk F.scope scope xs) (hns : noSet g0.iter = true) (hcl : clausesOf e = g0 :: gs)
    (h1 : R.e F g0.iter σ = some (wv, σ₁)) (h2 : startV σ₁ wv = some (src, m)) (S : St w h₀ ρ σ s.heap) (X : FrOK h₀ ρ s.heap env F)
    (acc : ∀ {ρ₂ : List Addr} {s₂ : Shared} {Q : Value → Shared → Prop}, St w h₀ ρ₂ σ₁ s₂.heap → (∀ D s₃, Step NoO ρ₂ s₂ (ρ₂ ++ [D]) s₃ → St w h₀ (ρ₂ ++ [D]) (appF σ₁ [cell]) s₃.heap → Q (.ref D) s₃) → wpAny (model prog w) A newAcc Q E s₂)
    (loop : ∀ {Rr : Result → Shared → Prop} {ρ0 : List Addr} {s0 : Shared} {cenv : Env} {I D : Addr} {ρ₃ : List Addr} {s₃ : Shared}, s0.heap.get? I = Option.none → s0.heap.get? cenv.locals = Option.none → h₀.get? I = Option.none →
      (∀ ρ' s', Step NoO ρ0 s0 ρ' s' → St w h₀ ρ' σ' s'.heap → FrOK h₀ ρ' s'.heap cenv ⟨scope, vars'⟩ → ρ'[(lenF σ₁)]? = some D → Rr (.ok .next) s') →
      St w h₀ ρ₃ (appF σ₁ [cell]) s₃.heap → FrOK h₀ ρ₃ s₃.heap cenv ⟨scope, freeOf scope F.vars⟩ → IT ρ₃ s₃.heap I m 0 src → I ∉ ρ₃ → ρ₃[(lenF σ₁)]? = some D → Step NoO ρ0 s0 ρ₃ s₃ → codeAny (model prog w) A (.compStart e 0 (.ref I) (.ref D) cenv) Rr s₃)
    {Q : Value → Shared → Prop} (k : Ret w h₀ ρ s σ' (.ref (lenF σ₁)) Q) :
    wpAny (model prog w) A (comprehension e scope env pos newAcc false (eval g0.iter env)) Q E s := by
  obtain ⟨hk, hN⟩ := namesOk_of ok.names
  have hclos := closure_eq (scope := scope) (env := env) fun p hp hf => by
    rcases ok.kind p hp with q | q | ⟨_, q⟩
    · rw [hf] at q; cases q
    · rw [hf] at q; cases q
    · obtain ⟨c, v₀, hc, _⟩ := X.cells p.1 q
      rw [hc]; rfl
  refine wpAny_comprehension_free (use := Option.none) hcl (noSet_of hns env) hclos hk (fun p hp hl => by rw [(hN p hp).2.2, hl]) ?_
  refine H.then h1 r S X fun u ρ₁ s₁ st₁ S₁ X₁ ru => ?_
  refine start_sound S₁ B.sys ru h2 fun I h' g hI I0 it => ?_
  have st₂ : Step NoO ρ₁ s₁ ρ₁ { s₁ with heap := h' } := step_ext' g
  have S₂ := S₁.ext g
  have X₂ := X₁.step0 S₁ st₂
  have nI : I ∉ ρ₁ := fun mm => by obtain ⟨o, e, _⟩ := S₁.mutR _ mm; rw [hI] at e; cases e
  refine acc (s₂ := { s₁ with heap := h' }) S₂ fun D s₃ st₃ S₃ => ?_
  have X₃ := X₂.step0 S₂ st₃
  have it₃ := it.step (s := { s₁ with heap := h' }) S₂ st₃ (mutO_no _) nI (fun q => q)
  have nI₃ : I ∉ ρ₁ ++ [D] := by obtain ⟨o, eo, _⟩ := it.obj; exact st₃.mem (s := { s₁ with heap := h' }) eo nI
  refine wpAny_newFunctionEnv (fun p hp => ?_) (by intro y hy; simp at hy) (fun h₁ hns₁ hsb₁ => ?_) hk
  · rcases ok.kind p hp with q | q | ⟨q, _⟩ <;> rw [q] <;> decide
  obtain ⟨X₄, g₄⟩ := comp_env ok S₃ X₃ (show h₁.Ns s₃.heap.objs.size fun _ => Option.none from hns₁) hsb₁
  have st₄ : Step NoO (ρ₁ ++ [D]) s₃ (ρ₁ ++ [D]) { s₃ with heap := h₁, toks := s₃.toks + ([] : List (Str × Value)).length } := step_ext g₄
  have S₄ := S₃.ext g₄
  have it₄ := it₃.step S₃ st₄ (mutO_no _) nI₃ (fun q => q)
  have hC0 : s₁.heap.get? s₃.heap.objs.size = Option.none := by
    cases q : s₁.heap.get? s₃.heap.objs.size with
    | none => rfl
    | some o =>
      obtain ⟨o', e'⟩ := (st₂.trans st₃).alive _ o q
      exact absurd (Heap.lt_size e') (Nat.lt_irrefl _)
  have qD : (ρ₁ ++ [D])[(lenF σ₁)]? = some D := by rw [← S₁.lenF]; simp
  refine loop (ρ0 := ρ₁) (s0 := s₁) (D := D) (s₃ := { s₃ with heap := h₁, toks := s₃.toks + ([] : List (Str × Value)).length }) hI hC0 I0 (fun ρ' s' st' S' X' qe => ?_) S₄ X₄ it₄ nI₃ qD ((st₂.trans st₃).trans st₄)
  obtain ⟨mm, hn', _⟩ := X'.ns
  refine ⟨mm, hn', fun h'' hs'' => ?_⟩
  have bt : ButI s₃.heap.objs.size s'.heap h'' := fun b o ne e => (hs''.2 b ne).trans e
  have mo : MutO (Only s₃.heap.objs.size) s'.heap := mutO_only (ns_obj hn')
  exact k _ ρ' _ (st₁.trans (st'.last (tk := s'.toks) bt hC0)) (S'.but bt X'.lr mo X'.l0) (.ref qe)

theorem acc_list {E : Value → Shared → Prop} {ρ₂ : List Addr} {s₂ : Shared} {σ₁ : Sto} {Q : Value → Shared → Prop} (S : St w h₀ ρ₂ σ₁ s₂.heap) (k : ∀ D s₃, Step NoO ρ₂ s₂ (ρ₂ ++ [D]) s₃ → St w h₀ (ρ₂ ++ [D]) (appF σ₁ [.list []]) s₃.heap → Q (.ref D) s₃) : wpAny (model prog w) A (newList []) Q E s₂ := by
  have g := grow s₂.heap { cls := .type "list", data := .seq ([] : List Value).toArray }
  have f := fresh_none s₂.heap
  refine wpAny_newList (k _ _ (step_push (tk := s₂.toks) g f) (S.push g f (Nat.le_refl _) ⟨[], ⟨0, Heap.get?_push_size _ rfl⟩, .nil⟩))
theorem acc_dict {E : Value → Shared → Prop} {ρ₂ : List Addr} {s₂ : Shared} {σ₁ : Sto} {Q : Value → Shared → Prop} (S : St w h₀ ρ₂ σ₁ s₂.heap) (k : ∀ D s₃, Step NoO ρ₂ s₂ (ρ₂ ++ [D]) s₃ → St w h₀ (ρ₂ ++ [D]) (appF σ₁ [.dict []]) s₃.heap → Q (.ref D) s₃) : wpAny (model prog w) A newDict Q E s₂ := by
  obtain ⟨h1, h2⟩ := new_dict S
  simp only [newDict, newObj]
  exact wpAny_bind (wpAny_alloc (wpAny_pure (k _ _ h2 h1)))
end
end HQ
namespace HQ
open PySem PySem.W PySem.Calls PyProof.Rows PySem.Spec
variable [Gh]
section
variable {P : Prog} {K : Frag} {w : World} {h₀ : Heap} {c n : Nat} {Ω : Str → List V → Sto → Option (V × Sto)} {R : Evs}
variable {ρ ρ' : List Addr} {s s' : Shared} {σ σ' : Sto} {x : V} {A : Around} {E : Value → Shared → Prop} {env : Env} {F : Fm}

theorem not_not_and {a b : Bool} (h : ¬ (!(a && b)) = true) : a = true ∧ b = true := by
  cases a <;> cases b <;> simp at h <;> exact ⟨rfl, rfl⟩

theorem listcomp_sound (B : Base K h₀) (H : SO P K w h₀ c n R) {elt : Expr} {gens : List Comprehension} {scope : Scope} {pos : Pos} (e : evE P Ω R F (.ListComp elt gens scope pos) σ = some (x, σ')) (r : Room c (n + 1) A) (S : St w h₀ ρ σ s.heap) (X : FrOK h₀ ρ s.heap env F) {Q : Value → Shared → Prop} (k : Ret w h₀ ρ s σ' x Q) :
    wpAny (model prog w) A (eval (.ListComp elt gens scope pos) env) Q E s := by
  obtain ⟨fsc, fvars⟩ := F
  (unfold evE cE at e; try dsimp only at e)
  split at e
  · rename_i y py it ifs
    dsimp only at e
    split at e
    · cases e
    rename_i hg
    obtain ⟨hok, hns⟩ := not_not_and hg
    have ok := compOk_of hok
    split at e
    · rename_i wv σ₁ h1
      split at e
      · rename_i src m h2
        split at e
        · cases e
        rename_i hf
        simp only [Bool.not_eq_true', Bool.not_eq_false] at hf
        split at e
        · rename_i vars' σ₂ h3
          cases e
          rw [eval_ListComp]
          refine comp_block (vars' := vars') (e := .ListComp elt [⟨.Name y py, it, ifs, 0⟩] scope pos) B H r.less ok hns rfl h1 h2 S X (fun S' k' => acc_list S' k') (fun hI hC I0 kk S₃ X₃ it₃ nI q st => ?_) k
          refine start_list rfl ?_ fun A' E' Q' kq => it_self it₃ hf kq
          refine compL_sound H r.less (ok.loc y (by simp)) ok.noCells I0 (fun h => turn_list1 h) hI (fun o eo => by rw [hC] at eo; cases eo) kk m 0 h3 S₃ X₃ it₃ nI q st
        · cases e
      · cases e
    · cases e
  · rename_i y py it z pz it2 ifs
    dsimp only at e
    split at e
    · cases e
    rename_i hg
    obtain ⟨hg, hns2⟩ := not_not_and hg
    rw [Bool.and_eq_true] at hg
    obtain ⟨hok, hns⟩ := hg
    have ok := compOk_of hok
    split at e
    · rename_i wv σ₁ h1
      split at e
      · rename_i src m h2
        split at e
        · cases e
        rename_i hf
        simp only [Bool.not_eq_true', Bool.not_eq_false] at hf
        split at e
        · rename_i vars' σ₂ h3
          cases e
          rw [eval_ListComp]
          refine comp_block (vars' := vars') (e := .ListComp elt [⟨.Name y py, it, [], 0⟩, ⟨.Name z pz, it2, ifs, 0⟩] scope pos) B H r.less ok hns rfl h1 h2 S X (fun S' k' => acc_list S' k') (fun hI hC I0 kk S₃ X₃ it₃ nI q st => ?_) k
          refine start_list rfl ?_ fun A' E' Q' kq => it_self it₃ hf kq
          refine compL2_sound B H r.less (ok.loc y (by simp)) (ok.loc z (by simp)) ok.noCells hns2 I0 hI (fun o eo => by rw [hC] at eo; cases eo) kk m 0 h3 S₃ X₃ it₃ nI q st
        · cases e
      · cases e
    · cases e
  · cases e

theorem dictcomp_sound (B : Base K h₀) (H : SO P K w h₀ c n R) {kx vx : Expr} {gens : List Comprehension} {scope : Scope} {pos : Pos} (e : evE P Ω R F (.DictComp kx vx gens scope pos) σ = some (x, σ')) (r : Room c (n + 1) A) (S : St w h₀ ρ σ s.heap) (X : FrOK h₀ ρ s.heap env F) {Q : Value → Shared → Prop} (k : Ret w h₀ ρ s σ' x Q) :
    wpAny (model prog w) A (eval (.DictComp kx vx gens scope pos) env) Q E s := by
  obtain ⟨fsc, fvars⟩ := F
  (unfold evE cE at e; try dsimp only at e)
  split at e
  · rename_i y py it
    dsimp only at e
    split at e
    · cases e
    rename_i hg
    obtain ⟨hok, hns⟩ := not_not_and hg
    have ok := compOk_of hok
    split at e
    · rename_i wv σ₁ h1
      split at e
      · rename_i src m h2
        split at e
        · cases e
        rename_i hf
        simp only [Bool.not_eq_true', Bool.not_eq_false] at hf
        split at e
        · rename_i vars' σ₂ h3
          cases e
          rw [arm_eval_DictComp]
          refine comp_block (vars' := vars') (e := .DictComp kx vx [⟨.Name y py, it, [], 0⟩] scope pos) B H r.less ok hns rfl h1 h2 S X (fun S' k' => acc_dict S' k') (fun hI hC I0 kk S₃ X₃ it₃ nI q st => ?_) k
          refine start_dict rfl ?_ fun A' E' Q' kq => it_self it₃ hf kq
          refine compD_sound H r.less (ok.loc y (by simp)) ok.noCells I0 (fun h => turn_dict1 h) hI (fun o eo => by rw [hC] at eo; cases eo) kk m 0 h3 S₃ X₃ it₃ nI q st
        · cases e
      · cases e
    · cases e
  · cases e
end
end HQ
end
section
set_option autoImplicit false
set_option linter.unusedSectionVars false
set_option linter.unusedVariables false
set_option linter.unusedSimpArgs false
set_option maxRecDepth 10000
namespace HQ
open PySem PySem.W PySem.Calls PyProof.Rows PySem.Spec
variable [Gh]

section
variable {prog : Program} {w : World} {A : Around} {R : Result → Shared → Prop} {E : Value → Shared → Prop} {s : Shared} {env : Env}

theorem turn_for {target : Expr} {it : Value} {body : List Stmt}
    (h : ∀ E, wpAny (model prog w) A (pyNext it) (fun r s₁ => match r with
      | none => R (.ok .next) s₁
      | some v => wpAny (model prog w) A (letOwnedTupleGo target it v) (fun _ s₂ => wpAny (model prog w) A (assign target env v) (fun _ s₃ => wpAny (model prog w) A (execs body env) (fun f s₄ => match f with
          | .next | .cont => codeAny (model prog w) A (.forLoop target it body [] env) R s₄
          | .brk => R (.ok .next) s₄
          | .ret v => R (.ok (.ret v)) s₄) E s₃) E s₂) E s₁) E s) :
    codeAny (model prog w) A (.forLoop target it body [] env) R s := by
  refine codeAny_of_tree ?_
  show wpAny _ A ((forTurn target it body [] env).onRaise (fun x => do noteFrame x env; theTreesLotGoes x)) _ _ s
  refine wpAny_noted ?_
  simp only [forTurn]
  refine wpAny_bind (wpAny_standAt (wpAny_bind (wpAny_onRaise (wpAny_mono (h _) (fun r s₁ h₁ => ?_) fun _ _ h' => wpAny_standAt h'))))
  cases r with
  | none => exact wpAny_pure (And.intro rfl (codeAny_block (wpAny_execs_nil h₁)))
  | some v =>
    refine wpAny_bind (wpAny_mono h₁ (fun _ s₂ h₂ => wpAny_bind (wpAny_mono h₂ (fun _ s₃ h₃ => wpAny_bind (wpAny_mono h₃ (fun f s₄ h₄ => ?_) fun _ _ h' => h')) fun _ _ h' => h')) fun _ _ h' => h')
    cases f with
    | next => exact wpAny_pure (And.intro rfl h₄)
    | cont => exact wpAny_pure (And.intro rfl h₄)
    | brk => exact wpAny_pure h₄
    | ret v => exact wpAny_pure h₄

theorem turn_while {test : Expr} {body : List Stmt}
    (h : ∀ E, wpAny (model prog w) A (isTrue test env (eval test env)) (fun b s₂ => if b = true then wpAny (model prog w) A (execs body env) (fun f s₄ => match f with
          | .next | .cont => codeAny (model prog w) A (.whileLoop test body [] env) R s₄
          | .brk => R (.ok .next) s₄
          | .ret v => R (.ok (.ret v)) s₄) E s₂
        else R (.ok .next) s₂) E s) :
    codeAny (model prog w) A (.whileLoop test body [] env) R s := by
  refine codeAny_of_tree ?_
  show wpAny _ A ((whileTurn test body [] env).onRaise (fun x => do noteFrame x env; theTreesLotGoes x)) _ _ s
  refine wpAny_noted ?_
  simp only [whileTurn]
  refine wpAny_bind (wpAny_mono (h _) (fun b s₂ h₂ => ?_) fun _ _ h' => h')
  cases b with
  | false =>
    rw [if_neg (by simp)] at h₂
    rw [if_neg (by simp)]
    exact wpAny_bind (wpAny_execs_nil (wpAny_pure h₂))
  | true =>
    rw [if_pos rfl] at h₂
    rw [if_pos rfl]
    refine wpAny_bind (wpAny_mono h₂ (fun f s₄ h₄ => ?_) fun _ _ h' => h')
    cases f with
    | next => exact wpAny_pure (And.intro rfl h₄)
    | cont => exact wpAny_pure (And.intro rfl h₄)
    | brk => exact wpAny_pure h₄
    | ret v => exact wpAny_pure h₄

theorem test_compare {l r : Expr} {op : CmpOp} {pos : Pos} {Q : Bool → Shared → Prop} (h : wpAny (model prog w) A (eval (.Compare l [op] [r] pos) env) (fun c s₁ => wpAny (model prog w) A (truthy c) Q E s₁) E s) :
    wpAny (model prog w) A (isTrue (.Compare l [op] [r] pos) env (eval (.Compare l [op] [r] pos) env)) Q E s := by
  intro Γ p hΓ
  have h' := h Γ p hΓ
  rw [isTrue_Compare1]
  rw [eval_Compare1] at h'
  simp only [Sem.wp_bind', Sem.wp_holding] at h' ⊢
  refine Sem.wp_mono _ Γ _ (fun a p₁ s₁ h₁ => Sem.wp_mono _ Γ _ (fun b p₂ s₂ h₂ => ?_) (fun _ _ _ x => x) _ _ h₁) (fun _ _ _ x => x) _ _ h'
  simp only [Sem.wp_cmd_standAt] at h₂ ⊢
  exact Sem.wp_mono _ Γ _ (fun c p₃ s₃ h₃ => h₃ Γ p₃ hΓ) (fun _ _ _ x => x) _ _ h₂
end

section
variable {P : Prog} {K : Frag} {w : World} {h₀ : Heap} {c n : Nat} {Ω : Str → List V → Sto → Option (V × Sto)} {R : Evs}
variable {ρ ρ' : List Addr} {s s' : Shared} {σ σ' : Sto} {x : V} {A : Around} {E : Value → Shared → Prop} {env : Env} {F : Fm}

theorem evE_sound (B : Base K h₀) (PO : ProgOK P K) (ΩO : ΩOK P K w h₀ c Ω) (H : SO P K w h₀ c n R) {ex : Expr} (e : evE P Ω R F ex σ = some (x, σ')) (r : Room c (n + 1) A) (S : St w h₀ ρ σ s.heap) (X : FrOK h₀ ρ s.heap env F) {Q : Value → Shared → Prop} (k : Ret w h₀ ρ s σ' x Q) :
    wpAny (model prog w) A (eval ex env) Q E s := by
  cases ex with
  | Constant cc k0 pos => exact const_sound e S k
  | Name id pos => exact name_sound e S X k
  | Tuple es k0 pos => exact tuple_sound H e r S X k
  | List es pos => exact list_sound H e r S X k
  | Dict ks vs pos => exact dict_sound H e r S X k
  | BinOp l op rr pos => exact binop_sound H e r S X k
  | UnaryOp op o pos => exact unary_sound H e r S X k
  | Compare l ops rs pos => exact compare_sound B H e r S X k
  | BoolOp op vs pos => exact bool_sound H e r S X k
  | Subscript o sl pos => exact subscript_sound H e r S X k
  | Attribute o a pos => exact attr_sound B PO ΩO e r S X k
  | Call f es ks pos => exact call_sound B PO ΩO H e r S X k
  | ListComp elt gens sc pos => exact listcomp_sound B H e r S X k
  | DictComp kx vx gens sc pos => exact dictcomp_sound B H e r S X k
  | _ => (unfold evE cE at e; try dsimp only at e); cases e

theorem testV_sound (H : SO P K w h₀ c n R) {ex : Expr} {b : Bool} (e : testV R F ex σ = some (b, σ')) (r : Room c n A) (S : St w h₀ ρ σ s.heap) (X : FrOK h₀ ρ s.heap env F) {Q : Bool → Shared → Prop} (k : RetB w h₀ ρ s σ' b Q) :
    wpAny (model prog w) A (eval ex env) (fun v s₁ => wpAny (model prog w) A (truthy v) Q E s₁) E s := by
  (unfold testV at e; try dsimp only at e)
  split at e
  · rename_i v σ₁ h1
    rw [Option.map_eq_some_iff] at e
    obtain ⟨b', hb, e⟩ := e
    cases e
    exact H.then h1 r S X fun u ρ₁ s₁ st₁ S₁ X₁ ru => truthy_sound S₁ ru hb (k.after st₁)
  · cases e

theorem evT_sound (H : SO P K w h₀ c n R) {ex : Expr} {b : Bool} (e : evT R F ex σ = some (b, σ')) (r : Room c (n + 1) A) (S : St w h₀ ρ σ s.heap) (X : FrOK h₀ ρ s.heap env F) {Q : Bool → Shared → Prop} (k : RetB w h₀ ρ s σ' b Q) :
    wpAny (model prog w) A (isTrue ex env (eval ex env)) Q E s := by
  (unfold evT cT at e; try dsimp only at e)
  split at e
  · split at e
    · rw [Option.map_eq_some_iff] at e
      obtain ⟨⟨q, σ₁⟩, h1, e⟩ := e
      cases e
      exact isTrue_not (H.t h1 r.less S X fun ρ₁ s₁ st₁ S₁ => k ρ₁ s₁ st₁ S₁)
    · cases e
  · rename_i op vs pos
    split at e
    · rename_i a b'
      dsimp only at e
      split at e
      · rename_i q σ₁ h1
        split at e
        · cases e
          refine isTrue_and (H.t h1 r.less S X fun ρ₁ s₁ st₁ S₁ => ?_)
          rw [if_neg (by simp)]
          exact k ρ₁ s₁ st₁ S₁
        · cases e
          refine isTrue_or (H.t h1 r.less S X fun ρ₁ s₁ st₁ S₁ => ?_)
          rw [if_pos rfl]
          exact k ρ₁ s₁ st₁ S₁
        · rename_i hn1 hn2
          cases op with
          | And =>
            refine isTrue_and (H.t h1 r.less S X fun ρ₁ s₁ st₁ S₁ => ?_)
            cases q with
            | false => exact absurd rfl (hn1 rfl)
            | true =>
              rw [if_pos rfl]
              refine isTrue_and (H.t e r.less S₁ (X.step0 S st₁) fun ρ₂ s₂ st₂ S₂ => ?_)
              cases b with
              | true => rw [if_pos rfl]; exact isTrue_and_nil (k ρ₂ s₂ (st₁.trans st₂) S₂)
              | false => rw [if_neg (by simp)]; exact k ρ₂ s₂ (st₁.trans st₂) S₂
          | Or =>
            refine isTrue_or (H.t h1 r.less S X fun ρ₁ s₁ st₁ S₁ => ?_)
            cases q with
            | true => exact absurd rfl (hn2 rfl)
            | false =>
              rw [if_neg (by simp)]
              refine isTrue_or (H.t e r.less S₁ (X.step0 S st₁) fun ρ₂ s₂ st₂ S₂ => ?_)
              cases b with
              | true => rw [if_pos rfl]; exact k ρ₂ s₂ (st₁.trans st₂) S₂
              | false => rw [if_neg (by simp)]; exact isTrue_or_nil (k ρ₂ s₂ (st₁.trans st₂) S₂)
      · cases e
    · cases e
  · exact isTrue_plain (testV_sound H e r.less S X k)
  · exact test_compare (testV_sound H e r.less S X k)
  · exact isTrue_plain (testV_sound H e r.less S X k)
  · cases e
end
end HQ
end
section
set_option autoImplicit false
set_option linter.unusedSectionVars false
set_option linter.unusedVariables false
set_option linter.unusedSimpArgs false
set_option maxRecDepth 10000
namespace HQ
open PySem PySem.W PySem.Calls PyProof.Rows PySem.Spec
variable [Gh]

section
variable {P : Prog} {K : Frag} {w : World} {h₀ : Heap} {c n : Nat} {Ω : Str → List V → Sto → Option (V × Sto)} {R : Evs}
variable {ρ ρ' : List Addr} {s s' : Shared} {σ σ' : Sto} {x : V} {A : Around} {E : Value → Shared → Prop} {env : Env} {sc : Scope} {vars vars' : Vars}

/-- how a store leaves the state -/
noncomputable def RetA (w : World) (h₀ : Heap) (ρ : List Addr) (s : Shared) (env : Env) (sc : Scope) (vars : Vars) (σ' : Sto) (Q : Unit → Shared → Prop) : Prop :=
  ∀ ρ' s', Step (Own env ⟨sc, vars⟩) ρ s ρ' s' → St w h₀ ρ' σ' s'.heap → FrOK h₀ ρ' s'.heap env ⟨sc, vars⟩ → Q () s'

theorem own_eq (v v' : Vars) : Own env ⟨sc, v⟩ = Own env ⟨sc, v'⟩ := rfl
theorem Step.noO {O : Addr → Prop} (x : Step NoO ρ s ρ' s') : Step O ρ s ρ' s' := x.weak fun _ q => q.elim

theorem names_sound : ∀ {ts : List Expr} {vs : List V} {us : List Value} {vars vars' : Vars} {ρ : List Addr} {s : Shared} {Q : Unit → Shared → Prop}, setNames sc vars ts vs = some vars' → St w h₀ ρ σ s.heap → FrOK h₀ ρ s.heap env ⟨sc, vars⟩ → RL ρ s.heap us vs →
    RetA w h₀ ρ s env sc vars' σ Q → wpAny (model prog w) A (assignInOrder ((assignEach ts env).map (·.2)) us) Q E s
  | [], [], us, vars, vars', ρ, s, Q, e, S, X, rl, k => by
    simp only [setNames] at e; cases e
    cases rl
    exact wpAny_assignInOrder_none (k ρ s Step.refl S X)
  | [], _ :: _, us, vars, vars', ρ, s, Q, e, S, X, rl, k => by simp [setNames] at e
  | t :: ts, [], us, vars, vars', ρ, s, Q, e, S, X, rl, k => by cases t <;> simp [setNames] at e
  | t :: ts, v :: vs, us, vars, vars', ρ, s, Q, e, S, X, rl, k => by
    cases t with
    | Name y py =>
      simp only [setNames] at e
      split at e
      · rename_i hok
        cases rl with
        | cons rv rl =>
        refine wpAny_assignInOrder_more (PyProof.Rows.assign_Name (store_var X S hok rv fun s₁ st₁ S₁ X₁ => ?_))
        exact names_sound e S₁ X₁ (st₁.rl S X.mutO rl) fun ρ₂ s₂ st₂ S₂ X₂ => k ρ₂ s₂ (st₁.trans st₂) S₂ X₂
      · cases e
    | _ => simp [setNames] at e

theorem names_plain : ∀ {ts : List Expr} {vs : List V} {vars vars' : Vars}, setNames sc vars ts vs = some vars' → (assignEach ts env).length = vs.length ∧ (assignEach ts env).findIdx? (·.1) = Option.none
  | [], [], _, _, _ => ⟨rfl, rfl⟩
  | [], _ :: _, _, _, e => by simp [setNames] at e
  | t :: ts, [], _, _, e => by cases t <;> simp [setNames] at e
  | t :: ts, v :: vs, vars, vars', e => by
    cases t with
    | Name y py =>
      simp only [setNames] at e
      split at e
      · obtain ⟨h1, h2⟩ := names_plain e
        refine ⟨by show (assignEach ts env).length + 1 = vs.length + 1; rw [h1], ?_⟩
        show List.findIdx? (·.1) ((false, _) :: assignEach ts env) = Option.none
        rw [List.findIdx?_cons, h2]; rfl
      · cases e
    | _ => simp [setNames] at e

theorem assign_sound (B : Base K h₀) (PO : ProgOK P K) (H : SO P K w h₀ c n R) {t : Expr} {v : V} {val : Value} (e : assignV P R ⟨sc, vars⟩ t v σ = some (vars', σ')) (r : Room c n A) (S : St w h₀ ρ σ s.heap) (X : FrOK h₀ ρ s.heap env ⟨sc, vars⟩) (rv : RV ρ s.heap val v) {Q : Unit → Shared → Prop}
    (k : RetA w h₀ ρ s env sc vars' σ' Q) : wpAny (model prog w) A (assign t env val) Q E s := by
  cases t with
  | Name y py =>
    (unfold assignV cA at e; try dsimp only at e)
    split at e
    · rename_i hok
      cases e
      exact PyProof.Rows.assign_Name (store_var X S hok rv fun s₁ st₁ S₁ X₁ => k ρ s₁ st₁ S₁ X₁)
    · cases e
  | Tuple ts k0 p =>
    (unfold assignV cA at e; try dsimp only at e)
    split at e
    · rename_i vs
      rw [Option.map_eq_some_iff] at e
      obtain ⟨vv, h1, e⟩ := e
      cases e
      cases rv with
      | @tup a us _ ht hr =>
      obtain ⟨hl, hst⟩ := names_plain (env := env) h1
      refine wpAny_assign_Tuple r.1 ht (by rw [hl, List.size_toArray, hr.length]) hst fun h' hb => ?_
      have g : ∀ b o, s.heap.get? b = some o → h'.get? b = some o := fun b o eo => hb b o (Nat.ne_of_lt (Heap.lt_size eo)) eo
      have st0 : Step NoO ρ s ρ { s with heap := h' } := step_ext' g
      exact names_sound h1 (S.ext g) (X.step0 S st0) (hr.push S g) fun ρ₂ s₂ st₂ S₂ X₂ => k ρ₂ s₂ (st0.noO.trans st₂) S₂ X₂
    · cases e
  | Attribute o a p =>
    (unfold assignV cA at e; try dsimp only at e)
    split at e
    · rename_i ci σ₁ h1
      split at e
      · rename_i kC d l h2
        split at e
        · rename_i hg
          cases e
          rw [Bool.and_eq_true, decide_eq_true_eq] at hg
          obtain ⟨I, hf⟩ := PO.iattr kC a hg.1
          rw [PySem.assign_Attribute]
          refine wpAny_bind (wpAny_holding (H.then h1 r S X fun u ρ₁ s₁ st₁ S₁ X₁ ru => wpAny_bind (wpAny_standAt ?_)))
          obtain ⟨ad, rfl, q⟩ := ref_of ru
          refine wpAny_bind (wpAny_holding (set_attr S₁ B q h2 hg.2 I hf (st₁.rv0 S rv) fun ρ₂ s₂ st₂ S₂ => wpAny_release ?_))
          exact k ρ₂ s₂ (st₁.trans st₂).noO S₂ (X₁.step0 S₁ st₂)
        · cases e
      · cases e
    · cases e
  | Subscript o i p =>
    (unfold assignV cA at e; try dsimp only at e)
    split at e
    · rename_i ci σ₁ h1
      split at e
      · rename_i kk σ₂ h2
        rw [PySem.assign_Subscript]
        refine wpAny_bind (wpAny_holding (H.then h1 r S X fun u ρ₁ s₁ st₁ S₁ X₁ ru => ?_))
        refine wpAny_bind (wpAny_holding (H.then h2 r S₁ X₁ fun u' ρ₂ s₂ st₂ S₂ X₂ ru' => wpAny_bind (wpAny_standAt ?_)))
        obtain ⟨ad, rfl, q⟩ := ref_of ru
        obtain ⟨tk, rfl⟩ := int_of ru'
        have q₂ := prefix_get st₂.pre q
        have rv₂ := st₂.rv0 S₁ (st₁.rv0 S rv)
        split at e
        · rename_i l hc
          rw [Option.map_eq_some_iff] at e
          obtain ⟨m, hm, e⟩ := e
          cases e
          refine wpAny_bind (wpAny_holding (setList_sound S₂ q₂ hc hm rv₂ fun ρ₃ s₃ st₃ S₃ => wpAny_release ?_))
          exact k ρ₃ s₃ ((st₁.trans st₂).trans st₃).noO S₃ (X₂.step0 S₂ st₃)
        · rename_i l hc
          split at e
          · cases e
            refine wpAny_bind (wpAny_holding (setDict_sound S₂ q₂ hc (by assumption) rv₂ fun ρ₃ s₃ st₃ S₃ => wpAny_release ?_))
            exact k ρ₃ s₃ ((st₁.trans st₂).trans st₃).noO S₃ (X₂.step0 S₂ st₃)
          · cases e
        · cases e
      · cases e
    · cases e
  | _ => (unfold assignV cA at e; try dsimp only at e); cases e

/-- the targets of an assignment -/
theorem noStar_each : ∀ {ts : List Expr} {v : V} {σ σ' : Sto} {vars vars' : Vars}, assignAllV P R ⟨sc, vars⟩ ts v σ = some (vars', σ') → (assignEach ts env).map (·.2) = ts.map fun t => assign t env
  | [], _, _, _, _, _, _ => rfl
  | t :: r, v, σ, σ', vars, vars', e => by
    simp only [assignAllV] at e
    split at e
    · rename_i vv σ₁ h1
      have ih := noStar_each e
      cases t <;> first | (exfalso; (unfold assignV at h1; try dsimp only at h1); cases h1; done) | (show _ :: (assignEach r env).map (·.2) = _ :: _; rw [ih])
    · cases e

theorem assigns_sound (B : Base K h₀) (PO : ProgOK P K) (H : SO P K w h₀ c n R) (r : Room c n A) : ∀ {ts : List Expr} {v : V} {val : Value} {σ σ' : Sto} {vars vars' : Vars} {ρ : List Addr} {s : Shared} {Q : Unit → Shared → Prop}, assignAllV P R ⟨sc, vars⟩ ts v σ = some (vars', σ') → St w h₀ ρ σ s.heap → FrOK h₀ ρ s.heap env ⟨sc, vars⟩ → RV ρ s.heap val v →
    RetA w h₀ ρ s env sc vars' σ' Q → wpAny (model prog w) A (assignAll val (ts.map fun t => assign t env)) Q E s
  | [], v, val, σ, σ', vars, vars', ρ, s, Q, e, S, X, rv, k => by
    simp only [assignAllV] at e; cases e
    exact wpAny_pure (k ρ s Step.refl S X)
  | [t], v, val, σ, σ', vars, vars', ρ, s, Q, e, S, X, rv, k => by
    simp only [assignAllV] at e
    split at e
    · rename_i vv σ₁ h1
      cases e
      exact assign_sound B PO H h1 r S X rv k
    · cases e
  | t :: t' :: r', v, val, σ, σ', vars, vars', ρ, s, Q, e, S, X, rv, k => by
    rw [assignAllV] at e
    split at e
    · rename_i vv σ₁ h1
      show wpAny _ A (do holding [val] (assign t env val); assignAll val ((t' :: r').map fun t => assign t env)) Q E s
      refine wpAny_bind (wpAny_holding (assign_sound B PO H h1 r S X rv fun ρ₁ s₁ st₁ S₁ X₁ => ?_))
      exact assigns_sound B PO H r e S₁ X₁ (st₁.rv S X.mutO rv) fun ρ₂ s₂ st₂ S₂ X₂ => k ρ₂ s₂ (st₁.trans st₂) S₂ X₂
    · cases e

theorem for_sound (B : Base K h₀) (PO : ProgOK P K) (H : SO P K w h₀ c n R) {t : Expr} {body : List Stmt} {src : V} {I : Addr} {m : Nat} (r : Room c n A) (I0 : h₀.get? I = Option.none) {Rr : Result → Shared → Prop} {ρ0 : List Addr} {s0 : Shared} {fl : Fl} (hI : s0.heap.get? I = Option.none)
    (k : ∀ f ρ' s', Step (Own env ⟨sc, vars'⟩) ρ0 s0 ρ' s' → St w h₀ ρ' σ' s'.heap → FrOK h₀ ρ' s'.heap env ⟨sc, vars'⟩ → FlR ρ' s'.heap f fl → Rr (.ok f) s') :
    ∀ (q i : Nat) {vars : Vars} {ρ : List Addr} {s : Shared} {σ : Sto}, forL P R t body src m q i ⟨sc, vars⟩ σ = some (fl, vars', σ') → St w h₀ ρ σ s.heap → FrOK h₀ ρ s.heap env ⟨sc, vars⟩ → IT ρ s.heap I m i src → I ∉ ρ → Step (Own env ⟨sc, vars⟩) ρ0 s0 ρ s →
      codeAny (model prog w) A (.forLoop t (.ref I) body [] env) Rr s
  | 0, i, vars, ρ, s, σ, e, S, X, it, nI, st => by
    simp only [forL] at e
    split at e
    · rename_i hnx
      cases e
      refine turn_for fun E => ?_
      have mo := mutO_only it.obj
      have nl : env.locals ≠ I := by obtain ⟨mm, hns, _⟩ := X.ns; exact it.ne_ns hns
      have ncl : ∀ x c v, env.cells.lookup x = some c → s.heap.IsCell c v → c ≠ I := fun x c v _ hi => it.ne_cell hi
      refine next_sound S r.1 it hnx (fun y v h' tk hr => by cases hr) (fun h' tk hr bt => ?_)
      exact k _ ρ _ (st.last bt hI) (S.but bt nI mo I0) (X.but S bt mo nl ncl) .next
    · cases e
  | q + 1, i, vars, ρ, s, σ, e, S, X, it, nI, st => by
    simp only [forL] at e
    split at e
    · cases e
    rename_i hf
    simp only [Bool.not_eq_true', Bool.not_eq_false] at hf
    split at e
    · rename_i yv hnx
      refine turn_for fun E => ?_
      have mo := mutO_only it.obj
      have nl : env.locals ≠ I := by obtain ⟨mm, hns, _⟩ := X.ns; exact it.ne_ns hns
      have ncl : ∀ x c v, env.cells.lookup x = some c → s.heap.IsCell c v → c ≠ I := fun x c v _ hi => it.ne_cell hi
      refine next_sound S r.1 it hnx (fun y v h' tk hr bt rv ito => ?_) (fun h' tk hr => by cases hr)
      cases hr
      have al : ∃ o, h'.get? I = some o := let ⟨o, e, _⟩ := ito.obj; ⟨o, e⟩
      have S₁ := S.but bt nI mo I0
      have X₁ := X.but S bt mo nl ncl
      have st₁ : Step (Own env ⟨sc, vars⟩) ρ0 s0 ρ { s with heap := h', toks := tk } := st.hide (step_but bt al) fun b o q eb => by cases q; rw [hI] at eb; cases eb
      -- the tuple that the iterator owned goes
      have mo1 : MutO (Only I) h' := mutO_only ito.obj
      refine wpAny_mono (Q := fun _ s₂ => ∃ h₂, s₂ = { s with heap := h₂, toks := tk } ∧ ButI I h' h₂ ∧ IT ρ h₂ I m (i + 1) src) ?_ (fun _ s₂ hs₂ => ?_) (fun _ _ x => x)
      · cases t with
        | Name z pz => exact wpAny_pure ⟨h', rfl, fun _ _ _ e => e, ito.it hf⟩
        | Tuple ts k0 p => exact letGo_tup (s := { s with heap := h', toks := tk }) ito fun h₂ b2 it2 => ⟨h₂, rfl, b2, it2⟩
        | _ => simp [fitT] at hf
      obtain ⟨h₂, rfl, b2, it₂⟩ := hs₂
      have al2 : ∃ o, h₂.get? I = some o := let ⟨o, e, _⟩ := it₂.obj; ⟨o, e⟩
      have st₂a : Step (Only I) ρ { s with heap := h', toks := tk } ρ { s with heap := h₂, toks := tk } := step_but (s := { s with heap := h', toks := tk }) (tk := tk) b2 al2
      have S₂ := S₁.but b2 nI mo1 I0
      have nl2 : env.locals ≠ I := nl
      have ncl2 : ∀ x c v, env.cells.lookup x = some c → Heap.IsCell h' c v → c ≠ I := fun x c v _ hi => by
        obtain ⟨o, eo, hd⟩ := hi
        rintro rfl
        obtain ⟨o', fs, eo', hd'⟩ := it.fields
        obtain ⟨o2, e2, _, _⟩ := ito.obj
        rw [eo] at e2; cases e2
        -- a cell is no iterator
        have : ∃ o fs, h'.get? c = some o ∧ o.data = .fields fs := by
          cases src with
          | its cc => obtain ⟨_, _, _, _, _, _, e3⟩ := ito; exact ⟨_, _, e3, rfl⟩
          | _ => simp only [ITO] at ito; exact ito.fields
        obtain ⟨o3, fs3, e3, d3⟩ := this
        rw [eo] at e3; cases e3; rw [hd] at d3; cases d3
      have X₂ := X₁.but (s := { s with heap := h', toks := tk }) S₁ b2 mo1 nl2 ncl2
      have st₂ : Step (Own env ⟨sc, vars⟩) ρ0 s0 ρ { s with heap := h₂, toks := tk } := st₁.hide st₂a fun b o q eb => by cases q; rw [hI] at eb; cases eb
      have rv₂ : RV ρ h₂ v yv := rv.mono (List.prefix_refl _) (b2.kept ρ) S₁.mutR mo1 (fun _ m => .inl m)
      split at e
      · rename_i vars₁ σ₁ h1
        refine assign_sound B PO H h1 r (s := { s with heap := h₂, toks := tk }) S₂ X₂ rv₂ fun ρ₃ s₃ st₃ S₃ X₃ => ?_
        have nO : ¬ Own env ⟨sc, vars₁⟩ I := fun q => by
          rcases q with q | ⟨z, h1, h2⟩
          · exact nl q.symm
          · obtain ⟨c', v₀, hc, hi, _⟩ := X₂.cells z (.inl h1)
            rw [hc] at h2; cases h2
            exact it₂.ne_cell hi rfl
        have it₃ := it₂.step (s := { s with heap := h₂, toks := tk }) S₂ st₃ (show MutO (Own env ⟨sc, vars₁⟩) h₂ from (show MutO (Own env ⟨sc, vars⟩) h₂ from FrOK.mutO (s := { s with heap := h₂, toks := tk }) X₂)) nI nO
        have nI₃ : I ∉ ρ₃ := by obtain ⟨o, eo, _⟩ := it₂.obj; exact st₃.mem (s := { s with heap := h₂, toks := tk }) eo nI
        have st₃' : Step (Own env ⟨sc, vars⟩) ρ0 s0 ρ₃ s₃ := st₂.trans st₃
        split at e
        · rename_i vars₂ σ₂ h2
          refine H.ss h2 r S₃ X₃ fun f ρ₄ s₄ st₄ S₄ X₄ hfl => ?_
          cases hfl
          have nO₄ : ¬ Own env ⟨sc, vars₂⟩ I := nO
          have it₄ := it₃.step S₃ st₄ X₃.mutO nI₃ nO₄
          have nI₄ : I ∉ ρ₄ := by obtain ⟨o, eo, _⟩ := it₃.obj; exact st₄.mem eo nI₃
          exact for_sound B PO H r I0 hI k q (i + 1) e S₄ X₄ it₄ nI₄ (st₃'.trans st₄)
        · rename_i vars₂ σ₂ h2
          refine H.ss h2 r S₃ X₃ fun f ρ₄ s₄ st₄ S₄ X₄ hfl => ?_
          cases hfl
          have nO₄ : ¬ Own env ⟨sc, vars₂⟩ I := nO
          have it₄ := it₃.step S₃ st₄ X₃.mutO nI₃ nO₄
          have nI₄ : I ∉ ρ₄ := by obtain ⟨o, eo, _⟩ := it₃.obj; exact st₄.mem eo nI₃
          exact for_sound B PO H r I0 hI k q (i + 1) e S₄ X₄ it₄ nI₄ (st₃'.trans st₄)
        · rename_i vars₂ σ₂ h2
          cases e
          refine H.ss h2 r S₃ X₃ fun f ρ₄ s₄ st₄ S₄ X₄ hfl => ?_
          cases hfl
          exact k _ ρ₄ s₄ (st₃'.trans st₄) S₄ X₄ .next
        · rename_i hn1 hn2 hn3
          refine H.ss e r S₃ X₃ fun f ρ₄ s₄ st₄ S₄ X₄ hfl => ?_
          cases hfl with
          | next => exact absurd e (hn1 _ _)
          | brk => exact absurd e (hn3 _ _)
          | cont => exact absurd e (hn2 _ _)
          | ret rr => exact k _ ρ₄ s₄ (st₃'.trans st₄) S₄ X₄ (.ret rr)
      · cases e
    · cases e

theorem while_sound (H : SO P K w h₀ c n R) {test : Expr} {body : List Stmt} (r : Room c n A) {Rr : Result → Shared → Prop} {ρ0 : List Addr} {s0 : Shared} {fl : Fl}
    (k : ∀ f ρ' s', Step (Own env ⟨sc, vars'⟩) ρ0 s0 ρ' s' → St w h₀ ρ' σ' s'.heap → FrOK h₀ ρ' s'.heap env ⟨sc, vars'⟩ → FlR ρ' s'.heap f fl → Rr (.ok f) s') :
    ∀ (q : Nat) {vars : Vars} {ρ : List Addr} {s : Shared} {σ : Sto}, whileL R test body q ⟨sc, vars⟩ σ = some (fl, vars', σ') → St w h₀ ρ σ s.heap → FrOK h₀ ρ s.heap env ⟨sc, vars⟩ → Step (Own env ⟨sc, vars⟩) ρ0 s0 ρ s →
      codeAny (model prog w) A (.whileLoop test body [] env) Rr s
  | 0, vars, ρ, s, σ, e, S, X, st => by simp only [whileL] at e; cases e
  | q + 1, vars, ρ, s, σ, e, S, X, st => by
    simp only [whileL] at e
    split at e
    · rename_i σ₁ h1
      cases e
      refine turn_while fun E => H.t h1 r S X fun ρ₁ s₁ st₁ S₁ => ?_
      rw [if_neg (by simp)]
      exact k _ ρ₁ s₁ (st.trans st₁.noO) S₁ (X.step0 S st₁) .next
    · rename_i σ₁ h1
      refine turn_while fun E => H.t h1 r S X fun ρ₁ s₁ st₁ S₁ => ?_
      rw [if_pos rfl]
      have X₁ := X.step0 S st₁
      have st' : Step (Own env ⟨sc, vars⟩) ρ0 s0 ρ₁ s₁ := st.trans st₁.noO
      split at e
      · rename_i vars₂ σ₂ h2
        refine H.ss h2 r S₁ X₁ fun f ρ₄ s₄ st₄ S₄ X₄ hfl => ?_
        cases hfl
        exact while_sound H r k q e S₄ X₄ (st'.trans st₄)
      · rename_i vars₂ σ₂ h2
        refine H.ss h2 r S₁ X₁ fun f ρ₄ s₄ st₄ S₄ X₄ hfl => ?_
        cases hfl
        exact while_sound H r k q e S₄ X₄ (st'.trans st₄)
      · rename_i vars₂ σ₂ h2
        cases e
        refine H.ss h2 r S₁ X₁ fun f ρ₄ s₄ st₄ S₄ X₄ hfl => ?_
        cases hfl
        exact k _ ρ₄ s₄ (st'.trans st₄) S₄ X₄ .next
      · rename_i hn1 hn2 hn3
        refine H.ss e r S₁ X₁ fun f ρ₄ s₄ st₄ S₄ X₄ hfl => ?_
        cases hfl with
        | next => exact absurd e (hn1 _ _)
        | brk => exact absurd e (hn3 _ _)
        | cont => exact absurd e (hn2 _ _)
        | ret rr => exact k _ ρ₄ s₄ (st'.trans st₄) S₄ X₄ (.ret rr)
    · cases e
end
end HQ
end
section
set_option autoImplicit false
set_option linter.unusedSectionVars false
set_option linter.unusedVariables false
set_option linter.unusedSimpArgs false
set_option maxRecDepth 10000
namespace HQ
open PySem PySem.W PySem.Calls PyProof.Rows PySem.Spec
variable [Gh]

section
variable {P : Prog} {K : Frag} {w : World} {h₀ : Heap} {c n : Nat} {Ω : Str → List V → Sto → Option (V × Sto)} {R : Evs}
variable {ρ ρ' : List Addr} {s s' : Shared} {σ σ' : Sto} {x : V} {A : Around} {E : Value → Shared → Prop} {env : Env} {sc : Scope} {vars vars' : Vars}

theorem swaps_none {ts : List Expr} {v : Expr} {line : Nat} (h1 : ∀ a b c d, v ≠ .ListComp a b c d) (h2 : ∀ a b c d, v ≠ .SetComp a b c d) (h3 : ∀ a b c d e, v ≠ .DictComp a b c d e) : swapsWithSole ts v line env = pure false := by
  match ts with
  | [] => rfl
  | [t] =>
    show swapsWith v (some t) line env = pure false
    unfold swapsWith
    cases v <;> first | rfl | exact absurd rfl (h1 _ _ _ _) | exact absurd rfl (h2 _ _ _ _) | exact absurd rfl (h3 _ _ _ _ _)
  | _ :: _ :: _ => rfl
theorem stores_none {ts : List Expr} {v : Expr} (h1 : ∀ a b c d e f, ts = [.Tuple a b c] → v = .Tuple d e f → False) (h2 : ∀ a b d e f, ts = [.List a b] → v = .Tuple d e f → False) : swappedStores ts v env = pure Option.none := by
  unfold swappedStores
  split
  · rename_i ts' vs' hm
    exfalso
    split at hm
    · exact h1 _ _ _ _ _ _ rfl rfl
    · exact h2 _ _ _ _ _ rfl rfl
    · cases hm
  · rfl

theorem asg_sound (B : Base K h₀) (PO : ProgOK P K) (H : SO P K w h₀ c n R) {ts : List Expr} {v : Expr} {pos : Pos} {fl : Fl} (e : asgV P R ⟨sc, vars⟩ ts v σ = some (fl, vars', σ')) (r : Room c n A) (S : St w h₀ ρ σ s.heap) (X : FrOK h₀ ρ s.heap env ⟨sc, vars⟩)
    (hs : swapsWithSole ts v pos.line env = pure false) (hw : swappedStores ts v env = pure Option.none) {Q : Flow → Shared → Prop} (k : RetF w h₀ ρ s env sc vars' σ' fl Q) :
    wpAny (model prog w) A (exec (.Assign ts v pos) env) Q E s := by
  (unfold asgV at e; try dsimp only at e)
  split at e
  · rename_i y σ₁ h1
    rw [Option.map_eq_some_iff] at e
    obtain ⟨⟨vv, σ₂⟩, h2, e⟩ := e
    cases e
    refine wpAny_Assign_stores (H.then h1 r S X fun u ρ₁ s₁ st₁ S₁ X₁ ru => ?_) hs hw
    rw [noStar_each h2]
    exact assigns_sound B PO H r h2 S₁ X₁ ru fun ρ₂ s₂ st₂ S₂ X₂ => k _ ρ₂ s₂ (st₁.noO.trans st₂) S₂ X₂ .next
  · cases e

theorem localOk_lookup {x : Str} (h : localOk sc x = true) : sc.names.lookup x = some .local := localOk_of h

theorem plainAsg_ok {ts : List Expr} {v : Expr} (h : plainAsg ts v = true) : (∀ a b c d, v ≠ .ListComp a b c d) ∧ (∀ a b c d, v ≠ .SetComp a b c d) ∧ (∀ a b c d e, v ≠ .DictComp a b c d e) ∧
    (∀ a b c d e f, ts = [.Tuple a b c] → v = .Tuple d e f → False) ∧ (∀ a b d e f, ts = [.List a b] → v = .Tuple d e f → False) :=
  ⟨fun _ _ _ _ e => (by subst e; cases h), fun _ _ _ _ e => (by subst e; cases h), fun _ _ _ _ _ e => (by subst e; cases h), fun _ _ _ _ _ _ e1 e2 => (by subst e1; subst e2; cases h), fun _ _ _ _ _ e1 e2 => (by subst e1; subst e2; cases h)⟩
theorem tupForm_some {e : Expr} {l : List Expr} (h : tupForm e = some l) : ∃ k p, e = .Tuple l k p := by
  cases e <;> first | (cases h; exact ⟨_, _, rfl⟩) | cases h
theorem nameOf_some {e : Expr} {q : Str × Pos} (h : nameOf e = some q) : e = .Name q.1 q.2 := by
  cases e <;> first | (cases h; rfl) | cases h
theorem attrForm_some {e : Expr} (h : attrForm e = true) : ∃ o a p, e = .Attribute o a p := by
  cases e <;> first | exact ⟨_, _, _, rfl⟩ | cases h
theorem swapOf_some {ts : List Expr} {v : Expr} {a b : Str} {pa pb : Pos} (h : swapOf ts v = some (a, pa, b, pb)) :
    ∃ kt pt o1 a1 p1 o2 a2 p2 kv pv, ts = [.Tuple [.Name a pa, .Name b pb] kt pt] ∧ v = .Tuple [.Attribute o1 a1 p1, .Attribute o2 a2 p2] kv pv := by
  match ts, h with
  | [t], h =>
    dsimp only [swapOf] at h
    cases h1 : tupForm t with
    | none => rw [h1] at h; cases h
    | some l =>
      cases h2 : tupForm v with
      | none => rw [h1, h2] at h; cases h
      | some m =>
        cases h3 : pairOf l with
        | none => rw [h1, h2] at h; dsimp only at h; rw [h3] at h; cases h
        | some q =>
          cases h4 : pairOf m with
          | none => rw [h1, h2] at h; dsimp only at h; rw [h3, h4] at h; cases h
          | some u =>
            obtain ⟨n1, n2⟩ := q
            obtain ⟨w1, w2⟩ := u
            rw [h1, h2] at h; dsimp only at h; rw [h3, h4] at h; dsimp only at h
            by_cases h5 : (attrForm w1 && attrForm w2) = true
            · rw [if_pos h5] at h
              rw [Bool.and_eq_true] at h5
              cases h6 : nameOf n1 with
              | none => rw [h6] at h; cases h
              | some c =>
                cases h7 : nameOf n2 with
                | none => rw [h6, h7] at h; cases h
                | some d =>
                  rw [h6, h7] at h; cases h
                  obtain ⟨k1, p1, rfl⟩ := tupForm_some h1
                  obtain ⟨k2, p2, rfl⟩ := tupForm_some h2
                  obtain ⟨o1, a1, q1, rfl⟩ := attrForm_some h5.1
                  obtain ⟨o2, a2, q2, rfl⟩ := attrForm_some h5.2
                  rw [pairOf_some h3, pairOf_some h4, nameOf_some h6, nameOf_some h7]
                  exact ⟨_, _, _, _, _, _, _, _, _, _, rfl, rfl⟩
            · rw [if_neg h5] at h; cases h

theorem swapped_eq (X : FrOK h₀ ρ s.heap env ⟨sc, vars⟩) {a b : Str} {pa pb pt pv : Pos} {kt kv : Nat} {o1 o2 : Expr} {a1 a2 : Str} {p1 p2 : Pos} (ha : localOk sc a = true) (hb : localOk sc b = true) (hl : pa.line = pb.line) (hne : a ≠ b) :
    swappedStores [.Tuple [.Name a pa, .Name b pb] kt pt] (.Tuple [.Attribute o1 a1 p1, .Attribute o2 a2 p2] kv pv) env = pure (some [a, b]) := by
  have k1 : env.kindOf a = some .local := X.kl a (localOk_of ha)
  have k2 : env.kindOf b = some .local := X.kl b (localOk_of hb)
  have kb : env.blockKind = .function := by unfold Env.blockKind; rw [X.kind]; rfl
  unfold swappedStores
  have e1 : ([a, b] : List Str).eraseDups = [a, b] := by
    rw [List.eraseDups_cons]
    simp [hne.symm, List.eraseDups_cons]
  have hpb : (Expr.Name b pb).pos = pb := rfl
  have hpa : (Expr.Name a pa).pos = pa := rfl
  have f1 : ∀ (o : Expr) (a1 : Str) (p1 : Pos), foldedForSure 8 (.Attribute o a1 p1) = false := fun _ _ _ => rfl
  have f2 : ∀ (o : Expr) (a1 : Str) (p1 : Pos), constantsAlone 8 (.Attribute o a1 p1) = false := fun _ _ _ => rfl
  simp only [kb, k1, k2, List.length_cons, List.length_nil, List.head?_cons, Option.map_some, Option.getD_some, hpa, List.filterMap_cons, List.filterMap_nil, hl, beq_self_eq_true, Bool.and_self, if_true, e1, List.any_cons, List.any_nil, List.all_cons, List.all_nil, f1, f2]
  rfl

theorem swap_sound (H : SO P K w h₀ c n R) {a b : Str} {pa pb pt pv pos : Pos} {kt kv : Nat} {o1 o2 : Expr} {a1 a2 : Str} {p1 p2 : Pos} {fl : Fl}
    (e : (match R.e ⟨sc, vars⟩ (.Tuple [.Attribute o1 a1 p1, .Attribute o2 a2 p2] kv pv) σ with
          | some (w, σ) => (match asTup w with
            | some l => (match pairOf l with
              | some (x, y) => some (Fl.next, setv a x (setv b y vars), σ)
              | .none => .none)
            | .none => .none)
          | .none => .none) = some (fl, vars', σ')) (ha : localOk sc a = true) (hb : localOk sc b = true) (hl : pa.line = pb.line) (hne : a ≠ b) (r : Room c n A) (S : St w h₀ ρ σ s.heap) (X : FrOK h₀ ρ s.heap env ⟨sc, vars⟩) {Q : Flow → Shared → Prop} (k : RetF w h₀ ρ s env sc vars' σ' fl Q) :
    wpAny (model prog w) A (exec (.Assign [.Tuple [.Name a pa, .Name b pb] kt pt] (.Tuple [.Attribute o1 a1 p1, .Attribute o2 a2 p2] kv pv) pos) env) Q E s := by
  cases h1 : R.e ⟨sc, vars⟩ (.Tuple [.Attribute o1 a1 p1, .Attribute o2 a2 p2] kv pv) σ with
  | none => rw [h1] at e; cases e
  | some q =>
    obtain ⟨u, σ₁⟩ := q
    rw [h1] at e
    dsimp only at e
    cases h2 : asTup u with
    | none => rw [h2] at e; cases e
    | some l =>
      rw [h2] at e
      dsimp only at e
      cases h3 : pairOf l with
      | none => rw [h3] at e; cases e
      | some q =>
        obtain ⟨y, z⟩ := q
        rw [h3] at e
        cases e
        have h4 := pairOf_some h3
        subst h4
        have h5 := asTup_some h2
        subst h5
        refine Assign_Tuple_swapped (names := [a, b]) (H.then h1 r S X fun u ρ₁ s₁ st₁ S₁ X₁ ru => ?_) rfl (swapped_eq X ha hb hl hne)
        obtain ⟨ad, us, rfl, ht, hr⟩ := tup_of ru
        obtain ⟨v1, v2, rfl, r1, r2⟩ := hr.two
        refine wpAny_unpackItems_tuple (items := [v1, v2].toArray) r.1 ht fun h' hb' => ?_
        have g : ∀ b o, s₁.heap.get? b = some o → h'.get? b = some o := fun b o eo => hb' b o (Nat.ne_of_lt (Heap.lt_size eo)) eo
        have st0 : Step NoO ρ₁ s₁ ρ₁ { s₁ with heap := h' } := step_ext' g
        have S2 := S₁.ext g
        have X2 := X₁.step0 S₁ st0
        show wpAny _ A (assignInOrder [fun v => bindName env b v, fun v => bindName env a v] [v2, v1]) _ E _
        refine wpAny_assignInOrder_more (wpAny_bindName (store_var (s := { s₁ with heap := h' }) X2 S2 (store_of_local hb) (r2.push S₁ g) fun s₃ st₃ S₃ X₃ => ?_))
        refine wpAny_assignInOrder_more (wpAny_bindName (store_var X₃ S₃ (store_of_local ha) (st₃.rv (s := { s₁ with heap := h' }) S2 X2.mutO (r1.push S₁ g)) fun s₄ st₄ S₄ X₄ => ?_))
        exact wpAny_assignInOrder_none (k _ ρ₁ s₄ (((st₁.trans st0).noO.trans st₃).trans st₄) S₄ X₄ .next)

theorem evS_sound (B : Base K h₀) (PO : ProgOK P K) (H : SO P K w h₀ c n R) {st : Stmt} {fl : Fl} (e : evS P R ⟨sc, vars⟩ st σ = some (fl, vars', σ')) (r : Room c (n + 1) A) (S : St w h₀ ρ σ s.heap) (X : FrOK h₀ ρ s.heap env ⟨sc, vars⟩) {Q : Flow → Shared → Prop} (k : RetF w h₀ ρ s env sc vars' σ' fl Q) :
    wpAny (model prog w) A (exec st env) Q E s := by
  cases st with
  | Expr v pos =>
    (unfold evS cS at e; try dsimp only at e)
    split at e
    dsimp only at e
    · split at e
      · rename_i y σ₁ h1
        cases e
        refine wpAny_Expr_any (H.then h1 r.less S X fun u ρ₁ s₁ st₁ S₁ X₁ ru => k _ ρ₁ s₁ st₁.noO S₁ X₁ .next) (by unfold interactive; rw [X.kind]; rfl) rfl
      · cases e
    · cases e
  | Return o pos =>
    (unfold evS cS at e; try dsimp only at e)
    split at e
    · split at e
      · rename_i y σ₁ h1
        cases e
        exact wpAny_Return_some (H.then h1 r.less S X fun u ρ₁ s₁ st₁ S₁ X₁ ru => k _ ρ₁ s₁ st₁.noO S₁ X₁ (.ret ru))
      · cases e
    · cases e
  | Assign ts v pos =>
    (unfold evS cS at e; try dsimp only at e)
    by_cases hp : plainAsg ts v = true
    · rw [if_pos hp] at e
      obtain ⟨h1, h2, h3, h5, h6⟩ := plainAsg_ok hp
      exact asg_sound B PO H e r.less S X (swaps_none h1 h2 h3) (stores_none h5 h6) k
    · rw [if_neg hp] at e
      cases hs : swapOf ts v with
      | none => rw [hs] at e; cases e
      | some q =>
        obtain ⟨a, pa, b, pb⟩ := q
        rw [hs] at e
        dsimp only at e
        obtain ⟨kt, pt, o1, a1, p1, o2, a2, p2, kv, pv, rfl, rfl⟩ := swapOf_some hs
        by_cases hg : (localOk sc a && localOk sc b && pa.line == pb.line && a != b) = true
        · rw [if_pos hg] at e
          simp only [Bool.and_eq_true, beq_iff_eq, bne_iff_ne] at hg
          obtain ⟨⟨⟨ha, hb⟩, hl⟩, hne⟩ := hg
          exact swap_sound H e ha hb hl hne r.less S X k
        · rw [if_neg hg] at e; cases e
  | AugAssign t op v pos =>
    (unfold evS cS at e; try dsimp only at e)
    split at e
    · rename_i o y py pt
      dsimp only at e
      split at e
      · rename_i ci σ₁ h1
        split at e
        · rename_i kk σ₂ h2
          split at e
          · rename_i l h3
            split at e
            · rename_i old h4
              split at e
              · rename_i xv σ₃ h5
                split at e
                · rename_i l2 h6
                  split at e
                  · cases e
                    refine wpAny_AugAssign_Subscript (H.then h1 r.less S X fun u ρ₁ s₁ st₁ S₁ X₁ ru => H.then h2 r.less S₁ X₁ fun u' ρ₂ s₂ st₂ S₂ X₂ ru' => ?_)
                    obtain ⟨ad, rfl, q⟩ := ref_of ru
                    obtain ⟨tk, rfl⟩ := int_of ru'
                    have q₂ := prefix_get st₂.pre q
                    obtain ⟨kvs, hd, rd⟩ := S₂.ref (dictAt_some h3) q₂
                    have lk := rd.look kk
                    rw [h4] at lk
                    obtain ⟨ov, hv, rv⟩ := lk
                    obtain ⟨tk2, rfl⟩ := int_of rv
                    refine wpAny_getItem_of (knd := DK w) (k := kk) (by show (kk == kk) = true; simp) (Heap.DictAt.dictOf hd).mapOf hv ?_
                    have st3 : Step NoO ρ₂ s₂ ρ₂ { s₂ with toks := s₂.toks + 1 } := step_toks
                    refine H.then (s := { s₂ with toks := s₂.toks + 1 }) h5 r.less S₂ X₂ fun uv ρ₄ s₄ st₄ S₄ X₄ ru4 => ?_
                    obtain ⟨tk3, rfl⟩ := int_of ru4
                    refine PySem.P.iadd_int ?_
                    have st5 : Step NoO ρ₄ s₄ ρ₄ { s₄ with toks := s₄.toks + 1 } := step_toks
                    have q₄ := prefix_get st₄.pre q₂
                    refine setDict_sound (s := { s₄ with toks := s₄.toks + 1 }) S₄ q₄ (dictAt_some h6) (by assumption) (.int _ _) fun ρ₅ s₅ st₅ S₅ => ?_
                    have X₅ := X₄.step0 (s := { s₄ with toks := s₄.toks + 1 }) S₄ st₅
                    exact k _ ρ₅ s₅ (((((st₁.trans st₂).trans st3).trans st₄).trans st5).trans st₅).noO S₅ X₅ .next
                  · cases e
                · cases e
              · cases e
            · cases e
          · cases e
        · cases e
      · cases e
    · cases e
  | If test body orelse pos =>
    (unfold evS cS at e; try dsimp only at e)
    split at e
    · rename_i σ₁ h1
      refine wpAny_If (H.t h1 r.less S X fun ρ₁ s₁ st₁ S₁ => ?_)
      rw [if_pos rfl]
      exact H.ss e r.less S₁ (X.step0 S st₁) fun f ρ₂ s₂ st₂ S₂ X₂ hf => k f ρ₂ s₂ (st₁.noO.trans st₂) S₂ X₂ hf
    · rename_i σ₁ h1
      refine wpAny_If (H.t h1 r.less S X fun ρ₁ s₁ st₁ S₁ => ?_)
      rw [if_neg (by simp)]
      exact H.ss e r.less S₁ (X.step0 S st₁) fun f ρ₂ s₂ st₂ S₂ X₂ hf => k f ρ₂ s₂ (st₁.noO.trans st₂) S₂ X₂ hf
    · cases e
  | While test body orelse pos =>
    (unfold evS cS at e; try dsimp only at e)
    split at e
    · refine wpAny_While ?_
      exact while_sound H r.less (ρ0 := ρ) (s0 := s) (fun f ρ' s' st' S' X' hf => k f ρ' s' st' S' X' hf) 64 e S X Step.refl
    · cases e
  | For t it body orelse pos =>
    (unfold evS cS at e; try dsimp only at e)
    split at e
    · split at e
      · cases e
      rename_i hns
      simp only [Bool.not_eq_true', Bool.not_eq_false] at hns
      split at e
      · rename_i wv σ₁ h1
        split at e
        · rename_i src m h2
          refine wpAny_For (H.then h1 r.less S X fun u ρ₁ s₁ st₁ S₁ X₁ ru => start_sound S₁ B.sys ru h2 fun I h' g hI I0 it => ?_) (noSet_of hns env)
          have st₂ : Step NoO ρ₁ s₁ ρ₁ { s₁ with heap := h' } := step_ext' g
          have nI : I ∉ ρ₁ := fun mm => by obtain ⟨o, e, _⟩ := S₁.mutR _ mm; rw [hI] at e; cases e
          exact for_sound B PO H r.less I0 (ρ0 := ρ₁) (s0 := s₁) hI (fun f ρ' s' st' S' X' hf => k f ρ' s' (st₁.noO.trans st') S' X' hf) m 0 e (s := { s₁ with heap := h' }) (S₁.ext g) (X₁.step0 S₁ st₂) it nI st₂.noO
        · cases e
      · cases e
    · cases e
  | Break pos => (unfold evS cS at e; try dsimp only at e); cases e; exact wpAny_Break (k _ ρ s Step.refl S X .brk)
  | Continue pos => (unfold evS cS at e; try dsimp only at e); cases e; exact wpAny_Continue (k _ ρ s Step.refl S X .cont)
  | _ => (unfold evS cS at e; try dsimp only at e); cases e

theorem evSS_sound (H : SO P K w h₀ c n R) {st : List Stmt} {fl : Fl} (e : evSS R ⟨sc, vars⟩ st σ = some (fl, vars', σ')) (r : Room c (n + 1) A) (S : St w h₀ ρ σ s.heap) (X : FrOK h₀ ρ s.heap env ⟨sc, vars⟩) {Q : Flow → Shared → Prop} (k : RetF w h₀ ρ s env sc vars' σ' fl Q) :
    wpAny (model prog w) A (execs st env) Q E s := by
  cases st with
  | nil => (unfold evSS at e; try dsimp only at e); cases e; exact wpAny_execs_nil (k _ ρ s Step.refl S X .next)
  | cons t rest =>
    (unfold evSS at e; try dsimp only at e)
    split at e
    · rename_i vv σ₁ h1
      refine wpAny_execs_cons (H.s h1 r.less S X fun f ρ₁ s₁ st₁ S₁ X₁ hf => ?_)
      cases hf
      exact H.ss e r.less S₁ X₁ fun f ρ₂ s₂ st₂ S₂ X₂ hf => k f ρ₂ s₂ (st₁.trans st₂) S₂ X₂ hf
    · rename_i hne
      refine wpAny_execs_cons (H.s e r.less S X fun f ρ₁ s₁ st₁ S₁ X₁ hf => ?_)
      cases hf with
      | next => exact absurd e (hne _ _)
      | brk => exact k _ ρ₁ s₁ st₁ S₁ X₁ .brk
      | cont => exact k _ ρ₁ s₁ st₁ S₁ X₁ .cont
      | ret rr => exact k _ ρ₁ s₁ st₁ S₁ X₁ (.ret rr)
end
end HQ
end
section
set_option autoImplicit false
set_option linter.unusedSectionVars false
set_option linter.unusedVariables false
set_option linter.unusedSimpArgs false
set_option maxRecDepth 10000
namespace HQ
open PySem PySem.W PySem.Calls PyProof.Rows PySem.Spec
variable [Gh]

theorem bindP_some : ∀ {ps : List Str} {as : List V} {vars : Vars}, bindP ps as = some vars → ps.length = as.length ∧ vars = ps.zip as
  | [], [], _, e => by cases e; exact ⟨rfl, rfl⟩
  | [], _ :: _, _, e => by simp [bindP] at e
  | _ :: _, [], _, e => by simp [bindP] at e
  | p :: ps, a :: as, vars, e => by
    simp only [bindP, Option.map_eq_some_iff] at e
    obtain ⟨v, h1, rfl⟩ := e
    obtain ⟨h2, rfl⟩ := bindP_some h1
    exact ⟨by simp [h2], rfl⟩
theorem look_zip_mem {α : Type} : ∀ {ps : List Str} {as : List α} {x : Str} {v : α}, look x (ps.zip as) = some v → x ∈ ps
  | [], _, _, _, e => by simp [look_cons, look_nil] at e
  | _ :: _, [], _, _, e => by simp [look_cons, look_nil] at e
  | p :: ps, a :: as, x, v, e => by
    simp only [List.zip_cons_cons, look_cons, look_nil] at e
    split at e
    · rename_i h; subst h; exact List.mem_cons_self ..
    · exact List.mem_cons_of_mem _ (look_zip_mem e)

/-- what a call binds -/
theorem bindL_keep (kindOf : Str → Option NameKind) (x : Str) : ∀ (l : List (Str × Value)) (m : Str → Option Value), (∀ p ∈ l, p.1 ≠ x) → bindL kindOf l m x = m x
  | [], m, _ => rfl
  | (n, v) :: r, m, h => by
    unfold bindL
    rw [bindL_keep kindOf x r _ fun p hp => h p (List.mem_cons_of_mem _ hp)]
    have hne : ¬ x = n := fun e => h (n, v) (List.mem_cons_self ..) e.symm
    split
    · dsimp only; rw [if_neg hne]
    · rfl
theorem bindC_keep (kindOf : Str → Option NameKind) (x : Str) : ∀ (l : List (Str × Value)) (m : Str → Option Value), (∀ p ∈ l, p.1 ≠ x) → bindC kindOf l m x = m x
  | [], m, _ => rfl
  | (n, v) :: r, m, h => by
    unfold bindC
    rw [bindC_keep kindOf x r _ fun p hp => h p (List.mem_cons_of_mem _ hp)]
    have hne : ¬ x = n := fun e => h (n, v) (List.mem_cons_self ..) e.symm
    split
    · rfl
    · dsimp only; rw [if_neg hne]
theorem zip_fst {α β : Type} : ∀ {ps : List α} {vs : List β} {p : α × β}, p ∈ ps.zip vs → p.1 ∈ ps := fun h => (List.of_mem_zip h).1

theorem bindL_zip {ρ : List Addr} {h : Heap} (kindOf : Str → Option NameKind) {x : Str} {v : V} (hk : kindOf x = some .local) : ∀ {ps : List Str} {as : List V} {vs : List Value} (m : Str → Option Value), ps.Nodup → RL ρ h vs as → look x (ps.zip as) = some v → ∃ val, bindL kindOf (ps.zip vs) m x = some val ∧ RV ρ h val v
  | [], _, _, m, _, _, e => by simp [look_cons, look_nil] at e
  | p :: ps, _, _, m, nd, .nil, e => by simp [look_cons, look_nil] at e
  | p :: ps, _, _, m, nd, .cons (v := u) (x := a) (vs := us) (l := as) r rl, e => by
    simp only [List.zip_cons_cons, look_cons, look_nil] at e
    rw [List.nodup_cons] at nd
    show ∃ val, bindL kindOf ((p, u) :: ps.zip us) m x = some val ∧ _
    unfold bindL
    split at e
    · rename_i hx; subst hx; cases e
      rw [bindL_keep kindOf x _ _ fun q hq he => nd.1 (he ▸ zip_fst hq), if_pos hk]
      exact ⟨u, by simp, r⟩
    · exact bindL_zip kindOf hk _ nd.2 rl e
theorem bindC_zip {ρ : List Addr} {h : Heap} (kindOf : Str → Option NameKind) {x : Str} {v : V} (hk : kindOf x ≠ some .local) : ∀ {ps : List Str} {as : List V} {vs : List Value} (m : Str → Option Value), ps.Nodup → RL ρ h vs as → look x (ps.zip as) = some v → ∃ val, bindC kindOf (ps.zip vs) m x = some val ∧ RV ρ h val v
  | [], _, _, m, _, _, e => by simp [look_cons, look_nil] at e
  | p :: ps, _, _, m, nd, .nil, e => by simp [look_cons, look_nil] at e
  | p :: ps, _, _, m, nd, .cons (v := u) (x := a) (vs := us) (l := as) r rl, e => by
    simp only [List.zip_cons_cons, look_cons, look_nil] at e
    rw [List.nodup_cons] at nd
    show ∃ val, bindC kindOf ((p, u) :: ps.zip us) m x = some val ∧ _
    unfold bindC
    split at e
    · rename_i hx; subst hx; cases e
      rw [bindC_keep kindOf x _ _ fun q hq he => nd.1 (he ▸ zip_fst hq), if_neg hk]
      exact ⟨u, by simp, r⟩
    · exact bindC_zip kindOf hk _ nd.2 rl e

structure DefOK (d : FDef) : Prop where
  names : namesOk d.scope = true
  co : d.scope.isCoroutine = false
  gen : d.scope.isGenerator = false
  par : ∀ p ∈ d.params, storeOk d.scope p = true
  nd : (d.scope.names.map (·.1)).Nodup
  pd : d.params.Nodup
  kind : ∀ p ∈ d.scope.names, p.2 = .local ∨ p.2 = .cell ∨ p.2 = .globalImplicit
theorem defOk_of {d : FDef} (h : defOk d = true) : DefOK d := by
  unfold defOk at h
  simp only [Bool.and_eq_true, Bool.not_eq_true', List.all_eq_true, decide_eq_true_eq] at h
  obtain ⟨⟨⟨⟨⟨⟨h1, h2⟩, h3⟩, h4⟩, h5⟩, h6⟩, h7⟩ := h
  refine ⟨h1, h2, h3, h4, h5, h6, fun p hp => ?_⟩
  have := h7 p hp
  split at this
  · rename_i q; exact .inl q
  · rename_i q; exact .inr (.inl q)
  · rename_i q; exact .inr (.inr q)
  · cases this

section
variable {P : Prog} {K : Frag} {w : World} {h₀ : Heap} {c n : Nat} {Ω : Str → List V → Sto → Option (V × Sto)} {R : Evs}
variable {ρ ρ' : List Addr} {s s' : Shared} {σ σ' : Sto} {x : V} {A : Around} {E : Value → Shared → Prop}

theorem Room.deeper {A : Around} (r : Room c (n + 1) A) (env : Env) : Room c n (A.deeper env) := by
  refine ⟨r.1, ?_, ?_⟩
  · have h1 := r.2.1
    show A.depth + 1 + _ + _ ≤ _
    omega
  · have h1 := r.2.2
    show A.units + 3 + _ + _ ≤ _
    omega

/-- the frame of a call -/
theorem call_env {d : FDef} (ok : DefOK d) {as : List V} {vs : List Value} {vars : Vars} (hb : bindP d.params as = some vars) (S : St w h₀ ρ σ s.heap) (rl : RL ρ s.heap vs as) {env : Env} {qual : Str} {a : Option Addr} {code : Value}
    (he : env = newEnv d.scope s.heap.objs.size mainGlobals (cellsFrom (s.heap.objs.size + 1) d.scope.names []) qual a code Option.none builtinsNs) {s₁ : Shared}
    (x : InCallC s env.locals (bindL env.kindOf (d.params.zip vs) fun _ => Option.none) env.cells (bindC env.kindOf (d.params.zip vs) fun _ => Option.none) s₁) :
    FrOK h₀ ρ s₁.heap env ⟨d.scope, vars⟩ := by
  obtain ⟨hk, hN⟩ := namesOk_of ok.names
  obtain ⟨hnd, hnc⟩ := namesOk_nd ok.names
  obtain ⟨hlen, rfl⟩ := bindP_some hb
  have hL : env.locals = s.heap.objs.size := by rw [he]; rfl
  have hcl : env.cells = cellsFrom (s.heap.objs.size + 1) d.scope.names [] := by rw [he]; rfl
  have hsc : env.scope = d.scope := by rw [he]; rfl
  have hkind : ∀ y, env.kindOf y = d.scope.names.lookup y := fun y => by unfold Env.kindOf; rw [hsc]
  have g := x.toInCall.keep
  have rl' : RL ρ s₁.heap vs as := rl.push S g
  have fresh : ∀ {b : Addr}, s.heap.objs.size ≤ b → s.heap.get? b = Option.none := fun {b} hb => by
    cases q : s.heap.get? b with
    | none => rfl
    | some o => exact absurd (Heap.lt_size q) (Nat.not_lt.mpr hb)
  have notin : ∀ {b : Addr}, s.heap.objs.size ≤ b → b ∉ ρ := fun {b} hb m => by
    obtain ⟨o, e, _⟩ := S.mutR _ m
    rw [fresh hb] at e; cases e
  have noFree : ∀ y, d.scope.names.lookup y ≠ some .free := fun y e => by
    rcases ok.kind _ (lookup_mem e) with q | q | q <;> cases q
  have above : ∀ {y : Str} {b : Addr}, env.cells.lookup y = some b → s.heap.objs.size ≤ b := fun e => by
    have := x.above _ _ (lookup_mem e)
    rw [hL] at this
    exact Nat.le_of_lt this
  refine ⟨by rw [hsc]; exact hk, by rw [he]; rfl, by rw [he]; rfl, fun y h => by rw [hkind]; exact h, fun y h => by rw [hkind]; exact h, fun y h => absurd h (noFree y), fun y h => by rw [hkind]; exact h, hnd, hnc, fun y v h => ?_, ⟨_, x.toInCall.ns, fun y v h1 h2 => ?_⟩, fun y hy => ?_, fun y z b _ h1 h2 => ?_, ?_, ?_, fun y b _ h => S.fresh (fresh (above h))⟩
  · rcases storeOk_of (ok.par y (look_zip_mem h)) with q | q
    · exact .inl q
    · exact .inr (.inl q)
  · exact bindL_zip _ (by rw [hkind]; exact h1) _ ok.pd rl' h2
  · have hy : d.scope.names.lookup y = some .cell := hy.resolve_right (noFree y)
    obtain ⟨b, hb'⟩ := Option.isSome_iff_exists.mp (cellsFrom_some (x := y) d.scope.names (s.heap.objs.size + 1) [] (.inl hy))
    rw [← hcl] at hb'
    refine ⟨b, _, hb', x.cell y b hb', notin (above hb'), fun v h2 => ?_⟩
    exact bindC_zip _ (by rw [hkind, hy]; decide) _ ok.pd rl' h2
  · exact name_of_addr x.apart (lookup_mem h1) (lookup_mem h2)
  · rw [hL]; exact notin (Nat.le_refl _)
  · rw [hL]; exact S.fresh (fresh (Nat.le_refl _))

theorem evC_sound (B : Base K h₀) (H : SO P K w h₀ c n R) {d : FDef} {as : List V} {vs : List Value} (e : evC R d as σ = some (x, σ')) (fk : FnK K d) (r : Room c (n + 1) A) (S : St w h₀ ρ σ s.heap) (rl : RL ρ s.heap vs as) {Rr : Result → Shared → Prop} (k : RetC w h₀ ρ s σ' x Rr) :
    codeAny (model prog w) A (.call (.ref d.addr) ⟨vs, []⟩) Rr s := by
  have ok := defOk_of fk.ok
  obtain ⟨oc, od, fd, osl, hlk, h1, h2, h3, h4, h5, h6, h7⟩ := fk.obj
  have B' := S.base' B
  (unfold evC at e; try dsimp only at e)
  split at e
  · rename_i vars hb
    obtain ⟨hlen, hvars⟩ := bindP_some hb
    have hvl := rl.length
    refine codeAny_call_function (by have := r.2.1; omega) (B'.X _ _ hlk) rfl (by rw [h1]; exact ok.co) (by rw [h1]; exact ok.gen) h5 (codeRec_of B'.X h6) ?_
    rw [h7 vs (by omega)]
    refine wpAny_pure ?_
    rw [h1, h2, h3, h4]
    have hk := (namesOk_of ok.names).1
    refine wpAny_newFunctionEnv_cells hk (fun p hp => ?_) fun env he s₁ xc => ?_
    · rcases storeOk_of (ok.par p.1 (zip_fst hp)) with q | q
      · exact .inl q
      · exact .inr ⟨q, cellsFrom_some _ _ _ (.inl q)⟩
    · have X₁ := call_env ok hb S rl he xc
      have g := xc.toInCall.keep
      obtain ⟨h', tk, hs₁, _⟩ := xc.done
      have st₁ : Step NoO ρ s ρ s₁ := ⟨⟨h', tk, hs₁⟩, List.prefix_refl _, fun _ m => .inl m, fun b o e _ _ => g b o e, fun b o e => ⟨o, g b o e⟩⟩
      have S₁ := S.ext g
      refine ⟨(S₁.base' B).lim, codeAny_func ?_⟩
      have hidden : ∀ b o, Own env ⟨d.scope, vars⟩ b → s.heap.get? b = some o → NoO b := fun b o q eb => by
        have hlt := Heap.lt_size eb
        rcases q with rfl | ⟨y, _, hy⟩
        · exact absurd hlt (Nat.not_lt.mpr xc.toInCall.fresh)
        · have := xc.above _ _ (lookup_mem hy)
          exact absurd hlt (Nat.not_lt.mpr (Nat.le_of_lt (Nat.lt_of_le_of_lt xc.toInCall.fresh this)))
      split at e
      · rename_i y vv σ₂ h8
        cases e
        refine H.ss h8 (r.deeper env) S₁ X₁ fun f ρ₂ s₂ st₂ S₂ X₂ hf => ?_
        cases hf with
        | ret rr => exact k _ ρ₂ s₂ (st₁.hide st₂ hidden) S₂ rr
      · rename_i vv σ₂ h8
        cases e
        refine H.ss h8 (r.deeper env) S₁ X₁ fun f ρ₂ s₂ st₂ S₂ X₂ hf => ?_
        cases hf
        exact k _ ρ₂ s₂ (st₁.hide st₂ hidden) S₂ .none
      · cases e
  · cases e

/-- the evaluator is right -/
theorem ev_sound (B : Base K h₀) (PO : ProgOK P K) (ΩO : ΩOK P K w h₀ c Ω) : ∀ n, SO P K w h₀ c n (ev P Ω n)
  | 0 => ⟨(fun e => by simp [ev, Evs.none] at e), (fun _ e => by simp [ev, Evs.none] at e), (fun e => by simp [ev, Evs.none] at e), (fun e => by simp [ev, Evs.none] at e), (fun e => by simp [ev, Evs.none] at e), (fun e => by simp [ev, Evs.none] at e)⟩
  | n + 1 => by
    have H := ev_sound B PO ΩO n
    refine ⟨fun e r S X Q k => evE_sound B PO ΩO H e r S X k, fun pos e r S X Q k => evL_sound H pos e r S X k, fun e r S X Q k => evT_sound H e r S X k, ?_, ?_, fun e f r S rl Rr k => evC_sound B H e f r S rl k⟩
    · intro A E env F ρ s σ st fl vars σ' e r S X Q k
      obtain ⟨sc, vv⟩ := F
      exact evS_sound B PO H e r S X k
    · intro A E env F ρ s σ st fl vars σ' e r S X Q k
      obtain ⟨sc, vv⟩ := F
      exact evSS_sound H e r S X k
end
end HQ
end
section
set_option autoImplicit false
set_option linter.unusedSectionVars false
set_option linter.unusedVariables false
set_option linter.unusedSimpArgs false
set_option maxRecDepth 10000
namespace HQ
open PySem PySem.W PySem.Calls PyProof.Rows PySem.Spec

/-- values that name no cell, to a depth -/
noncomputable def pureV : Nat → V → Bool
  | 0, _ => false
  | n + 1, v => match v with
    | .none => true
    | .bool _ => true
    | .int _ => true
    | .str _ => true
    | .any _ => true
    | .tup l => l.all (pureV n)
    | _ => false
noncomputable def pureC : Cell → Bool
  | .list l => l.all (pureV 4)
  | .dict l => l.all fun p => pureV 4 p.2
  | _ => false
noncomputable def memN (c : Nat) (l : List Nat) : Bool := @List.rec Nat (fun _ => Bool) false (fun x _ ih => @Bool.rec (fun _ => Bool) ih true (Nat.beq c x)) l
/-- the arguments of a call, seen from a store that holds their cells alone -/
noncomputable def loadA (σ : Sto) : List V → Sto → List Nat → Option (List V × Sto × List Nat)
  | [], sub, cs => some ([], sub, cs)
  | a :: r, sub, cs => match a with
    | .ref c => if memN c cs = true then .none else (match getF σ c with
      | some x => if pureC x = true then (match loadA σ r (appF sub [x]) (appF cs [c]) with
        | some (as, q) => some (.ref (lenF sub) :: as, q)
        | .none => .none) else .none
      | .none => .none)
    | .lst l => if l.all (pureV 4) = true then (match loadA σ r sub cs with
      | some (as, q) => some (.lst l :: as, q)
      | .none => .none) else .none
    | v => if pureV 4 v = true then (match loadA σ r sub cs with
      | some (as, q) => some (v :: as, q)
      | .none => .none) else .none
/-- the cells written back -/
noncomputable def storeA (τ : Sto) : Nat → List Nat → Sto → Option Sto
  | _, [], σ => some σ
  | i, c :: r, σ => match getF τ i with
    | some x => if pureC x = true then storeA τ (i + 1) r (setF σ c x) else .none
    | .none => .none
noncomputable def backV (x : V) (τ : Sto) (cs : List Nat) (σ1 : Sto) : Option (V × Sto) := match x with
  | .ref j => (match getF cs j with
    | some c => some (.ref c, σ1)
    | .none => (match getF τ j with
      | some y => if pureC y = true then some (.ref (lenF σ1), appF σ1 [y]) else .none
      | .none => .none))
  | x => if pureV 4 x = true then some (x, σ1) else .none
noncomputable def frameV (R : Evs) (d : FDef) (as : List V) (σ : Sto) : Option (V × Sto) := match loadA σ as [] [] with
  | some (as', sub, cs) => (match R.c d as' sub with
    | some (x, τ) => (match storeA τ 0 cs σ with
      | some σ1 => backV x τ cs σ1
      | .none => .none)
    | .none => .none)
  | .none => .none

theorem memN_mem (c : Nat) : ∀ l : List Nat, memN c l = false → c ∉ l
  | [], _, m => by cases m
  | x :: r, h, m => by
    have h : @Bool.rec (fun _ => Bool) (memN c r) true (Nat.beq c x) = false := h
    cases hb : Nat.beq c x with
    | true => rw [hb] at h; cases h
    | false =>
      rw [hb] at h
      rcases List.mem_cons.mp m with e | m
      · exact Nat.ne_of_beq_eq_false hb e
      · exact memN_mem c r h m

section
variable [Gh]
theorem pureV_re {h : Heap} {ρ ρ' : List Addr} : ∀ (n : Nat) {v : Value} {x : V}, pureV n x = true → RV ρ h v x → RV ρ' h v x
  | 0, _, _, e, _ => by cases e
  | n + 1, v, x, e, r => by
    cases r with
    | none => exact .none
    | bool b => exact .bool b
    | int i t => exact .int i t
    | str s t => exact .str s t
    | @tup a us l ht hl =>
      have e2 := List.all_eq_true.mp (show l.all (pureV n) = true from e)
      refine .tup ht ?_
      clear ht e
      induction l generalizing us with
      | nil => cases hl; exact .nil
      | cons y l ih =>
        cases hl with
        | cons r1 r2 => exact .cons (pureV_re n (e2 y (List.mem_cons_self ..)) r1) (ih r2 fun z m => e2 z (List.mem_cons_of_mem _ m))
    | lst _ _ _ => cases e
    | ref _ => cases e
    | rng _ => cases e
    | its _ _ => cases e
    | any t e' hh => exact .any t e' hh
theorem pureL_re {h : Heap} {ρ ρ' : List Addr} {n : Nat} {l : List V} {us : List Value} (e : ∀ x ∈ l, pureV n x = true) (r : RL ρ h us l) : RL ρ' h us l := by
  induction l generalizing us with
  | nil => cases r; exact .nil
  | cons y l ih =>
    cases r with
    | cons r1 r2 => exact .cons (pureV_re n (e y (List.mem_cons_self ..)) r1) (ih (fun z m => e z (List.mem_cons_of_mem _ m)) r2)
theorem pureD_re {h : Heap} {ρ ρ' : List Addr} {n : Nat} {l : List (Int × V)} {us : List (Int × Value)} (e : ∀ x ∈ l, pureV n x.2 = true) (r : RD ρ h us l) : RD ρ' h us l := by
  induction l generalizing us with
  | nil => cases r; exact .nil
  | cons y l ih =>
    cases r with
    | cons r1 r2 => exact .cons (pureV_re n (e _ (List.mem_cons_self ..)) r1) (ih (fun z m => e z (List.mem_cons_of_mem _ m)) r2)
theorem pureC_re {w : World} {h : Heap} {ρ ρ' : List Addr} {a : Addr} {x : Cell} (e : pureC x = true) (r : RC w ρ h a x) : RC w ρ' h a x := by
  cases x with
  | list l =>
    obtain ⟨vs, hp, hr⟩ := r
    exact ⟨vs, hp, pureL_re (List.all_eq_true.mp (show l.all (pureV 4) = true from e)) hr⟩
  | dict l =>
    obtain ⟨vs, hp, hr⟩ := r
    exact ⟨vs, hp, pureD_re (n := 4) (List.all_eq_true.mp (show (l.all fun p => pureV 4 p.2) = true from e)) hr⟩
  | inst _ _ => cases e
  | attrs _ => cases e

/-- the addresses of chosen cells -/
noncomputable def rsOf (ρ : List Addr) (cs : List Nat) : List Addr := cs.map fun c => ρ.getD c 0
structure Sub (w : World) (ρ : List Addr) (σ : Sto) (h : Heap) (sub : Sto) (cs : List Nat) : Prop where
  nd : cs.Nodup
  lt : ∀ c ∈ cs, c < ρ.length
  len : sub.length = cs.length
  cell : ∀ (i : Nat) x c a, sub[i]? = some x → cs[i]? = some c → ρ[c]? = some a → pureC x = true ∧ RC w ρ h a x

theorem getD_at {ρ : List Addr} {c : Nat} {a : Addr} (q : ρ[c]? = some a) : ρ.getD c 0 = a := by rw [List.getD_eq_getElem?_getD, q]; rfl
theorem rsOf_get {ρ : List Addr} {cs : List Nat} {i c : Nat} {a : Addr} (h : cs[i]? = some c) (q : ρ[c]? = some a) : (rsOf ρ cs)[i]? = some a := by
  unfold rsOf; rw [List.getElem?_map, h]; show some (ρ.getD c 0) = _; rw [getD_at q]
theorem rsOf_mem {ρ : List Addr} {cs : List Nat} (lt : ∀ c ∈ cs, c < ρ.length) {a : Addr} (m : a ∈ rsOf ρ cs) : a ∈ ρ := by
  unfold rsOf at m
  obtain ⟨c, hc, rfl⟩ := List.mem_map.mp m
  have := lt c hc
  rw [getD_at (List.getElem?_eq_getElem this)]
  exact List.getElem_mem this

theorem Sub.snoc {w : World} {ρ : List Addr} {σ sub : Sto} {h : Heap} {cs : List Nat} (U : Sub w ρ σ h sub cs) {c : Nat} {x : Cell} {a : Addr} (hm : c ∉ cs) (q : ρ[c]? = some a) (px : pureC x = true) (r : RC w ρ h a x) : Sub w ρ σ h (sub ++ [x]) (cs ++ [c]) := by
  refine ⟨List.nodup_append.mpr ⟨U.nd, by simp, fun b hb c' hc' => by simp at hc'; subst hc'; exact fun e => hm (e ▸ hb)⟩, fun b hb => ?_, by simp [U.len], fun i y b d h1 h2 h3 => ?_⟩
  · rcases List.mem_append.mp hb with hb | hb
    · exact U.lt b hb
    · simp at hb; subst hb; exact (List.getElem?_eq_some_iff.mp q).1
  · by_cases hi : i < sub.length
    · rw [List.getElem?_append_left hi] at h1
      rw [List.getElem?_append_left (U.len ▸ hi)] at h2
      exact U.cell i y b d h1 h2 h3
    · have e1 := (List.getElem?_eq_some_iff.mp h1).1
      simp at e1
      have e2 : i = sub.length := by omega
      subst e2
      simp at h1
      rw [U.len] at h2
      simp at h2
      subst h1; subst h2
      rw [q] at h3; cases h3
      exact ⟨px, r⟩

theorem loadA_some {w : World} {h₀ h : Heap} {ρ : List Addr} {σ : Sto} (S : St w h₀ ρ σ h) {as : List V} : ∀ {vs : List Value} {sub : Sto} {cs : List Nat} {as' : List V} {sub' : Sto} {cs' : List Nat},
    loadA σ as sub cs = some (as', sub', cs') → RL ρ h vs as → Sub w ρ σ h sub cs → Sub w ρ σ h sub' cs' ∧ cs <+: cs' ∧ RL (rsOf ρ cs') h vs as' := by
  induction as with
  | nil =>
    intro vs sub cs as' sub' cs' e rl U
    cases e; cases rl
    exact ⟨U, List.prefix_refl _, .nil⟩
  | cons a r ih =>
    intro vs sub cs as' sub' cs' e rl U
    cases rl with
    | @cons v _ vs _ r1 r2 =>
    have plain : pureV 4 a = true → (match loadA σ r sub cs with | some (as, q) => some (a :: as, q) | .none => .none) = some (as', sub', cs') → Sub w ρ σ h sub' cs' ∧ cs <+: cs' ∧ RL (rsOf ρ cs') h (v :: vs) as' := by
      intro pa e
      cases h1 : loadA σ r sub cs with
      | none => rw [h1] at e; cases e
      | some q =>
        obtain ⟨as1, s1, c1⟩ := q
        rw [h1] at e; cases e
        obtain ⟨U', p', r'⟩ := ih h1 r2 U
        exact ⟨U', p', .cons (pureV_re 4 pa r1) r'⟩
    cases r1 with
    | @ref ad c q =>
      unfold loadA at e
      dsimp only at e
      by_cases hm : memN c cs = true
      · rw [if_pos hm] at e; cases e
      · rw [if_neg hm] at e
        cases hg : getF σ c with
        | none => rw [hg] at e; cases e
        | some x =>
          rw [hg] at e
          dsimp only at e
          by_cases px : pureC x = true
          · rw [if_pos px] at e
            cases h1 : loadA σ r (appF sub [x]) (appF cs [c]) with
            | none => rw [h1] at e; cases e
            | some q1 =>
              obtain ⟨as1, s1, c1⟩ := q1
              rw [h1] at e; cases e
              rw [appF_eq, appF_eq] at h1
              obtain ⟨U', p', r'⟩ := ih h1 r2 (U.snoc (memN_mem c cs (by cases hb : memN c cs with | true => exact absurd hb hm | false => rfl)) q px (S.ref hg q))
              refine ⟨U', (List.prefix_append _ _).trans p', .cons (.ref ?_) r'⟩
              rw [lenF_eq, U.len]
              exact rsOf_get (prefix_get p' (by simp)) q
          · rw [if_neg px] at e; cases e
    | @lst ad us l hl hn hr =>
      unfold loadA at e
      dsimp only at e
      by_cases pl : l.all (pureV 4) = true
      · rw [if_pos pl] at e
        cases h1 : loadA σ r sub cs with
        | none => rw [h1] at e; cases e
        | some q1 =>
          obtain ⟨as1, s1, c1⟩ := q1
          rw [h1] at e; cases e
          obtain ⟨U', p', r'⟩ := ih h1 r2 U
          exact ⟨U', p', .cons (.lst hl (fun m => hn (rsOf_mem U'.lt m)) (pureL_re (List.all_eq_true.mp pl) hr)) r'⟩
      · rw [if_neg pl] at e; cases e
    | none => exact plain rfl e
    | bool b => exact plain rfl e
    | int i t => exact plain rfl e
    | str s t => exact plain rfl e
    | any t e1 hh => exact plain rfl e
    | @tup ad us l ht hl =>
      unfold loadA at e
      dsimp only at e
      by_cases pl : pureV 4 (.tup l) = true
      · rw [if_pos pl] at e; exact plain pl e
      · rw [if_neg pl] at e; cases e
    | rng _ => cases e
    | its _ _ => cases e

/-- how the cells stand while they are written back: those done as τ says, the rest as σ says -/
theorem storeA_some {w : World} {h' : Heap} {ρ ρ' ρn : List Addr} {τ : Sto} (lenρ : ∀ c x, getF τ c = some x → ∃ a, ρ'[c]? = some a ∧ RC w ρ' h' a x) : ∀ {cs : List Nat} {i : Nat} {σ σ1 : Sto}, storeA τ i cs σ = some σ1 → (∀ (j : Nat) c, cs[j]? = some c → c < σ.length ∧ ρ'[i + j]? = ρ[c]?) → ρ.length = σ.length →
    σ1.length = σ.length ∧ (∀ c x a, c ∉ cs → σ1[c]? = some x → ρ[c]? = some a → σ[c]? = some x) ∧ (∀ c x a, c ∈ cs → σ1[c]? = some x → ρ[c]? = some a → RC w ρn h' a x)
  | [], i, σ, σ1, e, _, _ => by cases e; exact ⟨rfl, fun _ _ _ _ h _ => h, fun _ _ _ m => by cases m⟩
  | c :: r, i, σ, σ1, e, hc, hl => by
    unfold storeA at e
    cases hg : getF τ i with
    | none => rw [hg] at e; cases e
    | some x =>
      rw [hg] at e
      dsimp only at e
      by_cases px : pureC x = true
      · rw [if_pos px, setF_eq] at e
        obtain ⟨hlt, hat⟩ := hc 0 c rfl
        obtain ⟨g1, g2, g3⟩ := storeA_some lenρ e (fun j d hd => by
          obtain ⟨a1, a2⟩ := hc (j + 1) d (by simpa using hd)
          exact ⟨by simpa using a1, by rw [← a2]; congr 1; omega⟩) (by simpa using hl)
        rw [List.length_set] at g1
        refine ⟨g1, fun d y a hd h1 h2 => ?_, fun d y a hd h1 h2 => ?_⟩
        · rw [List.mem_cons, not_or] at hd
          have := g2 d y a hd.2 h1 h2
          rwa [List.getElem?_set_ne (Ne.symm hd.1)] at this
        · by_cases hr : d ∈ r
          · exact g3 d y a hr h1 h2
          · have hdc : d = c := (List.mem_cons.mp hd).resolve_right hr
            subst hdc
            have := g2 d y a hr h1 h2
            rw [List.getElem?_set_self hlt] at this
            cases this
            obtain ⟨b, hb, rc⟩ := lenρ i x hg
            rw [Nat.add_zero] at hat
            rw [hat, h2] at hb; cases hb
            exact pureC_re px rc
      · rw [if_neg px] at e; cases e

section
variable {P : Prog} {K : Frag} {w : World} {h₀ : Heap} {c n : Nat} {R : Evs} {ρ : List Addr} {s : Shared} {σ σ' : Sto} {x : V} {A : Around}
theorem rsOf_nodup {ρ : List Addr} (nd : ρ.Nodup) : ∀ {cs : List Nat}, cs.Nodup → (∀ c ∈ cs, c < ρ.length) → (rsOf ρ cs).Nodup
  | [], _, _ => List.nodup_nil
  | c :: r, h, lt => by
    rw [List.nodup_cons] at h
    have l0 := lt c (List.mem_cons_self ..)
    refine List.nodup_cons.mpr ⟨fun m => ?_, rsOf_nodup nd h.2 fun d hd => lt d (List.mem_cons_of_mem _ hd)⟩
    obtain ⟨d, hd, e⟩ := List.mem_map.mp (show ρ.getD c 0 ∈ List.map (fun c => ρ.getD c 0) r from m)
    have l1 := lt d (List.mem_cons_of_mem _ hd)
    have e1 := List.getElem?_eq_getElem l0
    have e2 := List.getElem?_eq_getElem l1
    rw [getD_at e1, getD_at e2] at e
    rw [e] at e2
    exact h.1 (nodup_idx nd e2 e1 ▸ hd)

theorem frame_sound (H : SO P K w h₀ c n R) {d : FDef} (fk : FnK K d) (r : Room c n A) (S : St w h₀ ρ σ s.heap) {as : List V} {vs : List Value} (rl : RL ρ s.heap vs as) (e : frameV R d as σ = some (x, σ')) {Rr : Result → Shared → Prop} (k : RetC w h₀ ρ s σ' x Rr) :
    codeAny (model prog w) A (.call (.ref d.addr) ⟨vs, []⟩) Rr s := by
  unfold frameV at e
  cases h1 : loadA σ as [] [] with
  | none => rw [h1] at e; cases e
  | some q1 =>
  obtain ⟨as', sub, cs⟩ := q1
  rw [h1] at e
  dsimp only at e
  cases h2 : R.c d as' sub with
  | none => rw [h2] at e; cases e
  | some q2 =>
  obtain ⟨x0, τ⟩ := q2
  rw [h2] at e
  dsimp only at e
  cases h3 : storeA τ 0 cs σ with
  | none => rw [h3] at e; cases e
  | some σ1 =>
  rw [h3] at e
  dsimp only at e
  have U0 : Sub w ρ σ s.heap [] [] := ⟨List.nodup_nil, (fun _ m => by cases m), rfl, (fun i x c a h => by simp at h)⟩
  obtain ⟨U, _, rl'⟩ := loadA_some S h1 rl U0
  have hrl : (rsOf ρ cs).length = cs.length := by unfold rsOf; simp
  have at' : ∀ {i c : Nat}, cs[i]? = some c → ∃ a, ρ[c]? = some a ∧ (rsOf ρ cs)[i]? = some a := fun {i c} h => by
    have := U.lt c (List.mem_of_getElem? h)
    exact ⟨_, List.getElem?_eq_getElem this, rsOf_get h (List.getElem?_eq_getElem this)⟩
  have Ss : St w h₀ (rsOf ρ cs) sub s.heap := ⟨by rw [hrl, U.len], rsOf_nodup S.nd U.nd U.lt, fun a m => S.lo a (rsOf_mem U.lt m), fun a m => S.nsys a (rsOf_mem U.lt m), S.big, S.base, fun i y a hy ha => by
    have hi : i < cs.length := by rw [← U.len]; exact (List.getElem?_eq_some_iff.mp hy).1
    obtain ⟨b, hb, hb2⟩ := at' (List.getElem?_eq_getElem hi)
    rw [hb2] at ha; cases ha
    obtain ⟨p1, p2⟩ := U.cell i y _ _ hy (List.getElem?_eq_getElem hi) hb
    exact pureC_re p1 p2⟩
  refine H.c h2 fk r Ss rl' fun v ρ' s' st' S' rv => ?_
  have hc : ∀ (j : Nat) c, cs[j]? = some c → c < σ.length ∧ ρ'[0 + j]? = ρ[c]? := fun j c h => by
    obtain ⟨a, h4, h5⟩ := at' h
    exact ⟨by rw [← S.len]; exact U.lt c (List.mem_of_getElem? h), by rw [Nat.zero_add, h4]; exact prefix_get st'.pre h5⟩
  have kp : Kept NoO ρ s.heap s'.heap := fun b o e nb _ => st'.keep b o e (fun m => nb (rsOf_mem U.lt m)) (fun z => z)
  have gl : σ1.length = σ.length := (storeA_some (ρn := ρ) (fun c x h => S'.at h) h3 hc S.len).1
  have old : ∀ ρn, ρ <+: ρn → (∀ a ∈ ρn, a ∈ ρ ∨ s.heap.get? a = Option.none) → ∀ c y a, σ1[c]? = some y → ρ[c]? = some a → RC w ρn s'.heap a y := fun ρn pn nn c y a hy ha => by
    obtain ⟨_, g2, g3⟩ := storeA_some (ρn := ρn) (fun c x h => S'.at h) h3 hc S.len
    by_cases m : c ∈ cs
    · exact g3 c y a m hy ha
    · have rc := S.cell c y a (g2 c y a m hy ha) ha
      obtain ⟨o, ho, _⟩ := rc.mutable
      have na : a ∉ rsOf ρ cs := fun ma => by
        obtain ⟨d, hd, ed⟩ := List.mem_map.mp (show a ∈ List.map (fun c => ρ.getD c 0) cs from ma)
        have e2 := List.getElem?_eq_getElem (U.lt d hd)
        rw [getD_at e2] at ed
        rw [ed] at e2
        exact m (nodup_idx S.nd e2 ha ▸ hd)
      exact rc.mono pn kp S.mutR (mutO_no _) nn ((st'.keep a o ho na (fun z => z)).trans ho.symm)
  have same : ∀ {v : Value} {y : V}, RV ρ s'.heap v y → σ' = σ1 → x = y → Rr (.ok (.ret v)) s' := fun {v y} ry e1 e2 => by
    subst e1; subst e2
    refine k v ρ s' ⟨st'.same, List.prefix_refl _, fun _ m => .inl m, kp, st'.alive⟩ ⟨by rw [S.len, gl], S.nd, S.lo, S.nsys, S.big, S'.base, fun c y a hy ha => old ρ (List.prefix_refl _) (fun _ m => .inl m) c y a hy ha⟩ ry
  have plain : pureV 4 x0 = true → x = x0 → σ' = σ1 → Rr (.ok (.ret v)) s' := fun px e1 e2 => same (pureV_re 4 px rv) e2 e1
  unfold backV at e
  cases rv with
  | @ref a j hj =>
    dsimp only at e
    cases hcs : getF cs j with
    | some c =>
      rw [hcs] at e; cases e
      rw [getF_eq] at hcs
      have := (hc j c hcs).2
      rw [Nat.zero_add, hj] at this
      exact same (.ref this.symm) rfl rfl
    | none =>
      rw [hcs] at e
      dsimp only at e
      cases hτ : getF τ j with
      | none => rw [hτ] at e; cases e
      | some y =>
        rw [hτ] at e
        dsimp only at e
        by_cases py : pureC y = true
        · rw [if_pos py] at e; cases e
          rw [getF_eq, List.getElem?_eq_none_iff] at hcs
          have ma : a ∈ ρ' := List.mem_of_getElem? hj
          have na : a ∉ rsOf ρ cs := fun m => by
            obtain ⟨i, hi, e1⟩ := List.getElem_of_mem m
            have e2 : ρ'[i]? = some a := prefix_get st'.pre (e1 ▸ List.getElem?_eq_getElem hi)
            have := nodup_idx S'.nd e2 hj
            rw [hrl] at hi
            omega
          have fr : s.heap.get? a = Option.none := (st'.new a ma).resolve_left na
          have nρ : a ∉ ρ := fun m => by obtain ⟨o, eo, _⟩ := S.mutR a m; rw [fr] at eo; cases eo
          have nw : ∀ b ∈ ρ ++ [a], b ∈ ρ ∨ s.heap.get? b = Option.none := fun b m => by
            rcases List.mem_append.mp m with m | m
            · exact .inl m
            · simp at m; subst m; exact .inr fr
          rw [appF_eq] at k
          refine k _ (ρ ++ [a]) s' ⟨st'.same, List.prefix_append _ _, nw, kp, st'.alive⟩ ⟨by simp [S.len, gl], List.nodup_append.mpr ⟨S.nd, by simp, fun b hb d hd => by simp at hd; subst hd; exact fun q => nρ (q ▸ hb)⟩, fun b m => ?_, fun b m => ?_, S.big, S'.base, fun i z b hz hb => ?_⟩ (.ref ?_)
          · rcases List.mem_append.mp m with m | m
            · exact S.lo b m
            · simp at m; subst m; exact S'.lo _ ma
          · rcases List.mem_append.mp m with m | m
            · exact S.nsys b m
            · simp at m; subst m; exact S'.nsys _ ma
          · by_cases hi : i < σ1.length
            · rw [List.getElem?_append_left hi] at hz
              rw [List.getElem?_append_left (by rw [S.len, ← gl]; exact hi)] at hb
              exact old _ (List.prefix_append _ _) nw i z b hz hb
            · have e1 := (List.getElem?_eq_some_iff.mp hz).1
              simp at e1
              have e2 : i = σ1.length := by omega
              subst e2
              simp at hz
              rw [gl, ← S.len] at hb
              simp at hb
              subst hz; subst hb
              exact pureC_re py (S'.ref hτ hj)
          · rw [lenF_eq, gl, ← S.len]; simp
        · rw [if_neg py] at e; cases e
  | none => cases e; exact plain rfl rfl rfl
  | bool b => cases e; exact plain rfl rfl rfl
  | int i t => cases e; exact plain rfl rfl rfl
  | str q t => cases e; exact plain rfl rfl rfl
  | any t e1 hh => cases e; exact plain rfl rfl rfl
  | @tup ad us l ht hl =>
    dsimp only at e
    by_cases pl : pureV 4 (.tup l) = true
    · rw [if_pos pl] at e; cases e; exact plain pl rfl rfl
    · rw [if_neg pl] at e; cases e
  | lst _ _ _ => cases e
  | rng _ => cases e
  | its _ _ => cases e
end

noncomputable def memS (f : Str) (l : List Str) : Bool := @List.rec Str (fun _ => Bool) false (fun x _ ih => @Bool.rec (fun _ => Bool) ih true (PySem.W.Fast.sEq f x)) l
/-- calls of the named defs run on a store of their own cells -/
noncomputable def ΩF (P : Prog) (Ω : Str → List V → Sto → Option (V × Sto)) (m : Nat) (fs : List Str) : Str → List V → Sto → Option (V × Sto) := fun f as σ =>
  @Bool.rec (fun _ => Option (V × Sto)) (Ω f as σ) (match P.fn f with | some d => frameV (ev P Ω m) d as σ | .none => .none) (memS f fs)
theorem ΩFOK {P : Prog} {K : Frag} {w : World} {h₀ : Heap} {c : Nat} {Ω : Str → List V → Sto → Option (V × Sto)} (B : Base K h₀) (PO : ProgOK P K) (ΩO : ΩOK P K w h₀ c Ω) {m : Nat} {fs : List Str} (hf : ∀ f t d, P.ometh t f = some d → memS f fs = false) : ΩOK P K w h₀ (c + m) (ΩF P Ω m fs) := by
  refine ⟨fun {A ρ s σ f as x σ' vs d} hd e r S rl Rr k => ?_, fun e S k => ΩO.oattr e S k, fun e => ΩO.ometh e⟩
  unfold ΩF at e
  cases hm : memS f fs with
  | false =>
    rw [hm] at e
    exact ΩO.run hd e ⟨r.1, by have := r.2.1; omega, by have := r.2.2; omega⟩ S rl k
  | true =>
    rw [hm] at e
    have hd : P.fn f = some d := hd.elim (fun h => h) fun ⟨t, h⟩ => by rw [hf f t d h] at hm; cases hm
    rw [hd] at e
    exact frame_sound (ev_sound B PO ΩO m) (PO.fn f d hd).2 ⟨r.1, by have := r.2.1; omega, by have := r.2.2; omega⟩ S rl e k
end
end HQ
end
section
set_option autoImplicit false
set_option linter.unusedSectionVars false
set_option linter.unusedVariables false
set_option maxRecDepth 100000
set_option maxHeartbeats 4000000
namespace HQ
open PySem PySem.W PySem.Calls PyProof.Rows PySem.Spec
theorem len1 {α : Type} {l : List α} (h : l.length = 1) : ∃ a, l = [a] := List.length_eq_one_iff.mp h
theorem len2 {α : Type} {l : List α} (h : l.length = 2) : ∃ a b, l = [a, b] := by
  cases l with
  | nil => cases h
  | cons a r => obtain ⟨b, rfl⟩ := len1 (Nat.succ.inj h); exact ⟨a, b, rfl⟩
theorem len3 {α : Type} {l : List α} (h : l.length = 3) : ∃ a b c, l = [a, b, c] := by
  cases l with
  | nil => cases h
  | cons a r => obtain ⟨b, c, rfl⟩ := len2 (Nat.succ.inj h); exact ⟨a, b, c, rfl⟩
noncomputable def fdAt (K : Frag) (a : Addr) : FuncData := match K.lookup a with
  | some ⟨_, _, .func fd, _⟩ => fd
  | _ => default
variable (p : Params)
theorem g_heappush : nsIn (K39 p) mainGlobals "heappush" = some (some (.ref 28)) := by kernel_rfl
theorem k_heappush : FnK (K39 p) (mkF 28 "heappush" body0) := ⟨⟨.type "function", .none, fdAt (K39 p) 28, #[], by kernel_rfl, by kernel_rfl, by kernel_rfl, by kernel_rfl, by kernel_rfl, by kernel_rfl, by kernel_rfl, fun vs h => by
  obtain ⟨a, b, rfl⟩ := len2 (h.trans (show _ = 2 by kernel_rfl))
  kernel_rfl⟩, by kernel_rfl, by kernel_rfl, by decide +kernel⟩
theorem g_heappop : nsIn (K39 p) mainGlobals "heappop" = some (some (.ref 35)) := by kernel_rfl
theorem k_heappop : FnK (K39 p) (mkF 35 "heappop" body0) := ⟨⟨.type "function", .none, fdAt (K39 p) 35, #[], by kernel_rfl, by kernel_rfl, by kernel_rfl, by kernel_rfl, by kernel_rfl, by kernel_rfl, by kernel_rfl, fun vs h => by
  obtain ⟨a, rfl⟩ := len1 (h.trans (show _ = 1 by kernel_rfl))
  kernel_rfl⟩, by kernel_rfl, by kernel_rfl, by decide +kernel⟩
theorem g_heapreplace : nsIn (K39 p) mainGlobals "heapreplace" = some (some (.ref 42)) := by kernel_rfl
theorem k_heapreplace : FnK (K39 p) (mkF 42 "heapreplace" body0) := ⟨⟨.type "function", .none, fdAt (K39 p) 42, #[], by kernel_rfl, by kernel_rfl, by kernel_rfl, by kernel_rfl, by kernel_rfl, by kernel_rfl, by kernel_rfl, fun vs h => by
  obtain ⟨a, b, rfl⟩ := len2 (h.trans (show _ = 2 by kernel_rfl))
  kernel_rfl⟩, by kernel_rfl, by kernel_rfl, by decide +kernel⟩
theorem g_siftdown : nsIn (K39 p) mainGlobals "_siftdown" = some (some (.ref 49)) := by kernel_rfl
theorem k_siftdown : FnK (K39 p) (mkF 49 "_siftdown" body0) := ⟨⟨.type "function", .none, fdAt (K39 p) 49, #[], by kernel_rfl, by kernel_rfl, by kernel_rfl, by kernel_rfl, by kernel_rfl, by kernel_rfl, by kernel_rfl, fun vs h => by
  obtain ⟨a, b, c, rfl⟩ := len3 (h.trans (show _ = 3 by kernel_rfl))
  kernel_rfl⟩, by kernel_rfl, by kernel_rfl, by decide +kernel⟩
theorem g_siftup : nsIn (K39 p) mainGlobals "_siftup" = some (some (.ref 56)) := by kernel_rfl
theorem k_siftup : FnK (K39 p) (mkF 56 "_siftup" body0) := ⟨⟨.type "function", .none, fdAt (K39 p) 56, #[], by kernel_rfl, by kernel_rfl, by kernel_rfl, by kernel_rfl, by kernel_rfl, by kernel_rfl, by kernel_rfl, fun vs h => by
  obtain ⟨a, b, rfl⟩ := len2 (h.trans (show _ = 2 by kernel_rfl))
  kernel_rfl⟩, by kernel_rfl, by kernel_rfl, by decide +kernel⟩
theorem g_add_callers : nsIn (K39 p) mainGlobals "add_callers" = some (some (.ref 91)) := by kernel_rfl
theorem k_add_callers : FnK (K39 p) (mkF 91 "add_callers" body0) := ⟨⟨.type "function", .none, fdAt (K39 p) 91, #[], by kernel_rfl, by kernel_rfl, by kernel_rfl, by kernel_rfl, by kernel_rfl, by kernel_rfl, by kernel_rfl, fun vs h => by
  obtain ⟨a, b, rfl⟩ := len2 (h.trans (show _ = 2 by kernel_rfl))
  kernel_rfl⟩, by kernel_rfl, by kernel_rfl, by decide +kernel⟩
theorem g_law_draws : nsIn (K39 p) mainGlobals "_law_draws" = some (some (.ref 162)) := by kernel_rfl
theorem k_law_draws : FnK (K39 p) (mkF 162 "_law_draws" body0) := ⟨⟨.type "function", .none, fdAt (K39 p) 162, #[], by kernel_rfl, by kernel_rfl, by kernel_rfl, by kernel_rfl, by kernel_rfl, by kernel_rfl, by kernel_rfl, fun vs h => by
  obtain ⟨a, rfl⟩ := len1 (h.trans (show _ = 1 by kernel_rfl))
  kernel_rfl⟩, by kernel_rfl, by kernel_rfl, by decide +kernel⟩
theorem g_law_keys : nsIn (K39 p) mainGlobals "_law_keys" = some (some (.ref 169)) := by kernel_rfl
theorem k_law_keys : FnK (K39 p) (mkF 169 "_law_keys" body0) := ⟨⟨.type "function", .none, fdAt (K39 p) 169, #[], by kernel_rfl, by kernel_rfl, by kernel_rfl, by kernel_rfl, by kernel_rfl, by kernel_rfl, by kernel_rfl, fun vs h => by
  obtain ⟨a, rfl⟩ := len1 (h.trans (show _ = 1 by kernel_rfl))
  kernel_rfl⟩, by kernel_rfl, by kernel_rfl, by decide +kernel⟩
theorem g_law_orders : nsIn (K39 p) mainGlobals "_law_orders" = some (some (.ref 176)) := by kernel_rfl
theorem k_law_orders : FnK (K39 p) (mkF 176 "_law_orders" body0) := ⟨⟨.type "function", .none, fdAt (K39 p) 176, #[], by kernel_rfl, by kernel_rfl, by kernel_rfl, by kernel_rfl, by kernel_rfl, by kernel_rfl, by kernel_rfl, fun vs h => by
  obtain ⟨a, rfl⟩ := len1 (h.trans (show _ = 1 by kernel_rfl))
  kernel_rfl⟩, by kernel_rfl, by kernel_rfl, by decide +kernel⟩
theorem g_law_kinds : nsIn (K39 p) mainGlobals "_law_kinds" = some (some (.ref 183)) := by kernel_rfl
theorem k_law_kinds : FnK (K39 p) (mkF 183 "_law_kinds" body0) := ⟨⟨.type "function", .none, fdAt (K39 p) 183, #[], by kernel_rfl, by kernel_rfl, by kernel_rfl, by kernel_rfl, by kernel_rfl, by kernel_rfl, by kernel_rfl, fun vs h => by
  obtain ⟨a, b, rfl⟩ := len2 (h.trans (show _ = 2 by kernel_rfl))
  kernel_rfl⟩, by kernel_rfl, by kernel_rfl, by decide +kernel⟩
theorem g_law_passed : nsIn (K39 p) mainGlobals "_law_passed" = some (some (.ref 188)) := by kernel_rfl
theorem k_law_passed : FnK (K39 p) (mkF 188 "_law_passed" body0) := ⟨⟨.type "function", .none, fdAt (K39 p) 188, #[], by kernel_rfl, by kernel_rfl, by kernel_rfl, by kernel_rfl, by kernel_rfl, by kernel_rfl, by kernel_rfl, fun vs h => by
  obtain ⟨a, rfl⟩ := len1 (h.trans (show _ = 1 by kernel_rfl))
  kernel_rfl⟩, by kernel_rfl, by kernel_rfl, by decide +kernel⟩
theorem g_law_falls : nsIn (K39 p) mainGlobals "_law_falls" = some (some (.ref 193)) := by kernel_rfl
theorem k_law_falls : FnK (K39 p) (mkF 193 "_law_falls" body0) := ⟨⟨.type "function", .none, fdAt (K39 p) 193, #[], by kernel_rfl, by kernel_rfl, by kernel_rfl, by kernel_rfl, by kernel_rfl, by kernel_rfl, by kernel_rfl, fun vs h => by
  obtain ⟨a, b, c, rfl⟩ := len3 (h.trans (show _ = 3 by kernel_rfl))
  kernel_rfl⟩, by kernel_rfl, by kernel_rfl, by decide +kernel⟩
theorem g_law_after : nsIn (K39 p) mainGlobals "_law_after" = some (some (.ref 200)) := by kernel_rfl
theorem k_law_after : FnK (K39 p) (mkF 200 "_law_after" body0) := ⟨⟨.type "function", .none, fdAt (K39 p) 200, #[], by kernel_rfl, by kernel_rfl, by kernel_rfl, by kernel_rfl, by kernel_rfl, by kernel_rfl, by kernel_rfl, fun vs h => by
  obtain ⟨a, b, rfl⟩ := len2 (h.trans (show _ = 2 by kernel_rfl))
  kernel_rfl⟩, by kernel_rfl, by kernel_rfl, by decide +kernel⟩
theorem g_law_tables : nsIn (K39 p) mainGlobals "_law_tables" = some (some (.ref 205)) := by kernel_rfl
theorem k_law_tables : FnK (K39 p) (mkF 205 "_law_tables" body0) := ⟨⟨.type "function", .none, fdAt (K39 p) 205, #[], by kernel_rfl, by kernel_rfl, by kernel_rfl, by kernel_rfl, by kernel_rfl, by kernel_rfl, by kernel_rfl, fun vs h => by
  obtain ⟨a, b, c, rfl⟩ := len3 (h.trans (show _ = 3 by kernel_rfl))
  kernel_rfl⟩, by kernel_rfl, by kernel_rfl, by decide +kernel⟩
theorem g_law_product : nsIn (K39 p) mainGlobals "_law_product" = some (some (.ref 210)) := by kernel_rfl
theorem k_law_product : FnK (K39 p) (mkF 210 "_law_product" body0) := ⟨⟨.type "function", .none, fdAt (K39 p) 210, #[], by kernel_rfl, by kernel_rfl, by kernel_rfl, by kernel_rfl, by kernel_rfl, by kernel_rfl, by kernel_rfl, fun vs h => by
  obtain ⟨a, rfl⟩ := len1 (h.trans (show _ = 1 by kernel_rfl))
  kernel_rfl⟩, by kernel_rfl, by kernel_rfl, by decide +kernel⟩
theorem g_law : nsIn (K39 p) mainGlobals "law" = some (some (.ref 215)) := by kernel_rfl
theorem k_law : FnK (K39 p) (mkF 215 "law" body0) := ⟨⟨.type "function", .none, fdAt (K39 p) 215, #[], by kernel_rfl, by kernel_rfl, by kernel_rfl, by kernel_rfl, by kernel_rfl, by kernel_rfl, by kernel_rfl, fun vs h => by
  obtain ⟨a, rfl⟩ := len1 (h.trans (show _ = 1 by kernel_rfl))
  kernel_rfl⟩, by kernel_rfl, by kernel_rfl, by decide +kernel⟩
theorem k_compare : FnK (K39 p) (mkF 77 "compare" (clsB "TupleComp")) := ⟨⟨.type "function", .none, fdAt (K39 p) 77, #[], by kernel_rfl, by kernel_rfl, by kernel_rfl, by kernel_rfl, by kernel_rfl, by kernel_rfl, by kernel_rfl, fun vs h => by
  obtain ⟨a, b, c, rfl⟩ := len3 (h.trans (show _ = 3 by kernel_rfl))
  kernel_rfl⟩, by kernel_rfl, by kernel_rfl, by decide +kernel⟩
theorem f_compare : findIn (K39 p) (.ref 80) "compare" = some (some (.ref 77)) := by kernel_rfl
theorem k_longest_run_of_spaces : FnK (K39 p) (mkF 115 "longest_run_of_spaces" (clsB "Whitespace")) := ⟨⟨.type "function", .none, fdAt (K39 p) 115, #[], by kernel_rfl, by kernel_rfl, by kernel_rfl, by kernel_rfl, by kernel_rfl, by kernel_rfl, by kernel_rfl, fun vs h => by
  obtain ⟨a, rfl⟩ := len1 (h.trans (show _ = 1 by kernel_rfl))
  kernel_rfl⟩, by kernel_rfl, by kernel_rfl, by decide +kernel⟩
theorem f_longest_run_of_spaces : findIn (K39 p) (.ref 153) "longest_run_of_spaces" = some (some (.ref 115)) := by kernel_rfl
theorem k_indent_level : FnK (K39 p) (mkF 122 "indent_level" (clsB "Whitespace")) := ⟨⟨.type "function", .none, fdAt (K39 p) 122, #[], by kernel_rfl, by kernel_rfl, by kernel_rfl, by kernel_rfl, by kernel_rfl, by kernel_rfl, by kernel_rfl, fun vs h => by
  obtain ⟨a, b, rfl⟩ := len2 (h.trans (show _ = 2 by kernel_rfl))
  kernel_rfl⟩, by kernel_rfl, by kernel_rfl, by decide +kernel⟩
theorem f_indent_level : findIn (K39 p) (.ref 153) "indent_level" = some (some (.ref 122)) := by kernel_rfl
theorem k_not_equal_witness : FnK (K39 p) (mkF 136 "not_equal_witness" (clsB "Whitespace")) := ⟨⟨.type "function", .none, fdAt (K39 p) 136, #[], by kernel_rfl, by kernel_rfl, by kernel_rfl, by kernel_rfl, by kernel_rfl, by kernel_rfl, by kernel_rfl, fun vs h => by
  obtain ⟨a, b, rfl⟩ := len2 (h.trans (show _ = 2 by kernel_rfl))
  kernel_rfl⟩, by kernel_rfl, by kernel_rfl, by decide +kernel⟩
theorem f_not_equal_witness : findIn (K39 p) (.ref 153) "not_equal_witness" = some (some (.ref 136)) := by kernel_rfl
theorem k_init_TupleComp : FnK (K39 p) (mkF 70 "__init__" (clsB "TupleComp")) := ⟨⟨.type "function", .none, fdAt (K39 p) 70, #[], by kernel_rfl, by kernel_rfl, by kernel_rfl, by kernel_rfl, by kernel_rfl, by kernel_rfl, by kernel_rfl, fun vs h => by
  obtain ⟨a, b, rfl⟩ := len2 (h.trans (show _ = 2 by kernel_rfl))
  kernel_rfl⟩, by kernel_rfl, by kernel_rfl, by decide +kernel⟩
theorem g_TupleComp : nsIn (K39 p) mainGlobals "TupleComp" = some (some (.ref 80)) := by kernel_rfl
theorem m_TupleComp : makesIn (K39 p) 80 = true := by kernel_rfl
theorem i_TupleComp : findIn (K39 p) (.ref 80) "__init__" = some (some (.ref 70)) := by kernel_rfl
theorem kp_TupleComp : keepIn (K39 p) (.ref 80) = true := by kernel_rfl
theorem ins_TupleComp : InsK (K39 p) 80 := ⟨by kernel_rfl, by kernel_rfl, by kernel_rfl, by kernel_rfl, by kernel_rfl⟩
theorem k_init_Whitespace : FnK (K39 p) (mkF 108 "__init__" (clsB "Whitespace")) := ⟨⟨.type "function", .none, fdAt (K39 p) 108, #[], by kernel_rfl, by kernel_rfl, by kernel_rfl, by kernel_rfl, by kernel_rfl, by kernel_rfl, by kernel_rfl, fun vs h => by
  obtain ⟨a, b, rfl⟩ := len2 (h.trans (show _ = 2 by kernel_rfl))
  kernel_rfl⟩, by kernel_rfl, by kernel_rfl, by decide +kernel⟩
theorem g_Whitespace : nsIn (K39 p) mainGlobals "Whitespace" = some (some (.ref 153)) := by kernel_rfl
theorem m_Whitespace : makesIn (K39 p) 153 = true := by kernel_rfl
theorem i_Whitespace : findIn (K39 p) (.ref 153) "__init__" = some (some (.ref 108)) := by kernel_rfl
theorem kp_Whitespace : keepIn (K39 p) (.ref 153) = true := by kernel_rfl
theorem ins_Whitespace : InsK (K39 p) 153 := ⟨by kernel_rfl, by kernel_rfl, by kernel_rfl, by kernel_rfl, by kernel_rfl⟩
theorem a_TupleComp_comp_select_list : findIn (K39 p) (.ref 80) "comp_select_list" = some Option.none := by kernel_rfl
theorem a_Whitespace_raw : findIn (K39 p) (.ref 153) "raw" = some Option.none := by kernel_rfl
theorem a_Whitespace_n : findIn (K39 p) (.ref 153) "n" = some Option.none := by kernel_rfl
theorem a_Whitespace_nt : findIn (K39 p) (.ref 153) "nt" = some Option.none := by kernel_rfl
theorem a_Whitespace_norm : findIn (K39 p) (.ref 153) "norm" = some Option.none := by kernel_rfl
theorem a_Whitespace_is_simple : findIn (K39 p) (.ref 153) "is_simple" = some Option.none := by kernel_rfl
theorem b_len : nsIn (K39 p) mainGlobals "len" = some Option.none := by kernel_rfl
theorem bb_len : bootBuiltins "len" = some (.builtin "len") := by kernel_rfl
theorem b_range : nsIn (K39 p) mainGlobals "range" = some Option.none := by kernel_rfl
theorem bb_range : bootBuiltins "range" = some (.type "range") := by kernel_rfl
theorem b_sum : nsIn (K39 p) mainGlobals "sum" = some Option.none := by kernel_rfl
theorem bb_sum : bootBuiltins "sum" = some (.builtin "sum") := by kernel_rfl
theorem b_tuple : nsIn (K39 p) mainGlobals "tuple" = some Option.none := by kernel_rfl
theorem bb_tuple : bootBuiltins "tuple" = some (.type "tuple") := by kernel_rfl
theorem b_list : nsIn (K39 p) mainGlobals "list" = some Option.none := by kernel_rfl
theorem bb_list : bootBuiltins "list" = some (.type "list") := by kernel_rfl
theorem b_sorted : nsIn (K39 p) mainGlobals "sorted" = some Option.none := by kernel_rfl
theorem bb_sorted : bootBuiltins "sorted" = some (.builtin "sorted") := by kernel_rfl
theorem b_max : nsIn (K39 p) mainGlobals "max" = some Option.none := by kernel_rfl
theorem bb_max : bootBuiltins "max" = some (.builtin "max") := by kernel_rfl
theorem b_min : nsIn (K39 p) mainGlobals "min" = some Option.none := by kernel_rfl
theorem bb_min : bootBuiltins "min" = some (.builtin "min") := by kernel_rfl
theorem b_isinstance : nsIn (K39 p) mainGlobals "isinstance" = some Option.none := by kernel_rfl
theorem bb_isinstance : bootBuiltins "isinstance" = some (.builtin "isinstance") := by kernel_rfl
theorem ca_S [Gh] : ∃ C mc val, nsIn (K39 p) mainGlobals "Whitespace" = some (some (.ref C)) ∧ readsIn (K39 p) C mc = true ∧ findCls (K39 p) (.ref C) mc "S" = some (.val val) ∧ handedIn val = true ∧ ∀ ρ h, RV ρ h val (.str [32]) := ⟨153, .type "type", _, by kernel_rfl, by kernel_rfl, by with_unfolding_all rfl, by kernel_rfl, fun ρ h => .str [32] _⟩
theorem ca_T [Gh] : ∃ C mc val, nsIn (K39 p) mainGlobals "Whitespace" = some (some (.ref C)) ∧ readsIn (K39 p) C mc = true ∧ findCls (K39 p) (.ref C) mc "T" = some (.val val) ∧ handedIn val = true ∧ ∀ ρ h, RV ρ h val (.str [9]) := ⟨153, .type "type", _, by kernel_rfl, by kernel_rfl, by with_unfolding_all rfl, by kernel_rfl, fun ρ h => .str [9] _⟩
theorem look_cases {α : Type} {x : Str} {l : List (Str × α)} {v : α} (h : look x l = some v) : (x, v) ∈ l := by
  induction l with
  | nil => cases h
  | cons q r ih =>
    obtain ⟨y, u⟩ := q
    rw [look_cons] at h
    split at h
    · rename_i e; subst e; cases h; exact List.mem_cons_self ..
    · exact List.mem_cons_of_mem _ (ih h)
theorem forall_cons {α : Type} {q : α → Prop} {a : α} {l : List α} (h1 : q a) (h2 : ∀ x ∈ l, q x) : ∀ x ∈ a :: l, q x := fun x hx => by
  rcases List.mem_cons.mp hx with rfl | hx
  · exact h1
  · exact h2 x hx
theorem forall_nil {α : Type} {q : α → Prop} : ∀ x ∈ ([] : List α), q x := fun x hx => by cases hx

theorem progOK [Gh] : ProgOK P0 (K39 p) where
  fn := fun f d h => by
    have key : ∀ q ∈ fns, nsIn (K39 p) mainGlobals q.1 = some (some (.ref q.2.addr)) ∧ FnK (K39 p) q.2 := forall_cons ⟨g_heappush p, k_heappush p⟩ (forall_cons ⟨g_heappop p, k_heappop p⟩ (forall_cons ⟨g_heapreplace p, k_heapreplace p⟩ (forall_cons ⟨g_siftdown p, k_siftdown p⟩ (forall_cons ⟨g_siftup p, k_siftup p⟩ (forall_cons ⟨g_add_callers p, k_add_callers p⟩ (forall_cons ⟨g_law_draws p, k_law_draws p⟩ (forall_cons ⟨g_law_keys p, k_law_keys p⟩ (forall_cons ⟨g_law_orders p, k_law_orders p⟩ (forall_cons ⟨g_law_kinds p, k_law_kinds p⟩ (forall_cons ⟨g_law_passed p, k_law_passed p⟩ (forall_cons ⟨g_law_falls p, k_law_falls p⟩ (forall_cons ⟨g_law_after p, k_law_after p⟩ (forall_cons ⟨g_law_tables p, k_law_tables p⟩ (forall_cons ⟨g_law_product p, k_law_product p⟩ (forall_cons ⟨g_law p, k_law p⟩ (forall_nil))))))))))))))))
    exact key (f, d) (look_cases h)
  cls := fun f c h => by
    have key : ∀ q ∈ clss, nsIn (K39 p) mainGlobals q.1 = some (some (.ref q.2.addr)) ∧ FnK (K39 p) q.2.init ∧ makesIn (K39 p) q.2.addr = true ∧ findIn (K39 p) (.ref q.2.addr) "__init__" = some (some (.ref q.2.init.addr)) ∧ keepIn (K39 p) (.ref q.2.addr) = true := forall_cons ⟨g_TupleComp p, k_init_TupleComp p, m_TupleComp p, i_TupleComp p, kp_TupleComp p⟩ (forall_cons ⟨g_Whitespace p, k_init_Whitespace p, m_Whitespace p, i_Whitespace p, kp_Whitespace p⟩ (forall_nil))
    exact key (f, c) (look_cases h)
  bi := fun f v _ _ h => by
    unfold bval at h
    split at h
    · rename_i e; rw [PySem.W.Fast.sEq_iff] at e; subst e; cases h; exact ⟨b_len p, bb_len, by decide⟩
    split at h
    · rename_i e; rw [PySem.W.Fast.sEq_iff] at e; subst e; cases h; exact ⟨b_range p, bb_range, by decide⟩
    split at h
    · rename_i e; rw [PySem.W.Fast.sEq_iff] at e; subst e; cases h; exact ⟨b_sum p, bb_sum, by decide⟩
    split at h
    · rename_i e; rw [PySem.W.Fast.sEq_iff] at e; subst e; cases h; exact ⟨b_tuple p, bb_tuple, by decide⟩
    split at h
    · rename_i e; rw [PySem.W.Fast.sEq_iff] at e; subst e; cases h; exact ⟨b_list p, bb_list, by decide⟩
    split at h
    · rename_i e; rw [PySem.W.Fast.sEq_iff] at e; subst e; cases h; exact ⟨b_sorted p, bb_sorted, by decide⟩
    split at h
    · rename_i e; rw [PySem.W.Fast.sEq_iff] at e; subst e; cases h; exact ⟨b_max p, bb_max, by decide⟩
    split at h
    · rename_i e; rw [PySem.W.Fast.sEq_iff] at e; subst e; cases h; exact ⟨b_min p, bb_min, by decide⟩
    cases h
  isi := ⟨b_isinstance p, bb_isinstance⟩
  tup := ⟨b_tuple p, bb_tuple⟩
  meth := fun C m d h => by
    have h : (if C = 80 then look m tcM else if C = 153 then look m wsM else Option.none) = some d := h
    split at h
    · rename_i e; subst e
      have key : ∀ q ∈ tcM, FnK (K39 p) q.2 ∧ InsK (K39 p) 80 ∧ findIn (K39 p) (.ref 80) q.1 = some (some (.ref q.2.addr)) := forall_cons ⟨k_compare p, ins_TupleComp p, f_compare p⟩ forall_nil
      exact key (m, d) (look_cases h)
    · split at h
      · rename_i e; subst e
        have key : ∀ q ∈ wsM, FnK (K39 p) q.2 ∧ InsK (K39 p) 153 ∧ findIn (K39 p) (.ref 153) q.1 = some (some (.ref q.2.addr)) :=
          forall_cons ⟨k_longest_run_of_spaces p, ins_Whitespace p, f_longest_run_of_spaces p⟩ (forall_cons ⟨k_indent_level p, ins_Whitespace p, f_indent_level p⟩ (forall_cons ⟨k_not_equal_witness p, ins_Whitespace p, f_not_equal_witness p⟩ forall_nil))
        exact key (m, d) (look_cases h)
      · cases h
  cattr := fun c a v h => by
    have h : (if c = ("Whitespace" : Str) then look a wsA else Option.none) = some v := h
    split at h
    · rename_i e; subst e
      have key : ∀ q ∈ wsA, ∃ C mc val, nsIn (K39 p) mainGlobals "Whitespace" = some (some (.ref C)) ∧ readsIn (K39 p) C mc = true ∧ findCls (K39 p) (.ref C) mc q.1 = some (.val val) ∧ handedIn val = true ∧ ∀ ρ h, RV ρ h val q.2 := forall_cons (ca_S p) (forall_cons (ca_T p) forall_nil)
      exact key (a, v) (look_cases h)
    · cases h
  iattr := fun C a h => by
    have h : (if C = 80 then (look a tcI).isSome else if C = 153 then (look a wsI).isSome else false) = true := h
    split at h
    · rename_i e; subst e
      obtain ⟨u, hu⟩ := Option.isSome_iff_exists.mp h
      have key : ∀ q ∈ tcI, findIn (K39 p) (.ref 80) q.1 = some Option.none := forall_cons (a_TupleComp_comp_select_list p) forall_nil
      exact ⟨ins_TupleComp p, key (a, u) (look_cases hu)⟩
    · split at h
      · rename_i e; subst e
        obtain ⟨u, hu⟩ := Option.isSome_iff_exists.mp h
        have key : ∀ q ∈ wsI, findIn (K39 p) (.ref 153) q.1 = some Option.none := forall_cons (a_Whitespace_raw p) (forall_cons (a_Whitespace_n p) (forall_cons (a_Whitespace_nt p) (forall_cons (a_Whitespace_norm p) (forall_cons (a_Whitespace_is_simple p) forall_nil))))
        exact ⟨ins_Whitespace p, key (a, u) (look_cases hu)⟩
      · cases h
end HQ
end
section
set_option autoImplicit false
set_option linter.unusedVariables false
set_option maxRecDepth 100000
namespace HQ
open PySem PySem.W
noncomputable def lawD : FDef := mkF 215 "law" body0
noncomputable def stOf (d : FDef) (i : Nat) : Stmt := (d.body[i]?).getD (.Pass default)
noncomputable def lawSt (i : Nat) : Stmt := stOf lawD i
noncomputable def drawsOf (r : Option (Fl × Vars × Sto)) : Option (List Int) := match r with
  | some (.next, vars, σ) => (match look "draws" vars with
    | some (.ref c) => (match (getF σ c) with | some (.list l) => intsV l | _ => Option.none)
    | _ => Option.none)
  | _ => Option.none
noncomputable def F1 (l : List V) : Fm := ⟨lawD.scope, [("script", .lst l)]⟩
noncomputable def run1 (n : Nat) (f : Nat → Int) := (ev P0 Ω0 60).s (F1 ((List.range n).map fun i => .int (f i))) (lawSt 0) []
noncomputable def upTo3 (n : Nat) : Nat := if n < 3 then n else 3
theorem dr0 (f : Nat → Int) : (drawsOf (run1 0 f)).map List.length = some 4 := by kernel_rfl
theorem dr1 (f : Nat → Int) : (drawsOf (run1 1 f)).map List.length = some 5 := by kernel_rfl
theorem dr2 (f : Nat → Int) : (drawsOf (run1 2 f)).map List.length = some 6 := by kernel_rfl
theorem dr3 (f : Nat → Int) : (drawsOf (run1 3 f)).map List.length = some 7 := by kernel_rfl
theorem dr4 (f : Nat → Int) : (drawsOf (run1 4 f)).map List.length = some 7 := by kernel_rfl
theorem dr5 (f : Nat → Int) : (drawsOf (run1 5 f)).map List.length = some 7 := by kernel_rfl
theorem dr6 (f : Nat → Int) : (drawsOf (run1 6 f)).map List.length = some 7 := by kernel_rfl
theorem dr7 (f : Nat → Int) : (drawsOf (run1 7 f)).map List.length = some 7 := by kernel_rfl
theorem dr8 (f : Nat → Int) : (drawsOf (run1 8 f)).map List.length = some 7 := by kernel_rfl
theorem dr9 (f : Nat → Int) : (drawsOf (run1 9 f)).map List.length = some 7 := by kernel_rfl
theorem dr10 (f : Nat → Int) : (drawsOf (run1 10 f)).map List.length = some 7 := by kernel_rfl
theorem dr11 (f : Nat → Int) : (drawsOf (run1 11 f)).map List.length = some 7 := by kernel_rfl
theorem dr12 (f : Nat → Int) : (drawsOf (run1 12 f)).map List.length = some 7 := by kernel_rfl
theorem dr13 (f : Nat → Int) : (drawsOf (run1 13 f)).map List.length = some 7 := by kernel_rfl
theorem dr14 (f : Nat → Int) : (drawsOf (run1 14 f)).map List.length = some 7 := by kernel_rfl
theorem dr15 (f : Nat → Int) : (drawsOf (run1 15 f)).map List.length = some 7 := by kernel_rfl
theorem dr16 (f : Nat → Int) : (drawsOf (run1 16 f)).map List.length = some 7 := by kernel_rfl
theorem dr17 (f : Nat → Int) : (drawsOf (run1 17 f)).map List.length = some 7 := by kernel_rfl
theorem dr18 (f : Nat → Int) : (drawsOf (run1 18 f)).map List.length = some 7 := by kernel_rfl
theorem dr19 (f : Nat → Int) : (drawsOf (run1 19 f)).map List.length = some 7 := by kernel_rfl
theorem dr20 (f : Nat → Int) : (drawsOf (run1 20 f)).map List.length = some 7 := by kernel_rfl
theorem dr21 (f : Nat → Int) : (drawsOf (run1 21 f)).map List.length = some 7 := by kernel_rfl
theorem dr22 (f : Nat → Int) : (drawsOf (run1 22 f)).map List.length = some 7 := by kernel_rfl
theorem dr23 (f : Nat → Int) : (drawsOf (run1 23 f)).map List.length = some 7 := by kernel_rfl
theorem dr24 (f : Nat → Int) : (drawsOf (run1 24 f)).map List.length = some 7 := by kernel_rfl
theorem dr25 (f : Nat → Int) : (drawsOf (run1 25 f)).map List.length = some 7 := by kernel_rfl
theorem dr26 (f : Nat → Int) : (drawsOf (run1 26 f)).map List.length = some 7 := by kernel_rfl
theorem dr27 (f : Nat → Int) : (drawsOf (run1 27 f)).map List.length = some 7 := by kernel_rfl
theorem dr28 (f : Nat → Int) : (drawsOf (run1 28 f)).map List.length = some 7 := by kernel_rfl
theorem dr29 (f : Nat → Int) : (drawsOf (run1 29 f)).map List.length = some 7 := by kernel_rfl
theorem dr30 (f : Nat → Int) : (drawsOf (run1 30 f)).map List.length = some 7 := by kernel_rfl
theorem dr31 (f : Nat → Int) : (drawsOf (run1 31 f)).map List.length = some 7 := by kernel_rfl
theorem dr32 (f : Nat → Int) : (drawsOf (run1 32 f)).map List.length = some 7 := by kernel_rfl
theorem dr33 (f : Nat → Int) : (drawsOf (run1 33 f)).map List.length = some 7 := by kernel_rfl
theorem dr34 (f : Nat → Int) : (drawsOf (run1 34 f)).map List.length = some 7 := by kernel_rfl
theorem dr35 (f : Nat → Int) : (drawsOf (run1 35 f)).map List.length = some 7 := by kernel_rfl
theorem dr36 (f : Nat → Int) : (drawsOf (run1 36 f)).map List.length = some 7 := by kernel_rfl
theorem dr37 (f : Nat → Int) : (drawsOf (run1 37 f)).map List.length = some 7 := by kernel_rfl
theorem dr38 (f : Nat → Int) : (drawsOf (run1 38 f)).map List.length = some 7 := by kernel_rfl
theorem dr39 (f : Nat → Int) : (drawsOf (run1 39 f)).map List.length = some 7 := by kernel_rfl
theorem dr40 (f : Nat → Int) : (drawsOf (run1 40 f)).map List.length = some 7 := by kernel_rfl
theorem dr41 (f : Nat → Int) : (drawsOf (run1 41 f)).map List.length = some 7 := by kernel_rfl
theorem dr42 (f : Nat → Int) : (drawsOf (run1 42 f)).map List.length = some 7 := by kernel_rfl
theorem dr43 (f : Nat → Int) : (drawsOf (run1 43 f)).map List.length = some 7 := by kernel_rfl
theorem dr44 (f : Nat → Int) : (drawsOf (run1 44 f)).map List.length = some 7 := by kernel_rfl
theorem dr45 (f : Nat → Int) : (drawsOf (run1 45 f)).map List.length = some 7 := by kernel_rfl
theorem dr46 (f : Nat → Int) : (drawsOf (run1 46 f)).map List.length = some 7 := by kernel_rfl
theorem dr47 (f : Nat → Int) : (drawsOf (run1 47 f)).map List.length = some 7 := by kernel_rfl
theorem dr48 (f : Nat → Int) : (drawsOf (run1 48 f)).map List.length = some 7 := by kernel_rfl
theorem dr49 (f : Nat → Int) : (drawsOf (run1 49 f)).map List.length = some 7 := by kernel_rfl
theorem dr50 (f : Nat → Int) : (drawsOf (run1 50 f)).map List.length = some 7 := by kernel_rfl
theorem dr51 (f : Nat → Int) : (drawsOf (run1 51 f)).map List.length = some 7 := by kernel_rfl
theorem dr52 (f : Nat → Int) : (drawsOf (run1 52 f)).map List.length = some 7 := by kernel_rfl
theorem dr53 (f : Nat → Int) : (drawsOf (run1 53 f)).map List.length = some 7 := by kernel_rfl
theorem dr54 (f : Nat → Int) : (drawsOf (run1 54 f)).map List.length = some 7 := by kernel_rfl
theorem dr55 (f : Nat → Int) : (drawsOf (run1 55 f)).map List.length = some 7 := by kernel_rfl
theorem dr56 (f : Nat → Int) : (drawsOf (run1 56 f)).map List.length = some 7 := by kernel_rfl
theorem dr57 (f : Nat → Int) : (drawsOf (run1 57 f)).map List.length = some 7 := by kernel_rfl
theorem dr58 (f : Nat → Int) : (drawsOf (run1 58 f)).map List.length = some 7 := by kernel_rfl
theorem dr59 (f : Nat → Int) : (drawsOf (run1 59 f)).map List.length = some 7 := by kernel_rfl
theorem dr60 (f : Nat → Int) : (drawsOf (run1 60 f)).map List.length = some 7 := by kernel_rfl
theorem dr61 (f : Nat → Int) : (drawsOf (run1 61 f)).map List.length = some 7 := by kernel_rfl
theorem dr62 (f : Nat → Int) : (drawsOf (run1 62 f)).map List.length = some 7 := by kernel_rfl
theorem dr63 (f : Nat → Int) : (drawsOf (run1 63 f)).map List.length = some 7 := by kernel_rfl
theorem draws_any (f : Nat → Int) : ∀ n, n < 64 → (drawsOf (run1 n f)).map List.length = some (4 + upTo3 n)
  | 0, _ => dr0 f
  | 1, _ => dr1 f
  | 2, _ => dr2 f
  | 3, _ => dr3 f
  | 4, _ => dr4 f
  | 5, _ => dr5 f
  | 6, _ => dr6 f
  | 7, _ => dr7 f
  | 8, _ => dr8 f
  | 9, _ => dr9 f
  | 10, _ => dr10 f
  | 11, _ => dr11 f
  | 12, _ => dr12 f
  | 13, _ => dr13 f
  | 14, _ => dr14 f
  | 15, _ => dr15 f
  | 16, _ => dr16 f
  | 17, _ => dr17 f
  | 18, _ => dr18 f
  | 19, _ => dr19 f
  | 20, _ => dr20 f
  | 21, _ => dr21 f
  | 22, _ => dr22 f
  | 23, _ => dr23 f
  | 24, _ => dr24 f
  | 25, _ => dr25 f
  | 26, _ => dr26 f
  | 27, _ => dr27 f
  | 28, _ => dr28 f
  | 29, _ => dr29 f
  | 30, _ => dr30 f
  | 31, _ => dr31 f
  | 32, _ => dr32 f
  | 33, _ => dr33 f
  | 34, _ => dr34 f
  | 35, _ => dr35 f
  | 36, _ => dr36 f
  | 37, _ => dr37 f
  | 38, _ => dr38 f
  | 39, _ => dr39 f
  | 40, _ => dr40 f
  | 41, _ => dr41 f
  | 42, _ => dr42 f
  | 43, _ => dr43 f
  | 44, _ => dr44 f
  | 45, _ => dr45 f
  | 46, _ => dr46 f
  | 47, _ => dr47 f
  | 48, _ => dr48 f
  | 49, _ => dr49 f
  | 50, _ => dr50 f
  | 51, _ => dr51 f
  | 52, _ => dr52 f
  | 53, _ => dr53 f
  | 54, _ => dr54 f
  | 55, _ => dr55 f
  | 56, _ => dr56 f
  | 57, _ => dr57 f
  | 58, _ => dr58 f
  | 59, _ => dr59 f
  | 60, _ => dr60 f
  | 61, _ => dr61 f
  | 62, _ => dr62 f
  | 63, _ => dr63 f
  | n + 64, h => absurd h (by omega)

noncomputable def keysD : FDef := mkF 169 "_law_keys" body0
noncomputable def key1 (T : Int) : V := .tup [.int (Int.fmod T 2), .int (1 - Int.fmod (Int.fdiv T 2) 2 * 2)]
noncomputable def key2 (T : Int) : V := .tup [.int (1 - Int.fmod T 2), .int (1 - Int.fmod (Int.fdiv T 4) 2 * 2)]
noncomputable def kv (T : Int) : Vars := [("total", .int T), ("first", key1 T)]
noncomputable def keysB (T : Int) : Bool := decide (Int.fmod (Int.fdiv T 8) 3 = 0)
noncomputable def keysV (T : Int) : V := if keysB T then .tup [key1 T] else .tup [key1 T, key2 T]
noncomputable def testOf : Stmt → Expr
  | .If t _ _ _ => t
  | _ => default
noncomputable def thenOf : Stmt → List Stmt
  | .If _ b _ _ => b
  | _ => []
noncomputable def elseOf : Stmt → List Stmt
  | .If _ _ b _ => b
  | _ => []
abbrev Out := Option (Fl × Vars × Sto)
noncomputable def ifK (t : Res Bool) (a b : Sto → Out) : Out := match t with
  | some (true, σ) => a σ
  | some (false, σ) => b σ
  | _ => Option.none
noncomputable def seqK (r : Out) (k : Vars → Sto → Out) : Out := match r with
  | some (Fl.next, vars, σ) => k vars σ
  | x => x
noncomputable def endK (r : Out) : Res V := match r with
  | some (Fl.ret v, _, σ) => some (v, σ)
  | some (Fl.next, _, σ) => some (.none, σ)
  | _ => Option.none
theorem keys_eval (T : Int) (σ : Sto) : (ev P0 Ω0 30).c keysD [.int T] σ = some (keysV T, σ) := by
  have t1 : (ev P0 Ω0 26).t ⟨keysD.scope, kv T⟩ (testOf (stOf keysD 1)) σ = some (keysB T, σ) := by kernel_rfl
  have a1 : (ev P0 Ω0 26).ss ⟨keysD.scope, kv T⟩ (thenOf (stOf keysD 1)) σ = some (Fl.ret (.tup [key1 T]), kv T, σ) := by kernel_rfl
  have a2 : (ev P0 Ω0 26).ss ⟨keysD.scope, kv T⟩ (elseOf (stOf keysD 1)) σ = some (Fl.next, kv T, σ) := by kernel_rfl
  have a3 : (ev P0 Ω0 27).ss ⟨keysD.scope, kv T⟩ (keysD.body.drop 2) σ = some (Fl.ret (.tup [key1 T, key2 T]), kv T, σ) := by kernel_rfl
  have e : (ev P0 Ω0 30).c keysD [.int T] σ = endK (seqK (ifK ((ev P0 Ω0 26).t ⟨keysD.scope, kv T⟩ (testOf (stOf keysD 1)) σ)
      (fun σ => (ev P0 Ω0 26).ss ⟨keysD.scope, kv T⟩ (thenOf (stOf keysD 1)) σ) (fun σ => (ev P0 Ω0 26).ss ⟨keysD.scope, kv T⟩ (elseOf (stOf keysD 1)) σ))
      fun vars σ => (ev P0 Ω0 27).ss ⟨keysD.scope, vars⟩ (keysD.body.drop 2) σ) := by kernel_rfl
  rw [e, t1]
  unfold keysV
  cases keysB T with
  | true => show endK (seqK ((ev P0 Ω0 26).ss _ (thenOf (stOf keysD 1)) σ) _) = _; rw [a1]; rfl
  | false => show endK (seqK ((ev P0 Ω0 26).ss _ (elseOf (stOf keysD 1)) σ) _) = _; rw [a2]; show endK ((ev P0 Ω0 27).ss _ _ σ) = _; rw [a3]; rfl
end HQ
end
section
set_option autoImplicit false
set_option linter.unusedSectionVars false
set_option linter.unusedVariables false
set_option linter.unusedSimpArgs false
set_option maxRecDepth 10000
namespace HQ
open PySem PySem.W PySem.Calls PyProof.Rows PySem.Spec

section
variable [Gh]
mutual
/-- what stands in the base stands later -/
theorem RV.up {h h' : Heap} {ρ : List Addr} (k : ∀ b o, h.get? b = some o → h'.get? b = some o) (l : ∀ a ∈ ρ, h.get? a = Option.none) : ∀ {v : Value} {x : V}, RV [] h v x → RV ρ h' v x
  | _, _, .none => .none
  | _, _, .bool b => .bool b
  | _, _, .int i t => .int i t
  | _, _, .str s t => .str s t
  | _, _, .tup ⟨o, e, r⟩ hl => .tup ⟨o, k _ _ e, r⟩ (RL.up k l hl)
  | _, _, .lst ⟨o, e, r⟩ _ hl => .lst ⟨o, k _ _ e, r⟩ (fun m => by rw [l _ m] at e; cases e) (RL.up k l hl)
  | _, _, .ref e => by simp at e
  | _, _, .rng e => .rng (k _ _ e)
  | _, _, .its _ e => by simp at e
  | _, _, .any t e hh => .any t e hh
theorem RL.up {h h' : Heap} {ρ : List Addr} (k : ∀ b o, h.get? b = some o → h'.get? b = some o) (l : ∀ a ∈ ρ, h.get? a = Option.none) : ∀ {vs : List Value} {x : List V}, RL [] h vs x → RL ρ h' vs x
  | _, _, .nil => .nil
  | _, _, .cons hv hl => .cons (RV.up k l hv) (RL.up k l hl)
end
theorem St.up {w : World} {h₀ h : Heap} {ρ : List Addr} {σ : Sto} (S : St w h₀ ρ σ h) {v : Value} {x : V} (r : RV [] h₀ v x) : RV ρ h v x := r.up S.base S.lo
theorem St.zero (w : World) (h : Heap) (X : List Addr) (big : SysIn (hideAll h X)) : St w (hideAll h X) [] [] h := ⟨rfl, List.nodup_nil, (fun _ m => by cases m), (fun _ m => by cases m), big, (fun _ _ e => of_hideAll X e), (fun c x a e => by cases e)⟩
end

/-- a frame without captured names, seen anew -/
theorem FrOK.re {g1 g2 : Gh} {h₀ h₀' h : Heap} {ρ ρ' : List Addr} {env : Env} {sc : Scope} {vars vars' : Vars} (X : @FrOK g1 h₀ ρ h env ⟨sc, vars⟩) (nc : ∀ x, sc.names.lookup x ≠ some .cell ∧ sc.names.lookup x ≠ some .free)
    (l0 : h₀'.get? env.locals = Option.none) (lr : env.locals ∉ ρ') (hv : ∀ x v', look x vars' = some v' → ∃ v, look x vars = some v ∧ ∀ val, @RV g1 ρ h val v → @RV g2 ρ' h val v') : @FrOK g2 h₀' ρ' h env ⟨sc, vars'⟩ := by
  obtain ⟨x1, x2, x3, x4, x5, x6, x7, x8, x9, xk, xn, -, -, -, -, -⟩ := X
  refine @FrOK.mk g2 _ _ _ _ _ x1 x2 x3 x4 x5 x6 x7 x8 x9 (fun x v e => ?_) ?_ (fun x hx => ?_) (fun x y c h => absurd h (nc x).1) lr l0 (fun x c h => absurd h (nc x).1)
  · obtain ⟨v0, h1, _⟩ := hv x v e
    exact xk x v0 h1
  · obtain ⟨m, hn, hm⟩ := xn
    refine ⟨m, hn, fun x v h1 h2 => ?_⟩
    obtain ⟨v0, h3, h4⟩ := hv x v h2
    obtain ⟨val, h5, h6⟩ := hm x v0 h1 h3
    exact ⟨val, h5, h4 val h6⟩
  · rcases hx with hx | hx
    · exact absurd hx (nc x).1
    · exact absurd hx (nc x).2

theorem hide_ne {h : Heap} {X : List Addr} {b : Addr} {o : Obj} (e : h.get? b = some o) (n : b ∉ X) : (hideAll h X).get? b = some o := hideAll_get X e n

theorem law_nc : ∀ x, lawD.scope.names.lookup x ≠ some .cell ∧ lawD.scope.names.lookup x ≠ some .free := by
  have key : (lawD.scope.names.all fun p => p.2 != .cell && p.2 != .free) = true := by decide +kernel
  rw [List.all_eq_true] at key
  intro x
  constructor <;> intro e <;> (have := key _ (mem_of_lookup e); simp at this)

theorem Ω0OK [Gh] (K : Frag) (w : World) (h₀ : Heap) (c : Nat) : ΩOK P0 K w h₀ c Ω0 := ⟨(fun _ e => by cases e), (fun e => by cases e), (fun e => by cases e)⟩

theorem getD_map (ns : List Int) : ns.map V.int = (List.range ns.length).map fun i => V.int (ns.getD i 0) := by
  apply List.ext_getElem?
  intro i
  simp only [List.getElem?_map, List.getElem?_range']
  by_cases h : i < ns.length
  · simp [h]
  · simp [h]

/-- how a piece of law's body leaves the state -/
structure Left (w : World) (h₀ : Heap) (env : Env) (s s' : Shared) : Prop where
  same : ∃ h' tk, s' = { s with heap := h', toks := tk }
  base : ∀ b o, h₀.get? b = some o → s'.heap.get? b = some o

theorem law_s1 [g : Gh] {w : World} {h₀ : Heap} (B : Base (K39 w.params) h₀) {A : Around} (r : Room 0 60 A) {env : Env} {s : Shared} {ns : List Int} (hns : ns.length < 64) (S : St w h₀ [] [] s.heap) (X : FrOK h₀ [] s.heap env (F1 (ns.map .int))) {E : Value → Shared → Prop} {Q : Flow → Shared → Prop}
    (k : ∀ (ds : List Int) h₀' s', 4 ≤ ds.length ∧ ds.length ≤ 7 → (∀ b o, h₀.get? b = some o → h₀'.get? b = some o) → (∃ h' tk, s' = { s with heap := h', toks := tk }) → St w h₀' [] [] s'.heap → FrOK h₀' [] s'.heap env ⟨lawD.scope, [("draws", .lst (ds.map .int))]⟩ → Q .next s') :
    wpAny (model prog w) A (exec (lawSt 0) env) Q E s := by
  have H := ev_sound B (progOK w.params) (Ω0OK (K39 w.params) w h₀ 0) 60
  have e := draws_any (fun i => ns.getD i 0) ns.length hns
  rw [Option.map_eq_some_iff] at e
  obtain ⟨ds, e, hl⟩ := e
  unfold run1 at e
  rw [← getD_map] at e
  unfold drawsOf at e
  split at e
  · rename_i vars σ h1
    split at e
    · rename_i c h2
      split at e
      · rename_i l h3
        refine H.s h1 r S X fun f ρ' s' st' S' X' hf => ?_
        cases hf
        have hlen : 4 ≤ ds.length ∧ ds.length ≤ 7 := by
          rw [hl]; unfold upTo3; split <;> omega
        have nl : ∀ b o, h₀.get? b = some o → b ∉ [env.locals] := fun b o eb m => by
          simp at m; rw [m, X.l0] at eb; cases eb
        refine k ds (hideAll s'.heap [env.locals]) s' hlen (fun b o eb => hide_ne (S'.base b o eb) (nl b o eb)) st'.same (St.zero w _ _ (S.big.up fun b o eb => hide_ne (S'.base b o eb) (nl b o eb))) (FrOK.re X' law_nc (hideAll_none _ (by simp)) (by simp) fun x v' hv => ?_)
        simp only [look_cons, look_nil] at hv
        split at hv
        · rename_i hx; subst hx; cases hv
          refine ⟨_, h2, fun val rv => ?_⟩
          obtain ⟨a, rfl, q⟩ := ref_of rv
          obtain ⟨vs, ⟨nn, ho⟩, hr⟩ := S'.ref h3 q
          exact .lst ⟨_, ho, rfl, nn, rfl⟩ (by simp) (RL.ofInts (ints_are hr e))
        · cases hv
      · cases e
    · cases e
  · cases e
end HQ
end
section
set_option autoImplicit false
set_option linter.unusedSectionVars false
set_option linter.unusedVariables false
set_option linter.unusedSimpArgs false
set_option maxRecDepth 100000
namespace HQ
open PySem PySem.W PySem.Calls PyProof.Rows PySem.Spec

/-- values that ask no cell and no opaque value: numbers, texts, tuples of such -/
inductive PV : V → Prop
  | none : PV .none
  | bool (b : Bool) : PV (.bool b)
  | int (i : Int) : PV (.int i)
  | str (s : List Nat) : PV (.str s)
  | tup {l : List V} : (∀ x ∈ l, PV x) → PV (.tup l)

mutual
theorem RV.pure {g1 g2 : Gh} {h h' : Heap} {ρ ρ' : List Addr} (k : ∀ b o, h.get? b = some o → frozenO o = true → h'.get? b = some o) {v : Value} {x : V} (r : @RV g1 ρ h v x) (p : PV x) : @RV g2 ρ' h' v x := by
  cases r with
  | none => exact @RV.none g2 _ _
  | bool b => exact @RV.bool g2 _ _ b
  | int i t => exact @RV.int g2 _ _ i t
  | str s t => exact @RV.str g2 _ _ s t
  | tup ht hl =>
    obtain ⟨o, e, f⟩ := isTuple_frozen ht
    obtain ⟨o', e', r⟩ := ht
    have : o' = o := by rw [e] at e'; cases e'; rfl
    subst this
    exact @RV.tup g2 _ _ _ _ _ ⟨_, k _ _ e f, r⟩ (RL.pure k hl (by cases p with | tup q => exact q))
  | lst _ _ _ => cases p
  | ref _ => cases p
  | rng _ => cases p
  | its _ _ => cases p
  | any _ _ _ => cases p
theorem RL.pure {g1 g2 : Gh} {h h' : Heap} {ρ ρ' : List Addr} (k : ∀ b o, h.get? b = some o → frozenO o = true → h'.get? b = some o) {vs : List Value} {l : List V} (r : @RL g1 ρ h vs l) (p : ∀ x ∈ l, PV x) : @RL g2 ρ' h' vs l := by
  cases r with
  | nil => exact @RL.nil g2 _ _
  | cons hv hl => exact @RL.cons g2 _ _ _ _ _ _ (RV.pure k hv (p _ (List.mem_cons_self ..))) (RL.pure k hl fun x m => p x (List.mem_cons_of_mem _ m))
end

theorem intsV_map : ∀ ds : List Int, intsV (ds.map V.int) = some ds
  | [] => rfl
  | d :: r => by simp only [List.map_cons, intsV, intsV_map r]; rfl
theorem RV.ints {g1 g2 : Gh} {h : Heap} {ρ : List Addr} {v : Value} {ds : List Int} (r : @RV g1 ρ h v (.lst (ds.map .int))) : @RV g2 [] h v (.lst (ds.map .int)) := by
  cases r with
  | lst hl _ hr => exact @RV.lst g2 _ _ _ _ _ hl (by simp) (@RL.ofInts g2 _ _ _ _ (@ints_are g1 _ _ _ _ _ hr (intsV_map ds)))

/-- hiding what is not frozen keeps what is frozen -/
theorem hide_frozen {h : Heap} {X : List Addr} (hX : ∀ a ∈ X, ∀ o, h.get? a = some o → frozenO o = false) : ∀ b o, h.get? b = some o → frozenO o = true → (hideAll h X).get? b = some o := fun b o e f => hide_ne e fun m => by rw [hX b m o e] at f; cases f

noncomputable def Ω1 : Str → List V → Sto → Option (V × Sto) := fun f as σ => if f = "_law_keys" then (match as with
  | [.int T] => some (keysV T, σ)
  | _ => Option.none) else Option.none

theorem Room.plain {c n m : Nat} {A : Around} (r : Room c n A) (h : m ≤ c + n) : Room 0 m A := ⟨r.1, by have := r.2.1; omega, by have := r.2.2; omega⟩

theorem Ω1OK [Gh] {K : Frag} {w : World} {h₀ : Heap} (B : Base K h₀) (PO : ProgOK P0 K) : ΩOK P0 K w h₀ 40 Ω1 := by
  refine ⟨fun {A ρ s σ f as x σ' vs d} hd e r S rl Rr k => ?_, (fun e => by cases e), (fun e => by cases e)⟩
  unfold Ω1 at e
  split at e
  · rename_i hf
    subst hf
    split at e
    · rename_i T
      cases e
      rcases hd with hd | ⟨t, ht⟩
      · have hk : P0.fn "_law_keys" = some keysD := by kernel_rfl
        rw [hk] at hd; cases hd
        exact (ev_sound B PO (Ω0OK K w h₀ 0) 30).c (keys_eval T σ) (PO.fn _ _ hk).2 (r.plain (by omega)) S rl k
      · cases ht
    · cases e
  · cases e

noncomputable def V2a (ds : List Int) : Vars := [("draws", .lst (ds.map .int))]
noncomputable def V2 (ds : List Int) : Vars := [("draws", .lst (ds.map .int)), ("rule", .ref 0)]
noncomputable def S2 (T : Int) : Sto := [.inst 80 1, .attrs [("comp_select_list", keysV T)]]
noncomputable def run2 (ds : List Int) := (ev P0 Ω1 60).s ⟨lawD.scope, V2a ds⟩ (lawSt 1) []
theorem rule_any : ∀ ds : List Int, 4 ≤ ds.length ∧ ds.length ≤ 7 → ∃ T, run2 ds = some (Fl.next, V2 ds, S2 T)
  | [], h => absurd h (by simp)
  | [_], h => absurd h (by simp)
  | [_, _], h => absurd h (by simp)
  | [_, _, _], h => absurd h (by simp)
  | [a, b, c, d], _ => ⟨0 + a + b + c + d, by kernel_rfl⟩
  | [a, b, c, d, e], _ => ⟨0 + a + b + c + d + e, by kernel_rfl⟩
  | [a, b, c, d, e, f], _ => ⟨0 + a + b + c + d + e + f, by kernel_rfl⟩
  | [a, b, c, d, e, f, g], _ => ⟨0 + a + b + c + d + e + f + g, by kernel_rfl⟩
  | _ :: _ :: _ :: _ :: _ :: _ :: _ :: _ :: _, h => absurd h.2 (by simp)

theorem keys_pv (T : Int) : PV (keysV T) := by
  have p1 : PV (key1 T) := .tup fun x m => by simp at m; rcases m with rfl | rfl <;> exact .int _
  have p2 : PV (key2 T) := .tup fun x m => by simp at m; rcases m with rfl | rfl <;> exact .int _
  unfold keysV
  split
  · exact .tup fun x m => by simp at m; subst m; exact p1
  · exact .tup fun x m => by simp at m; rcases m with rfl | rfl <;> assumption

/-- the rule stands in the base -/
structure RuleAt (h₀ : Heap) (ra : Addr) (keys : V) : Prop where
  at_ : ∃ da od val, h₀.get? ra = some (instObj 80 da) ∧ h₀.get? da = some od ∧ lookIn "comp_select_list" od = some (some val) ∧ lookIn "compare" od = some Option.none ∧ handedIn val = true ∧ ∀ g : Gh, @RV g [] h₀ val keys

theorem law_s2 [g : Gh] {w : World} {h₀ : Heap} (B : Base (K39 w.params) h₀) {A : Around} (r : Room 40 60 A) {env : Env} {s : Shared} {ds : List Int} (hds : 4 ≤ ds.length ∧ ds.length ≤ 7) (S : St w h₀ [] [] s.heap) (X : FrOK h₀ [] s.heap env ⟨lawD.scope, V2a ds⟩) {E : Value → Shared → Prop} {Q : Flow → Shared → Prop}
    (k : ∀ T ra h₀' s' (g2 : Gh), RuleAt h₀' ra (keysV T) → g2.g 9 = .ref ra → (∀ b o, h₀.get? b = some o → h₀'.get? b = some o) → (∃ h' tk, s' = { s with heap := h', toks := tk }) → @St g2 w h₀' [] [] s'.heap → @FrOK g2 h₀' [] s'.heap env ⟨lawD.scope, [("draws", .lst (ds.map .int)), ("rule", .any 9)]⟩ → Q .next s') :
    wpAny (model prog w) A (exec (lawSt 1) env) Q E s := by
  have PO := progOK w.params
  have H := ev_sound B PO (Ω1OK (w := w) B PO) 60
  obtain ⟨T, e⟩ := rule_any ds hds
  unfold run2 at e
  refine H.s e r S X fun f ρ' s' st' S' X' hf => ?_
  cases hf
  have hlenρ := S'.len
  match ρ', hlenρ, S', X', st' with
  | [ra, da], _, S', X', st' =>
  obtain ⟨dx, q, hra⟩ := S'.ref (c := 0) (x := .inst 80 1) (a := ra) rfl rfl
  have hdx : dx = da := by simpa using q.symm
  subst hdx
  obtain ⟨m, hn1, hra1⟩ := S'.ref (c := 1) (x := .attrs [("comp_select_list", keysV T)]) (a := dx) rfl rfl
  obtain ⟨od, hod, hlook⟩ := lookIn_ns hn1
  have nL : ra ≠ env.locals ∧ dx ≠ env.locals := by
    have := X'.lr
    simp at this
    exact ⟨fun e => this.1 e.symm, fun e => this.2 e.symm⟩
  have nl : ∀ b o, h₀.get? b = some o → b ∉ [env.locals] := fun b o eb m => by
    simp at m; rw [m, X.l0] at eb; cases eb
  have hLf : ∀ a ∈ [env.locals], ∀ o, s'.heap.get? a = some o → frozenO o = false := fun a m o e => by
    simp at m; subst m
    obtain ⟨mm, hns, _⟩ := X'.ns
    obtain ⟨o', e', f', _⟩ := ns_obj hns
    rw [e] at e'; cases e'; exact f'
  have kf := hide_frozen hLf
  have c1 := hra1 "comp_select_list"
  have c2 := hra1 "compare"
  have e1 : look "comp_select_list" [(("comp_select_list" : Str), keysV T)] = some (keysV T) := by kernel_rfl
  have e2 : look "compare" [(("comp_select_list" : Str), keysV T)] = Option.none := by kernel_rfl
  rw [e1] at c1
  rw [e2] at c2
  obtain ⟨val, hm, rv⟩ := c1
  refine k T ra (hideAll s'.heap [env.locals]) s' ⟨fun _ => .ref ra⟩ ⟨dx, od, val, hide_ne hra (by simp [nL.1]), hide_ne hod (by simp [nL.2]), by rw [hlook, hm], by rw [hlook, c2], rv.handed, fun g2 => rv.pure kf (keys_pv T)⟩ rfl
    (fun b o eb => hide_ne (S'.base b o eb) (nl b o eb)) st'.same (@St.zero ⟨fun _ => .ref ra⟩ w _ _ (S.big.up fun b o eb => hide_ne (S'.base b o eb) (nl b o eb))) (FrOK.re X' law_nc (hideAll_none _ (by simp)) (by simp) fun x v' hv => ?_)
  simp only [look_cons, look_nil] at hv
  split at hv
  · rename_i hx; subst hx; cases hv
    exact ⟨.lst (ds.map .int), by kernel_rfl, fun val rv => rv.ints⟩
  · split at hv
    · rename_i hx; subst hx; cases hv
      refine ⟨.ref 0, by kernel_rfl, fun val rv => ?_⟩
      obtain ⟨a, rfl, q⟩ := ref_of rv
      simp at q; subst q
      exact @RV.any ⟨fun _ => .ref ra⟩ _ _ _ 9 rfl rfl
    · cases hv
end HQ
end
section
set_option autoImplicit false
set_option linter.unusedSectionVars false
set_option linter.unusedVariables false
set_option maxRecDepth 100000
namespace HQ
open PySem PySem.W PySem.Calls PyProof.Rows PySem.Spec
/-- the twelve rules -/
noncomputable def keysC : Nat → V
  | 0 => .tup [.tup [.int 0, .int 1]]
  | 1 => .tup [.tup [.int 0, .int (-1)]]
  | 2 => .tup [.tup [.int 1, .int 1]]
  | 3 => .tup [.tup [.int 1, .int (-1)]]
  | 4 => .tup [.tup [.int 0, .int 1], .tup [.int 1, .int 1]]
  | 5 => .tup [.tup [.int 0, .int 1], .tup [.int 1, .int (-1)]]
  | 6 => .tup [.tup [.int 0, .int (-1)], .tup [.int 1, .int 1]]
  | 7 => .tup [.tup [.int 0, .int (-1)], .tup [.int 1, .int (-1)]]
  | 8 => .tup [.tup [.int 1, .int 1], .tup [.int 0, .int 1]]
  | 9 => .tup [.tup [.int 1, .int 1], .tup [.int 0, .int (-1)]]
  | 10 => .tup [.tup [.int 1, .int (-1)], .tup [.int 0, .int 1]]
  | 11 => .tup [.tup [.int 1, .int (-1)], .tup [.int 0, .int (-1)]]
  | _ => .none
/-- a class's place under a rule -/
noncomputable def rkC : Nat → Nat → Nat
  | 0, 0 => 0
  | 0, 1 => 0
  | 0, 2 => 1
  | 1, 0 => 1
  | 1, 1 => 1
  | 1, 2 => 0
  | 2, 0 => 0
  | 2, 1 => 1
  | 2, 2 => 0
  | 3, 0 => 1
  | 3, 1 => 0
  | 3, 2 => 1
  | 4, 0 => 0
  | 4, 1 => 1
  | 4, 2 => 2
  | 5, 0 => 1
  | 5, 1 => 0
  | 5, 2 => 2
  | 6, 0 => 1
  | 6, 1 => 2
  | 6, 2 => 0
  | 7, 0 => 2
  | 7, 1 => 1
  | 7, 2 => 0
  | 8, 0 => 0
  | 8, 1 => 2
  | 8, 2 => 1
  | 9, 0 => 1
  | 9, 1 => 2
  | 9, 2 => 0
  | 10, 0 => 1
  | 10, 1 => 0
  | 10, 2 => 2
  | 11, 0 => 2
  | 11, 1 => 0
  | 11, 2 => 1
  | _, _ => 9
noncomputable def clsV (k : Nat) (v : Int) : List V := match k with
  | 0 => [.int 0, .int 0, .int v]
  | 1 => [.int 0, .int 1, .int v]
  | _ => [.int 1, .int 0, .int v]
noncomputable def sg (i j : Nat) : Int := if i < j then -1 else if i = j then 0 else 1
noncomputable def compareD : FDef := mkF 77 "compare" (clsB "TupleComp")
noncomputable def P2 (keys : V) : Prog := { P0 with
  oattr := fun t a => if t = 9 ∧ a = "comp_select_list" then some keys else Option.none
  ometh := fun t m => if t = 9 ∧ m = "compare" then some compareD else Option.none }
noncomputable def cmpRun (q a b : Nat) (v u : Int) (σ : Sto) := (ev (P2 (keysC q)) Ω0 30).c compareD [.any 9, .tup (clsV a v), .tup (clsV b u)] σ
theorem cm0x0x0 (v u : Int) (σ : Sto) : cmpRun 0 0 0 v u σ = some (.int (sg (rkC 0 0) (rkC 0 0)), σ) := by kernel_rfl
theorem cm0x0x1 (v u : Int) (σ : Sto) : cmpRun 0 0 1 v u σ = some (.int (sg (rkC 0 0) (rkC 0 1)), σ) := by kernel_rfl
theorem cm0x0x2 (v u : Int) (σ : Sto) : cmpRun 0 0 2 v u σ = some (.int (sg (rkC 0 0) (rkC 0 2)), σ) := by kernel_rfl
theorem cm0x1x0 (v u : Int) (σ : Sto) : cmpRun 0 1 0 v u σ = some (.int (sg (rkC 0 1) (rkC 0 0)), σ) := by kernel_rfl
theorem cm0x1x1 (v u : Int) (σ : Sto) : cmpRun 0 1 1 v u σ = some (.int (sg (rkC 0 1) (rkC 0 1)), σ) := by kernel_rfl
theorem cm0x1x2 (v u : Int) (σ : Sto) : cmpRun 0 1 2 v u σ = some (.int (sg (rkC 0 1) (rkC 0 2)), σ) := by kernel_rfl
theorem cm0x2x0 (v u : Int) (σ : Sto) : cmpRun 0 2 0 v u σ = some (.int (sg (rkC 0 2) (rkC 0 0)), σ) := by kernel_rfl
theorem cm0x2x1 (v u : Int) (σ : Sto) : cmpRun 0 2 1 v u σ = some (.int (sg (rkC 0 2) (rkC 0 1)), σ) := by kernel_rfl
theorem cm0x2x2 (v u : Int) (σ : Sto) : cmpRun 0 2 2 v u σ = some (.int (sg (rkC 0 2) (rkC 0 2)), σ) := by kernel_rfl
theorem cm1x0x0 (v u : Int) (σ : Sto) : cmpRun 1 0 0 v u σ = some (.int (sg (rkC 1 0) (rkC 1 0)), σ) := by kernel_rfl
theorem cm1x0x1 (v u : Int) (σ : Sto) : cmpRun 1 0 1 v u σ = some (.int (sg (rkC 1 0) (rkC 1 1)), σ) := by kernel_rfl
theorem cm1x0x2 (v u : Int) (σ : Sto) : cmpRun 1 0 2 v u σ = some (.int (sg (rkC 1 0) (rkC 1 2)), σ) := by kernel_rfl
theorem cm1x1x0 (v u : Int) (σ : Sto) : cmpRun 1 1 0 v u σ = some (.int (sg (rkC 1 1) (rkC 1 0)), σ) := by kernel_rfl
theorem cm1x1x1 (v u : Int) (σ : Sto) : cmpRun 1 1 1 v u σ = some (.int (sg (rkC 1 1) (rkC 1 1)), σ) := by kernel_rfl
theorem cm1x1x2 (v u : Int) (σ : Sto) : cmpRun 1 1 2 v u σ = some (.int (sg (rkC 1 1) (rkC 1 2)), σ) := by kernel_rfl
theorem cm1x2x0 (v u : Int) (σ : Sto) : cmpRun 1 2 0 v u σ = some (.int (sg (rkC 1 2) (rkC 1 0)), σ) := by kernel_rfl
theorem cm1x2x1 (v u : Int) (σ : Sto) : cmpRun 1 2 1 v u σ = some (.int (sg (rkC 1 2) (rkC 1 1)), σ) := by kernel_rfl
theorem cm1x2x2 (v u : Int) (σ : Sto) : cmpRun 1 2 2 v u σ = some (.int (sg (rkC 1 2) (rkC 1 2)), σ) := by kernel_rfl
theorem cm2x0x0 (v u : Int) (σ : Sto) : cmpRun 2 0 0 v u σ = some (.int (sg (rkC 2 0) (rkC 2 0)), σ) := by kernel_rfl
theorem cm2x0x1 (v u : Int) (σ : Sto) : cmpRun 2 0 1 v u σ = some (.int (sg (rkC 2 0) (rkC 2 1)), σ) := by kernel_rfl
theorem cm2x0x2 (v u : Int) (σ : Sto) : cmpRun 2 0 2 v u σ = some (.int (sg (rkC 2 0) (rkC 2 2)), σ) := by kernel_rfl
theorem cm2x1x0 (v u : Int) (σ : Sto) : cmpRun 2 1 0 v u σ = some (.int (sg (rkC 2 1) (rkC 2 0)), σ) := by kernel_rfl
theorem cm2x1x1 (v u : Int) (σ : Sto) : cmpRun 2 1 1 v u σ = some (.int (sg (rkC 2 1) (rkC 2 1)), σ) := by kernel_rfl
theorem cm2x1x2 (v u : Int) (σ : Sto) : cmpRun 2 1 2 v u σ = some (.int (sg (rkC 2 1) (rkC 2 2)), σ) := by kernel_rfl
theorem cm2x2x0 (v u : Int) (σ : Sto) : cmpRun 2 2 0 v u σ = some (.int (sg (rkC 2 2) (rkC 2 0)), σ) := by kernel_rfl
theorem cm2x2x1 (v u : Int) (σ : Sto) : cmpRun 2 2 1 v u σ = some (.int (sg (rkC 2 2) (rkC 2 1)), σ) := by kernel_rfl
theorem cm2x2x2 (v u : Int) (σ : Sto) : cmpRun 2 2 2 v u σ = some (.int (sg (rkC 2 2) (rkC 2 2)), σ) := by kernel_rfl
theorem cm3x0x0 (v u : Int) (σ : Sto) : cmpRun 3 0 0 v u σ = some (.int (sg (rkC 3 0) (rkC 3 0)), σ) := by kernel_rfl
theorem cm3x0x1 (v u : Int) (σ : Sto) : cmpRun 3 0 1 v u σ = some (.int (sg (rkC 3 0) (rkC 3 1)), σ) := by kernel_rfl
theorem cm3x0x2 (v u : Int) (σ : Sto) : cmpRun 3 0 2 v u σ = some (.int (sg (rkC 3 0) (rkC 3 2)), σ) := by kernel_rfl
theorem cm3x1x0 (v u : Int) (σ : Sto) : cmpRun 3 1 0 v u σ = some (.int (sg (rkC 3 1) (rkC 3 0)), σ) := by kernel_rfl
theorem cm3x1x1 (v u : Int) (σ : Sto) : cmpRun 3 1 1 v u σ = some (.int (sg (rkC 3 1) (rkC 3 1)), σ) := by kernel_rfl
theorem cm3x1x2 (v u : Int) (σ : Sto) : cmpRun 3 1 2 v u σ = some (.int (sg (rkC 3 1) (rkC 3 2)), σ) := by kernel_rfl
theorem cm3x2x0 (v u : Int) (σ : Sto) : cmpRun 3 2 0 v u σ = some (.int (sg (rkC 3 2) (rkC 3 0)), σ) := by kernel_rfl
theorem cm3x2x1 (v u : Int) (σ : Sto) : cmpRun 3 2 1 v u σ = some (.int (sg (rkC 3 2) (rkC 3 1)), σ) := by kernel_rfl
theorem cm3x2x2 (v u : Int) (σ : Sto) : cmpRun 3 2 2 v u σ = some (.int (sg (rkC 3 2) (rkC 3 2)), σ) := by kernel_rfl
theorem cm4x0x0 (v u : Int) (σ : Sto) : cmpRun 4 0 0 v u σ = some (.int (sg (rkC 4 0) (rkC 4 0)), σ) := by kernel_rfl
theorem cm4x0x1 (v u : Int) (σ : Sto) : cmpRun 4 0 1 v u σ = some (.int (sg (rkC 4 0) (rkC 4 1)), σ) := by kernel_rfl
theorem cm4x0x2 (v u : Int) (σ : Sto) : cmpRun 4 0 2 v u σ = some (.int (sg (rkC 4 0) (rkC 4 2)), σ) := by kernel_rfl
theorem cm4x1x0 (v u : Int) (σ : Sto) : cmpRun 4 1 0 v u σ = some (.int (sg (rkC 4 1) (rkC 4 0)), σ) := by kernel_rfl
theorem cm4x1x1 (v u : Int) (σ : Sto) : cmpRun 4 1 1 v u σ = some (.int (sg (rkC 4 1) (rkC 4 1)), σ) := by kernel_rfl
theorem cm4x1x2 (v u : Int) (σ : Sto) : cmpRun 4 1 2 v u σ = some (.int (sg (rkC 4 1) (rkC 4 2)), σ) := by kernel_rfl
theorem cm4x2x0 (v u : Int) (σ : Sto) : cmpRun 4 2 0 v u σ = some (.int (sg (rkC 4 2) (rkC 4 0)), σ) := by kernel_rfl
theorem cm4x2x1 (v u : Int) (σ : Sto) : cmpRun 4 2 1 v u σ = some (.int (sg (rkC 4 2) (rkC 4 1)), σ) := by kernel_rfl
theorem cm4x2x2 (v u : Int) (σ : Sto) : cmpRun 4 2 2 v u σ = some (.int (sg (rkC 4 2) (rkC 4 2)), σ) := by kernel_rfl
theorem cm5x0x0 (v u : Int) (σ : Sto) : cmpRun 5 0 0 v u σ = some (.int (sg (rkC 5 0) (rkC 5 0)), σ) := by kernel_rfl
theorem cm5x0x1 (v u : Int) (σ : Sto) : cmpRun 5 0 1 v u σ = some (.int (sg (rkC 5 0) (rkC 5 1)), σ) := by kernel_rfl
theorem cm5x0x2 (v u : Int) (σ : Sto) : cmpRun 5 0 2 v u σ = some (.int (sg (rkC 5 0) (rkC 5 2)), σ) := by kernel_rfl
theorem cm5x1x0 (v u : Int) (σ : Sto) : cmpRun 5 1 0 v u σ = some (.int (sg (rkC 5 1) (rkC 5 0)), σ) := by kernel_rfl
theorem cm5x1x1 (v u : Int) (σ : Sto) : cmpRun 5 1 1 v u σ = some (.int (sg (rkC 5 1) (rkC 5 1)), σ) := by kernel_rfl
theorem cm5x1x2 (v u : Int) (σ : Sto) : cmpRun 5 1 2 v u σ = some (.int (sg (rkC 5 1) (rkC 5 2)), σ) := by kernel_rfl
theorem cm5x2x0 (v u : Int) (σ : Sto) : cmpRun 5 2 0 v u σ = some (.int (sg (rkC 5 2) (rkC 5 0)), σ) := by kernel_rfl
theorem cm5x2x1 (v u : Int) (σ : Sto) : cmpRun 5 2 1 v u σ = some (.int (sg (rkC 5 2) (rkC 5 1)), σ) := by kernel_rfl
theorem cm5x2x2 (v u : Int) (σ : Sto) : cmpRun 5 2 2 v u σ = some (.int (sg (rkC 5 2) (rkC 5 2)), σ) := by kernel_rfl
theorem cm6x0x0 (v u : Int) (σ : Sto) : cmpRun 6 0 0 v u σ = some (.int (sg (rkC 6 0) (rkC 6 0)), σ) := by kernel_rfl
theorem cm6x0x1 (v u : Int) (σ : Sto) : cmpRun 6 0 1 v u σ = some (.int (sg (rkC 6 0) (rkC 6 1)), σ) := by kernel_rfl
theorem cm6x0x2 (v u : Int) (σ : Sto) : cmpRun 6 0 2 v u σ = some (.int (sg (rkC 6 0) (rkC 6 2)), σ) := by kernel_rfl
theorem cm6x1x0 (v u : Int) (σ : Sto) : cmpRun 6 1 0 v u σ = some (.int (sg (rkC 6 1) (rkC 6 0)), σ) := by kernel_rfl
theorem cm6x1x1 (v u : Int) (σ : Sto) : cmpRun 6 1 1 v u σ = some (.int (sg (rkC 6 1) (rkC 6 1)), σ) := by kernel_rfl
theorem cm6x1x2 (v u : Int) (σ : Sto) : cmpRun 6 1 2 v u σ = some (.int (sg (rkC 6 1) (rkC 6 2)), σ) := by kernel_rfl
theorem cm6x2x0 (v u : Int) (σ : Sto) : cmpRun 6 2 0 v u σ = some (.int (sg (rkC 6 2) (rkC 6 0)), σ) := by kernel_rfl
theorem cm6x2x1 (v u : Int) (σ : Sto) : cmpRun 6 2 1 v u σ = some (.int (sg (rkC 6 2) (rkC 6 1)), σ) := by kernel_rfl
theorem cm6x2x2 (v u : Int) (σ : Sto) : cmpRun 6 2 2 v u σ = some (.int (sg (rkC 6 2) (rkC 6 2)), σ) := by kernel_rfl
theorem cm7x0x0 (v u : Int) (σ : Sto) : cmpRun 7 0 0 v u σ = some (.int (sg (rkC 7 0) (rkC 7 0)), σ) := by kernel_rfl
theorem cm7x0x1 (v u : Int) (σ : Sto) : cmpRun 7 0 1 v u σ = some (.int (sg (rkC 7 0) (rkC 7 1)), σ) := by kernel_rfl
theorem cm7x0x2 (v u : Int) (σ : Sto) : cmpRun 7 0 2 v u σ = some (.int (sg (rkC 7 0) (rkC 7 2)), σ) := by kernel_rfl
theorem cm7x1x0 (v u : Int) (σ : Sto) : cmpRun 7 1 0 v u σ = some (.int (sg (rkC 7 1) (rkC 7 0)), σ) := by kernel_rfl
theorem cm7x1x1 (v u : Int) (σ : Sto) : cmpRun 7 1 1 v u σ = some (.int (sg (rkC 7 1) (rkC 7 1)), σ) := by kernel_rfl
theorem cm7x1x2 (v u : Int) (σ : Sto) : cmpRun 7 1 2 v u σ = some (.int (sg (rkC 7 1) (rkC 7 2)), σ) := by kernel_rfl
theorem cm7x2x0 (v u : Int) (σ : Sto) : cmpRun 7 2 0 v u σ = some (.int (sg (rkC 7 2) (rkC 7 0)), σ) := by kernel_rfl
theorem cm7x2x1 (v u : Int) (σ : Sto) : cmpRun 7 2 1 v u σ = some (.int (sg (rkC 7 2) (rkC 7 1)), σ) := by kernel_rfl
theorem cm7x2x2 (v u : Int) (σ : Sto) : cmpRun 7 2 2 v u σ = some (.int (sg (rkC 7 2) (rkC 7 2)), σ) := by kernel_rfl
theorem cm8x0x0 (v u : Int) (σ : Sto) : cmpRun 8 0 0 v u σ = some (.int (sg (rkC 8 0) (rkC 8 0)), σ) := by kernel_rfl
theorem cm8x0x1 (v u : Int) (σ : Sto) : cmpRun 8 0 1 v u σ = some (.int (sg (rkC 8 0) (rkC 8 1)), σ) := by kernel_rfl
theorem cm8x0x2 (v u : Int) (σ : Sto) : cmpRun 8 0 2 v u σ = some (.int (sg (rkC 8 0) (rkC 8 2)), σ) := by kernel_rfl
theorem cm8x1x0 (v u : Int) (σ : Sto) : cmpRun 8 1 0 v u σ = some (.int (sg (rkC 8 1) (rkC 8 0)), σ) := by kernel_rfl
theorem cm8x1x1 (v u : Int) (σ : Sto) : cmpRun 8 1 1 v u σ = some (.int (sg (rkC 8 1) (rkC 8 1)), σ) := by kernel_rfl
theorem cm8x1x2 (v u : Int) (σ : Sto) : cmpRun 8 1 2 v u σ = some (.int (sg (rkC 8 1) (rkC 8 2)), σ) := by kernel_rfl
theorem cm8x2x0 (v u : Int) (σ : Sto) : cmpRun 8 2 0 v u σ = some (.int (sg (rkC 8 2) (rkC 8 0)), σ) := by kernel_rfl
theorem cm8x2x1 (v u : Int) (σ : Sto) : cmpRun 8 2 1 v u σ = some (.int (sg (rkC 8 2) (rkC 8 1)), σ) := by kernel_rfl
theorem cm8x2x2 (v u : Int) (σ : Sto) : cmpRun 8 2 2 v u σ = some (.int (sg (rkC 8 2) (rkC 8 2)), σ) := by kernel_rfl
theorem cm9x0x0 (v u : Int) (σ : Sto) : cmpRun 9 0 0 v u σ = some (.int (sg (rkC 9 0) (rkC 9 0)), σ) := by kernel_rfl
theorem cm9x0x1 (v u : Int) (σ : Sto) : cmpRun 9 0 1 v u σ = some (.int (sg (rkC 9 0) (rkC 9 1)), σ) := by kernel_rfl
theorem cm9x0x2 (v u : Int) (σ : Sto) : cmpRun 9 0 2 v u σ = some (.int (sg (rkC 9 0) (rkC 9 2)), σ) := by kernel_rfl
theorem cm9x1x0 (v u : Int) (σ : Sto) : cmpRun 9 1 0 v u σ = some (.int (sg (rkC 9 1) (rkC 9 0)), σ) := by kernel_rfl
theorem cm9x1x1 (v u : Int) (σ : Sto) : cmpRun 9 1 1 v u σ = some (.int (sg (rkC 9 1) (rkC 9 1)), σ) := by kernel_rfl
theorem cm9x1x2 (v u : Int) (σ : Sto) : cmpRun 9 1 2 v u σ = some (.int (sg (rkC 9 1) (rkC 9 2)), σ) := by kernel_rfl
theorem cm9x2x0 (v u : Int) (σ : Sto) : cmpRun 9 2 0 v u σ = some (.int (sg (rkC 9 2) (rkC 9 0)), σ) := by kernel_rfl
theorem cm9x2x1 (v u : Int) (σ : Sto) : cmpRun 9 2 1 v u σ = some (.int (sg (rkC 9 2) (rkC 9 1)), σ) := by kernel_rfl
theorem cm9x2x2 (v u : Int) (σ : Sto) : cmpRun 9 2 2 v u σ = some (.int (sg (rkC 9 2) (rkC 9 2)), σ) := by kernel_rfl
theorem cm10x0x0 (v u : Int) (σ : Sto) : cmpRun 10 0 0 v u σ = some (.int (sg (rkC 10 0) (rkC 10 0)), σ) := by kernel_rfl
theorem cm10x0x1 (v u : Int) (σ : Sto) : cmpRun 10 0 1 v u σ = some (.int (sg (rkC 10 0) (rkC 10 1)), σ) := by kernel_rfl
theorem cm10x0x2 (v u : Int) (σ : Sto) : cmpRun 10 0 2 v u σ = some (.int (sg (rkC 10 0) (rkC 10 2)), σ) := by kernel_rfl
theorem cm10x1x0 (v u : Int) (σ : Sto) : cmpRun 10 1 0 v u σ = some (.int (sg (rkC 10 1) (rkC 10 0)), σ) := by kernel_rfl
theorem cm10x1x1 (v u : Int) (σ : Sto) : cmpRun 10 1 1 v u σ = some (.int (sg (rkC 10 1) (rkC 10 1)), σ) := by kernel_rfl
theorem cm10x1x2 (v u : Int) (σ : Sto) : cmpRun 10 1 2 v u σ = some (.int (sg (rkC 10 1) (rkC 10 2)), σ) := by kernel_rfl
theorem cm10x2x0 (v u : Int) (σ : Sto) : cmpRun 10 2 0 v u σ = some (.int (sg (rkC 10 2) (rkC 10 0)), σ) := by kernel_rfl
theorem cm10x2x1 (v u : Int) (σ : Sto) : cmpRun 10 2 1 v u σ = some (.int (sg (rkC 10 2) (rkC 10 1)), σ) := by kernel_rfl
theorem cm10x2x2 (v u : Int) (σ : Sto) : cmpRun 10 2 2 v u σ = some (.int (sg (rkC 10 2) (rkC 10 2)), σ) := by kernel_rfl
theorem cm11x0x0 (v u : Int) (σ : Sto) : cmpRun 11 0 0 v u σ = some (.int (sg (rkC 11 0) (rkC 11 0)), σ) := by kernel_rfl
theorem cm11x0x1 (v u : Int) (σ : Sto) : cmpRun 11 0 1 v u σ = some (.int (sg (rkC 11 0) (rkC 11 1)), σ) := by kernel_rfl
theorem cm11x0x2 (v u : Int) (σ : Sto) : cmpRun 11 0 2 v u σ = some (.int (sg (rkC 11 0) (rkC 11 2)), σ) := by kernel_rfl
theorem cm11x1x0 (v u : Int) (σ : Sto) : cmpRun 11 1 0 v u σ = some (.int (sg (rkC 11 1) (rkC 11 0)), σ) := by kernel_rfl
theorem cm11x1x1 (v u : Int) (σ : Sto) : cmpRun 11 1 1 v u σ = some (.int (sg (rkC 11 1) (rkC 11 1)), σ) := by kernel_rfl
theorem cm11x1x2 (v u : Int) (σ : Sto) : cmpRun 11 1 2 v u σ = some (.int (sg (rkC 11 1) (rkC 11 2)), σ) := by kernel_rfl
theorem cm11x2x0 (v u : Int) (σ : Sto) : cmpRun 11 2 0 v u σ = some (.int (sg (rkC 11 2) (rkC 11 0)), σ) := by kernel_rfl
theorem cm11x2x1 (v u : Int) (σ : Sto) : cmpRun 11 2 1 v u σ = some (.int (sg (rkC 11 2) (rkC 11 1)), σ) := by kernel_rfl
theorem cm11x2x2 (v u : Int) (σ : Sto) : cmpRun 11 2 2 v u σ = some (.int (sg (rkC 11 2) (rkC 11 2)), σ) := by kernel_rfl
theorem cmp_any : ∀ q a b, q < 12 → a < 3 → b < 3 → ∀ (v u : Int) (σ : Sto), cmpRun q a b v u σ = some (.int (sg (rkC q a) (rkC q b)), σ)
  | 0, 0, 0, _, _, _ => cm0x0x0
  | 0, 0, 1, _, _, _ => cm0x0x1
  | 0, 0, 2, _, _, _ => cm0x0x2
  | 0, 1, 0, _, _, _ => cm0x1x0
  | 0, 1, 1, _, _, _ => cm0x1x1
  | 0, 1, 2, _, _, _ => cm0x1x2
  | 0, 2, 0, _, _, _ => cm0x2x0
  | 0, 2, 1, _, _, _ => cm0x2x1
  | 0, 2, 2, _, _, _ => cm0x2x2
  | 1, 0, 0, _, _, _ => cm1x0x0
  | 1, 0, 1, _, _, _ => cm1x0x1
  | 1, 0, 2, _, _, _ => cm1x0x2
  | 1, 1, 0, _, _, _ => cm1x1x0
  | 1, 1, 1, _, _, _ => cm1x1x1
  | 1, 1, 2, _, _, _ => cm1x1x2
  | 1, 2, 0, _, _, _ => cm1x2x0
  | 1, 2, 1, _, _, _ => cm1x2x1
  | 1, 2, 2, _, _, _ => cm1x2x2
  | 2, 0, 0, _, _, _ => cm2x0x0
  | 2, 0, 1, _, _, _ => cm2x0x1
  | 2, 0, 2, _, _, _ => cm2x0x2
  | 2, 1, 0, _, _, _ => cm2x1x0
  | 2, 1, 1, _, _, _ => cm2x1x1
  | 2, 1, 2, _, _, _ => cm2x1x2
  | 2, 2, 0, _, _, _ => cm2x2x0
  | 2, 2, 1, _, _, _ => cm2x2x1
  | 2, 2, 2, _, _, _ => cm2x2x2
  | 3, 0, 0, _, _, _ => cm3x0x0
  | 3, 0, 1, _, _, _ => cm3x0x1
  | 3, 0, 2, _, _, _ => cm3x0x2
  | 3, 1, 0, _, _, _ => cm3x1x0
  | 3, 1, 1, _, _, _ => cm3x1x1
  | 3, 1, 2, _, _, _ => cm3x1x2
  | 3, 2, 0, _, _, _ => cm3x2x0
  | 3, 2, 1, _, _, _ => cm3x2x1
  | 3, 2, 2, _, _, _ => cm3x2x2
  | 4, 0, 0, _, _, _ => cm4x0x0
  | 4, 0, 1, _, _, _ => cm4x0x1
  | 4, 0, 2, _, _, _ => cm4x0x2
  | 4, 1, 0, _, _, _ => cm4x1x0
  | 4, 1, 1, _, _, _ => cm4x1x1
  | 4, 1, 2, _, _, _ => cm4x1x2
  | 4, 2, 0, _, _, _ => cm4x2x0
  | 4, 2, 1, _, _, _ => cm4x2x1
  | 4, 2, 2, _, _, _ => cm4x2x2
  | 5, 0, 0, _, _, _ => cm5x0x0
  | 5, 0, 1, _, _, _ => cm5x0x1
  | 5, 0, 2, _, _, _ => cm5x0x2
  | 5, 1, 0, _, _, _ => cm5x1x0
  | 5, 1, 1, _, _, _ => cm5x1x1
  | 5, 1, 2, _, _, _ => cm5x1x2
  | 5, 2, 0, _, _, _ => cm5x2x0
  | 5, 2, 1, _, _, _ => cm5x2x1
  | 5, 2, 2, _, _, _ => cm5x2x2
  | 6, 0, 0, _, _, _ => cm6x0x0
  | 6, 0, 1, _, _, _ => cm6x0x1
  | 6, 0, 2, _, _, _ => cm6x0x2
  | 6, 1, 0, _, _, _ => cm6x1x0
  | 6, 1, 1, _, _, _ => cm6x1x1
  | 6, 1, 2, _, _, _ => cm6x1x2
  | 6, 2, 0, _, _, _ => cm6x2x0
  | 6, 2, 1, _, _, _ => cm6x2x1
  | 6, 2, 2, _, _, _ => cm6x2x2
  | 7, 0, 0, _, _, _ => cm7x0x0
  | 7, 0, 1, _, _, _ => cm7x0x1
  | 7, 0, 2, _, _, _ => cm7x0x2
  | 7, 1, 0, _, _, _ => cm7x1x0
  | 7, 1, 1, _, _, _ => cm7x1x1
  | 7, 1, 2, _, _, _ => cm7x1x2
  | 7, 2, 0, _, _, _ => cm7x2x0
  | 7, 2, 1, _, _, _ => cm7x2x1
  | 7, 2, 2, _, _, _ => cm7x2x2
  | 8, 0, 0, _, _, _ => cm8x0x0
  | 8, 0, 1, _, _, _ => cm8x0x1
  | 8, 0, 2, _, _, _ => cm8x0x2
  | 8, 1, 0, _, _, _ => cm8x1x0
  | 8, 1, 1, _, _, _ => cm8x1x1
  | 8, 1, 2, _, _, _ => cm8x1x2
  | 8, 2, 0, _, _, _ => cm8x2x0
  | 8, 2, 1, _, _, _ => cm8x2x1
  | 8, 2, 2, _, _, _ => cm8x2x2
  | 9, 0, 0, _, _, _ => cm9x0x0
  | 9, 0, 1, _, _, _ => cm9x0x1
  | 9, 0, 2, _, _, _ => cm9x0x2
  | 9, 1, 0, _, _, _ => cm9x1x0
  | 9, 1, 1, _, _, _ => cm9x1x1
  | 9, 1, 2, _, _, _ => cm9x1x2
  | 9, 2, 0, _, _, _ => cm9x2x0
  | 9, 2, 1, _, _, _ => cm9x2x1
  | 9, 2, 2, _, _, _ => cm9x2x2
  | 10, 0, 0, _, _, _ => cm10x0x0
  | 10, 0, 1, _, _, _ => cm10x0x1
  | 10, 0, 2, _, _, _ => cm10x0x2
  | 10, 1, 0, _, _, _ => cm10x1x0
  | 10, 1, 1, _, _, _ => cm10x1x1
  | 10, 1, 2, _, _, _ => cm10x1x2
  | 10, 2, 0, _, _, _ => cm10x2x0
  | 10, 2, 1, _, _, _ => cm10x2x1
  | 10, 2, 2, _, _, _ => cm10x2x2
  | 11, 0, 0, _, _, _ => cm11x0x0
  | 11, 0, 1, _, _, _ => cm11x0x1
  | 11, 0, 2, _, _, _ => cm11x0x2
  | 11, 1, 0, _, _, _ => cm11x1x0
  | 11, 1, 1, _, _, _ => cm11x1x1
  | 11, 1, 2, _, _, _ => cm11x1x2
  | 11, 2, 0, _, _, _ => cm11x2x0
  | 11, 2, 1, _, _, _ => cm11x2x1
  | 11, 2, 2, _, _, _ => cm11x2x2
  | q + 12, _, _, h, _, _ => absurd h (by omega)
  | _, a + 3, _, _, h, _ => absurd h (by omega)
  | _, _, b + 3, _, _, h => absurd h (by omega)
theorem fmod2 (x : Int) : Int.fmod x 2 = 0 ∨ Int.fmod x 2 = 1 := by
  have h1 := Int.fmod_nonneg_of_pos x (b := 2) (by omega)
  have h2 := Int.fmod_lt_of_pos x (b := 2) (by omega)
  omega
theorem keys_any (T : Int) : ∃ q, q < 12 ∧ keysV T = keysC q := by
  unfold keysV key1 key2
  rcases fmod2 T with h1 | h1 <;> rcases fmod2 (Int.fdiv T 2) with h2 | h2 <;> rcases fmod2 (Int.fdiv T 4) with h3 | h3 <;> cases keysB T <;> rw [h1, h2] <;> (try rw [h3])
  · exact ⟨4, by omega, rfl⟩
  · exact ⟨0, by omega, rfl⟩
  · exact ⟨5, by omega, rfl⟩
  · exact ⟨0, by omega, rfl⟩
  · exact ⟨6, by omega, rfl⟩
  · exact ⟨1, by omega, rfl⟩
  · exact ⟨7, by omega, rfl⟩
  · exact ⟨1, by omega, rfl⟩
  · exact ⟨8, by omega, rfl⟩
  · exact ⟨2, by omega, rfl⟩
  · exact ⟨9, by omega, rfl⟩
  · exact ⟨2, by omega, rfl⟩
  · exact ⟨10, by omega, rfl⟩
  · exact ⟨3, by omega, rfl⟩
  · exact ⟨11, by omega, rfl⟩
  · exact ⟨3, by omega, rfl⟩
end HQ
end
section
set_option autoImplicit false
set_option linter.unusedSectionVars false
set_option linter.unusedVariables false
set_option linter.unusedSimpArgs false
set_option maxRecDepth 100000
namespace HQ
open PySem PySem.W PySem.Calls PyProof.Rows PySem.Spec

theorem progOK2 [Gh] (p : Params) (keys : V) : ProgOK (P2 keys) (K39 p) :=
  ⟨(progOK p).fn, (progOK p).cls, (progOK p).bi, (progOK p).isi, (progOK p).tup, (progOK p).meth, (progOK p).cattr, (progOK p).iattr⟩

section
variable [g : Gh] {w : World} {h₀ : Heap}

theorem op_attr (B : Base (K39 w.params) h₀) {ra : Addr} {keys : V} (RA' : RuleAt h₀ ra keys) (h9 : g.g 9 = .ref ra) {A : Around} {E : Value → Shared → Prop} {ρ : List Addr} {s : Shared} {σ : Sto} {t : Nat} {a : Str} {y : V} {expr : Bool} {Q : Value → Shared → Prop}
    (e : (P2 keys).oattr t a = some y) (S : St w h₀ ρ σ s.heap) (k : Ret w h₀ ρ s σ y Q) : wpAny (model prog w) A (getAttr (Gh.g t) a expr) Q E s := by
  have e : (if t = 9 ∧ a = "comp_select_list" then some keys else Option.none) = some y := e
  split at e
  · rename_i ht
    obtain ⟨rfl, rfl⟩ := ht
    cases e
    obtain ⟨da, od, val, h1, h2, h3, h4, h5, h6⟩ := RA'.at_
    have B' := S.base' B
    have e9 : Gh.g 9 = Value.ref ra := h9
    rw [e9]
    have IA : InstAt s.heap ra (instObj 80 da) 80 (some od) := ⟨S.base _ _ h1, rfl, rfl, S.base _ _ h2⟩
    refine get_value (v := val) B'.X IA (ins_TupleComp w.params).get ?_ h5 (k val ρ _ step_toks S (S.up (h6 g)))
    obtain ⟨cd, hc, hd'⟩ := any_some (ins_TupleComp w.params).hasDict
    unfold findObj
    rw [hc, a_TupleComp_comp_select_list w.params]
    simp only [Option.bind_some]
    unfold W.ownOf
    rw [hd', if_pos rfl]
    dsimp only
    rw [h3]
    rfl
  · cases e

theorem op_meth (B : Base (K39 w.params) h₀) {ra : Addr} {keys : V} (RA' : RuleAt h₀ ra keys) (h9 : g.g 9 = .ref ra) {t : Nat} {m : Str} {d : FDef} (e : (P2 keys).ometh t m = some d) : FnK (K39 w.params) d ∧
    ∀ {A : Around} {E : Value → Shared → Prop} {ρ : List Addr} {s : Shared} {σ : Sto} {pl : Sem Bool} {Q : Value × List Value → Shared → Prop}, St w h₀ ρ σ s.heap → Q (.ref d.addr, [Gh.g t]) s → wpAny (model prog w) A (getMethod (Gh.g t) m pl) Q E s := by
  have e : (if t = 9 ∧ m = "compare" then some compareD else Option.none) = some d := e
  split at e
  · rename_i ht
    obtain ⟨rfl, rfl⟩ := ht
    cases e
    refine ⟨k_compare w.params, fun {A E ρ s σ pl Q} S k => ?_⟩
    obtain ⟨da, od, val, h1, h2, h3, h4, h5, h6⟩ := RA'.at_
    have B' := S.base' B
    have e9 : Gh.g 9 = Value.ref ra := h9
    rw [e9] at k ⊢
    have IA : InstAt s.heap ra (instObj 80 da) 80 (some od) := ⟨S.base _ _ h1, rfl, rfl, S.base _ _ h2⟩
    exact method_fn B'.X IA (ins_TupleComp w.params).get (ins_TupleComp w.params).hook (f_compare w.params) (beq_iff_eq.mp (k_compare w.params).fn) (by show (lookIn "compare" od).map _ = _; rw [h4]; rfl) k
  · cases e

/-- compare answered by ranks: the tag i stands for a face of rank i mod 3 -/
noncomputable def Ω2 (live : List Nat) : Str → List V → Sto → Option (V × Sto) := fun f as σ => if f = "compare" then (match as with
  | [.any 9, .any i, .any j] => if live.contains i && live.contains j then some (.int (sg (i % 3) (j % 3)), σ) else Option.none
  | _ => Option.none) else Option.none

/-- a face's value: a tuple of a class -/
noncomputable def FaceAt (h₀ : Heap) (q : Nat) (v : Value) (r : Nat) : Prop := ∃ k u, k < 3 ∧ rkC q k = r ∧ ∀ g : Gh, @RV g [] h₀ v (.tup (clsV k u))

theorem Ω2OK (B : Base (K39 w.params) h₀) {ra : Addr} {q : Nat} (hq : q < 12) (RA' : RuleAt h₀ ra (keysC q)) (h9 : g.g 9 = .ref ra) {live : List Nat} {rk : Nat → Nat} (hl : ∀ i ∈ live, FaceAt h₀ q (g.g i) (rk i)) (hm : ∀ i ∈ live, ∀ j ∈ live, sg (rk i) (rk j) = sg (i % 3) (j % 3)) : ΩOK (P2 (keysC q)) (K39 w.params) w h₀ 40 (Ω2 live) := by
  have PO := progOK2 w.params (keysC q)
  have O0 : ΩOK (P2 (keysC q)) (K39 w.params) w h₀ 0 Ω0 := ⟨(fun _ e => by cases e), fun e S k => op_attr B RA' h9 e S k, fun e => op_meth B RA' h9 e⟩
  refine ⟨fun {A ρ s σ f as x σ' vs d} hd e r S rl Rr k => ?_, fun e S k => op_attr B RA' h9 e S k, fun e => op_meth B RA' h9 e⟩
  unfold Ω2 at e
  split at e
  · rename_i hf
    subst hf
    split at e
    · rename_i i j
      split at e
      · rename_i hc
        cases e
        rw [Bool.and_eq_true, List.contains_iff_mem, List.contains_iff_mem] at hc
        have hd' : d = compareD := by
          rcases hd with hd | ⟨t, ht⟩
          · have : (P2 (keysC q)).fn "compare" = Option.none := by kernel_rfl
            rw [this] at hd; cases hd
          · have ht : (if t = 9 ∧ ("compare" : Str) = "compare" then some compareD else Option.none) = some d := ht
            split at ht
            · cases ht; rfl
            · cases ht
        subst hd'
        cases rl with
        | cons r1 rl =>
        obtain ⟨v2, v3, rfl, r2, r3⟩ := rl.two
        cases r2 with
        | any _ e2 _ =>
        cases r3 with
        | any _ e3 _ =>
        obtain ⟨k2, u2, hk2, hr2, hv2⟩ := hl i hc.1
        obtain ⟨k3, u3, hk3, hr3, hv3⟩ := hl j hc.2
        have H := ev_sound B PO O0 30
        have ce := cmp_any q k2 k3 hq hk2 hk3 u2 u3 σ
        rw [hr2, hr3, hm i hc.1 j hc.2] at ce
        refine H.c ce (k_compare w.params) (r.plain (by omega)) S (.cons r1 (.cons ?_ (.cons ?_ .nil))) k
        · rw [e2]; exact S.up (hv2 g)
        · rw [e3]; exact S.up (hv3 g)
      · cases e
    · cases e
  · cases e
end
end HQ
end
section
set_option autoImplicit false
set_option linter.unusedVariables false
set_option maxRecDepth 100000
namespace HQ
open PySem PySem.W PySem.Calls PyProof.Rows PySem.Spec
noncomputable def Z0 : List (List Int) := [[1, 1, 3]]
noncomputable def Z1 : List (List Int) := [[1, 3, 1]]
noncomputable def Z2 : List (List Int) := [[3, 1, 1]]
noncomputable def Z3 : List (List Int) := [[3, 3]]
noncomputable def Z4 : List (List Int) := [[2, 5]]
noncomputable def Z5 : List (List Int) := [[5, 2]]
noncomputable def Z6 : List (List Int) := [[2, 4]]
noncomputable def Z7 : List (List Int) := [[4, 2]]
noncomputable def Z8 : List (List Int) := [[1, 1, 2]]
noncomputable def Z9 : List (List Int) := [[1, 2, 1]]
noncomputable def Z10 : List (List Int) := [[2, 1, 1]]
noncomputable def Z11 : List (List Int) := [[2, 3]]
noncomputable def Z12 : List (List Int) := [[3, 2]]
noncomputable def Z13 : List (List Int) := [[2, 2], [1, 3], [3, 1]]
noncomputable def Z14 : List (List Int) := [[1, 4], [4, 1], [4]]
noncomputable def Z15 : List (List Int) := [[1, 5], [5, 1], [5]]
noncomputable def Z16 : List (List Int) := [[1, 6], [6, 1], [6], [7]]
noncomputable def goodZ : List (List Int) := Z0 ++ Z1 ++ Z2 ++ Z3 ++ Z4 ++ Z5 ++ Z6 ++ Z7 ++ Z8 ++ Z9 ++ Z10 ++ Z11 ++ Z12 ++ Z13 ++ Z14 ++ Z15 ++ Z16
noncomputable def kindsD : FDef := mkF 183 "_law_kinds" body0
noncomputable def loopB : List Stmt := match stOf kindsD 2 with
  | .For _ _ b _ _ => b
  | _ => []
noncomputable def FK (r : Nat) : Fm := ⟨kindsD.scope, [("rule", .any 9), ("faces", .ref 0), ("sizes", .ref 1), ("row", .any (3 + r))]⟩
noncomputable def tagsV : List V → Option (List Nat)
  | [] => some []
  | .any t :: r => (tagsV r).map (t :: ·)
  | _ => Option.none
noncomputable def cellOfV (σ : Sto) (vars : Vars) (x : Str) : Option (List V) := match look x vars with
  | some (.ref c) => listAt σ c
  | _ => Option.none
noncomputable def outK (r : Option (Fl × Vars × Sto)) : Option (List Nat × List Int) := match r with
  | some (.next, vars, σ) => (match look "rule" vars, cellOfV σ vars "faces", cellOfV σ vars "sizes" with
    | some (.any 9), some f, some z => (match tagsV f, intsV z with
      | some f, some z => some (f, z)
      | _, _ => Option.none)
    | _, _, _ => Option.none)
  | _ => Option.none
noncomputable def turnK (keys : V) (f : List Nat) (z : List Int) (r : Nat) := outK ((ev (P2 keys) (Ω2 (f ++ [3 + r])) 50).ss (FK r) (loopB.drop 1) [.list (f.map .any), .list (z.map .int)])
noncomputable def chkK (keys : V) (p : (List Nat × List Int × Nat) × (List Nat × List Int)) : Bool := decide (turnK keys p.1.1 p.1.2.1 p.1.2.2 = some p.2)
noncomputable def TL0 : List ((List Nat × List Int × Nat) × (List Nat × List Int)) := [(([], [], 0), ([3], [1])), (([], [], 1), ([4], [1])), (([], [], 2), ([5], [1])), (([2], [1], 0), ([3, 2], [1, 1])), (([2], [1], 1), ([4, 2], [1, 1])), (([2], [1], 2), ([2], [2])), (([2], [2], 0), ([3, 2], [1, 2])), (([2], [2], 1), ([4, 2], [1, 2])), (([2], [2], 2), ([2], [3])), (([2], [3], 0), ([3, 2], [1, 3])), (([2], [3], 1), ([4, 2], [1, 3])), (([2], [3], 2), ([2], [4])), (([2], [4], 0), ([3, 2], [1, 4])), (([2], [4], 1), ([4, 2], [1, 4])), (([2], [4], 2), ([2], [5])), (([2], [5], 0), ([3, 2], [1, 5])), (([2], [5], 1), ([4, 2], [1, 5])), (([2], [5], 2), ([2], [6])), (([2], [6], 0), ([3, 2], [1, 6])), (([2], [6], 1), ([4, 2], [1, 6])), (([2], [6], 2), ([2], [7])), (([1], [1], 0), ([3, 1], [1, 1])), (([1], [1], 1), ([1], [2])), (([1], [1], 2), ([1, 5], [1, 1])), (([1, 2], [1, 1], 0), ([3, 1, 2], [1, 1, 1])), (([1, 2], [1, 1], 1), ([1, 2], [2, 1])), (([1, 2], [1, 1], 2), ([1, 2], [1, 2]))]
theorem turn0 (keys : V) : TL0.all (chkK keys) = true := by kernel_rfl
noncomputable def TL1 : List ((List Nat × List Int × Nat) × (List Nat × List Int)) := [(([1, 2], [1, 2], 0), ([3, 1, 2], [1, 1, 2])), (([1, 2], [1, 2], 1), ([1, 2], [2, 2])), (([1, 2], [1, 2], 2), ([1, 2], [1, 3])), (([1, 2], [1, 3], 0), ([3, 1, 2], [1, 1, 3])), (([1, 2], [1, 3], 1), ([1, 2], [2, 3])), (([1, 2], [1, 3], 2), ([1, 2], [1, 4])), (([1, 2], [1, 4], 0), ([1, 2], [1, 4])), (([1, 2], [1, 4], 1), ([1, 2], [2, 4])), (([1, 2], [1, 4], 2), ([1, 2], [1, 5])), (([1, 2], [1, 5], 0), ([1, 2], [1, 5])), (([1, 2], [1, 5], 1), ([1, 2], [2, 5])), (([1, 2], [1, 5], 2), ([1, 2], [1, 6])), (([1], [2], 0), ([3, 1], [1, 2])), (([1], [2], 1), ([1], [3])), (([1], [2], 2), ([1, 5], [2, 1])), (([1, 2], [2, 1], 0), ([3, 1, 2], [1, 2, 1])), (([1, 2], [2, 1], 1), ([1, 2], [3, 1])), (([1, 2], [2, 1], 2), ([1, 2], [2, 2])), (([1, 2], [2, 2], 0), ([1, 2], [2, 2])), (([1, 2], [2, 2], 1), ([1, 2], [3, 2])), (([1, 2], [2, 2], 2), ([1, 2], [2, 3])), (([1, 2], [2, 3], 0), ([1, 2], [2, 3])), (([1, 2], [2, 3], 1), ([1, 2], [3, 3])), (([1, 2], [2, 3], 2), ([1, 2], [2, 4])), (([1, 2], [2, 4], 0), ([1, 2], [2, 4])), (([1, 2], [2, 4], 1), ([1, 2], [2, 4])), (([1, 2], [2, 4], 2), ([1, 2], [2, 5]))]
theorem turn1 (keys : V) : TL1.all (chkK keys) = true := by kernel_rfl
noncomputable def TL2 : List ((List Nat × List Int × Nat) × (List Nat × List Int)) := [(([1], [3], 0), ([3, 1], [1, 3])), (([1], [3], 1), ([1], [4])), (([1], [3], 2), ([1, 5], [3, 1])), (([1, 2], [3, 1], 0), ([3, 1, 2], [1, 3, 1])), (([1, 2], [3, 1], 1), ([1, 2], [4, 1])), (([1, 2], [3, 1], 2), ([1, 2], [3, 2])), (([1, 2], [3, 2], 0), ([1, 2], [3, 2])), (([1, 2], [3, 2], 1), ([1, 2], [4, 2])), (([1, 2], [3, 2], 2), ([1, 2], [3, 3])), (([1, 2], [3, 3], 0), ([1, 2], [3, 3])), (([1, 2], [3, 3], 1), ([1, 2], [3, 3])), (([1, 2], [3, 3], 2), ([1, 2], [3, 3])), (([1], [4], 0), ([3, 1], [1, 4])), (([1], [4], 1), ([1], [5])), (([1], [4], 2), ([1, 5], [4, 1])), (([1, 2], [4, 1], 0), ([1, 2], [4, 1])), (([1, 2], [4, 1], 1), ([1, 2], [5, 1])), (([1, 2], [4, 1], 2), ([1, 2], [4, 2])), (([1, 2], [4, 2], 0), ([1, 2], [4, 2])), (([1, 2], [4, 2], 1), ([1, 2], [5, 2])), (([1, 2], [4, 2], 2), ([1, 2], [4, 2])), (([1], [5], 0), ([3, 1], [1, 5])), (([1], [5], 1), ([1], [6])), (([1], [5], 2), ([1, 5], [5, 1])), (([1, 2], [5, 1], 0), ([1, 2], [5, 1])), (([1, 2], [5, 1], 1), ([1, 2], [6, 1])), (([1, 2], [5, 1], 2), ([1, 2], [5, 2]))]
theorem turn2 (keys : V) : TL2.all (chkK keys) = true := by kernel_rfl
noncomputable def TL3 : List ((List Nat × List Int × Nat) × (List Nat × List Int)) := [(([1], [6], 0), ([3, 1], [1, 6])), (([1], [6], 1), ([1], [7])), (([1], [6], 2), ([1, 5], [6, 1])), (([0], [1], 0), ([0], [2])), (([0], [1], 1), ([0, 4], [1, 1])), (([0], [1], 2), ([0, 5], [1, 1])), (([0, 2], [1, 1], 0), ([0, 2], [2, 1])), (([0, 2], [1, 1], 1), ([0, 4, 2], [1, 1, 1])), (([0, 2], [1, 1], 2), ([0, 2], [1, 2])), (([0, 2], [1, 2], 0), ([0, 2], [2, 2])), (([0, 2], [1, 2], 1), ([0, 4, 2], [1, 1, 2])), (([0, 2], [1, 2], 2), ([0, 2], [1, 3])), (([0, 2], [1, 3], 0), ([0, 2], [2, 3])), (([0, 2], [1, 3], 1), ([0, 4, 2], [1, 1, 3])), (([0, 2], [1, 3], 2), ([0, 2], [1, 4])), (([0, 2], [1, 4], 0), ([0, 2], [2, 4])), (([0, 2], [1, 4], 1), ([0, 2], [1, 4])), (([0, 2], [1, 4], 2), ([0, 2], [1, 5])), (([0, 2], [1, 5], 0), ([0, 2], [2, 5])), (([0, 2], [1, 5], 1), ([0, 2], [1, 5])), (([0, 2], [1, 5], 2), ([0, 2], [1, 6])), (([0, 1], [1, 1], 0), ([0, 1], [2, 1])), (([0, 1], [1, 1], 1), ([0, 1], [1, 2])), (([0, 1], [1, 1], 2), ([0, 1, 5], [1, 1, 1])), (([0, 1, 2], [1, 1, 1], 0), ([0, 1, 2], [2, 1, 1])), (([0, 1, 2], [1, 1, 1], 1), ([0, 1, 2], [1, 2, 1])), (([0, 1, 2], [1, 1, 1], 2), ([0, 1, 2], [1, 1, 2]))]
theorem turn3 (keys : V) : TL3.all (chkK keys) = true := by kernel_rfl
noncomputable def TL4 : List ((List Nat × List Int × Nat) × (List Nat × List Int)) := [(([0, 1, 2], [1, 1, 2], 0), ([0, 1, 2], [1, 1, 2])), (([0, 1, 2], [1, 1, 2], 1), ([0, 1, 2], [1, 1, 2])), (([0, 1, 2], [1, 1, 2], 2), ([0, 1, 2], [1, 1, 3])), (([0, 1, 2], [1, 1, 3], 0), ([0, 1, 2], [1, 1, 3])), (([0, 1, 2], [1, 1, 3], 1), ([0, 1, 2], [1, 1, 3])), (([0, 1, 2], [1, 1, 3], 2), ([0, 1, 2], [1, 1, 3])), (([0, 1], [1, 2], 0), ([0, 1], [2, 2])), (([0, 1], [1, 2], 1), ([0, 1], [1, 3])), (([0, 1], [1, 2], 2), ([0, 1, 5], [1, 2, 1])), (([0, 1, 2], [1, 2, 1], 0), ([0, 1, 2], [1, 2, 1])), (([0, 1, 2], [1, 2, 1], 1), ([0, 1, 2], [1, 3, 1])), (([0, 1, 2], [1, 2, 1], 2), ([0, 1, 2], [1, 2, 1])), (([0, 1], [1, 3], 0), ([0, 1], [2, 3])), (([0, 1], [1, 3], 1), ([0, 1], [1, 4])), (([0, 1], [1, 3], 2), ([0, 1, 5], [1, 3, 1])), (([0, 1, 2], [1, 3, 1], 0), ([0, 1, 2], [1, 3, 1])), (([0, 1, 2], [1, 3, 1], 1), ([0, 1, 2], [1, 3, 1])), (([0, 1, 2], [1, 3, 1], 2), ([0, 1, 2], [1, 3, 1])), (([0, 1], [1, 4], 0), ([0, 1], [2, 4])), (([0, 1], [1, 4], 1), ([0, 1], [1, 5])), (([0, 1], [1, 4], 2), ([0, 1], [1, 4])), (([0, 1], [1, 5], 0), ([0, 1], [2, 5])), (([0, 1], [1, 5], 1), ([0, 1], [1, 6])), (([0, 1], [1, 5], 2), ([0, 1], [1, 5])), (([0], [2], 0), ([0], [3])), (([0], [2], 1), ([0, 4], [2, 1])), (([0], [2], 2), ([0, 5], [2, 1]))]
theorem turn4 (keys : V) : TL4.all (chkK keys) = true := by kernel_rfl
noncomputable def TL5 : List ((List Nat × List Int × Nat) × (List Nat × List Int)) := [(([0, 2], [2, 1], 0), ([0, 2], [3, 1])), (([0, 2], [2, 1], 1), ([0, 4, 2], [2, 1, 1])), (([0, 2], [2, 1], 2), ([0, 2], [2, 2])), (([0, 2], [2, 2], 0), ([0, 2], [3, 2])), (([0, 2], [2, 2], 1), ([0, 2], [2, 2])), (([0, 2], [2, 2], 2), ([0, 2], [2, 3])), (([0, 2], [2, 3], 0), ([0, 2], [3, 3])), (([0, 2], [2, 3], 1), ([0, 2], [2, 3])), (([0, 2], [2, 3], 2), ([0, 2], [2, 4])), (([0, 2], [2, 4], 0), ([0, 2], [2, 4])), (([0, 2], [2, 4], 1), ([0, 2], [2, 4])), (([0, 2], [2, 4], 2), ([0, 2], [2, 5])), (([0, 1], [2, 1], 0), ([0, 1], [3, 1])), (([0, 1], [2, 1], 1), ([0, 1], [2, 2])), (([0, 1], [2, 1], 2), ([0, 1, 5], [2, 1, 1])), (([0, 1, 2], [2, 1, 1], 0), ([0, 1, 2], [3, 1, 1])), (([0, 1, 2], [2, 1, 1], 1), ([0, 1, 2], [2, 1, 1])), (([0, 1, 2], [2, 1, 1], 2), ([0, 1, 2], [2, 1, 1])), (([0, 1], [2, 2], 0), ([0, 1], [3, 2])), (([0, 1], [2, 2], 1), ([0, 1], [2, 3])), (([0, 1], [2, 2], 2), ([0, 1], [2, 2])), (([0, 1], [2, 3], 0), ([0, 1], [3, 3])), (([0, 1], [2, 3], 1), ([0, 1], [2, 4])), (([0, 1], [2, 3], 2), ([0, 1], [2, 3])), (([0, 1], [2, 4], 0), ([0, 1], [2, 4])), (([0, 1], [2, 4], 1), ([0, 1], [2, 5])), (([0, 1], [2, 4], 2), ([0, 1], [2, 4]))]
theorem turn5 (keys : V) : TL5.all (chkK keys) = true := by kernel_rfl
noncomputable def TL6 : List ((List Nat × List Int × Nat) × (List Nat × List Int)) := [(([0], [3], 0), ([0], [4])), (([0], [3], 1), ([0, 4], [3, 1])), (([0], [3], 2), ([0, 5], [3, 1])), (([0, 2], [3, 1], 0), ([0, 2], [4, 1])), (([0, 2], [3, 1], 1), ([0, 4, 2], [3, 1, 1])), (([0, 2], [3, 1], 2), ([0, 2], [3, 2])), (([0, 2], [3, 2], 0), ([0, 2], [4, 2])), (([0, 2], [3, 2], 1), ([0, 2], [3, 2])), (([0, 2], [3, 2], 2), ([0, 2], [3, 3])), (([0, 2], [3, 3], 0), ([0, 2], [3, 3])), (([0, 2], [3, 3], 1), ([0, 2], [3, 3])), (([0, 2], [3, 3], 2), ([0, 2], [3, 3])), (([0, 1], [3, 1], 0), ([0, 1], [4, 1])), (([0, 1], [3, 1], 1), ([0, 1], [3, 2])), (([0, 1], [3, 1], 2), ([0, 1, 5], [3, 1, 1])), (([0, 1, 2], [3, 1, 1], 0), ([0, 1, 2], [3, 1, 1])), (([0, 1, 2], [3, 1, 1], 1), ([0, 1, 2], [3, 1, 1])), (([0, 1, 2], [3, 1, 1], 2), ([0, 1, 2], [3, 1, 1])), (([0, 1], [3, 2], 0), ([0, 1], [4, 2])), (([0, 1], [3, 2], 1), ([0, 1], [3, 3])), (([0, 1], [3, 2], 2), ([0, 1], [3, 2])), (([0, 1], [3, 3], 0), ([0, 1], [3, 3])), (([0, 1], [3, 3], 1), ([0, 1], [3, 3])), (([0, 1], [3, 3], 2), ([0, 1], [3, 3])), (([0], [4], 0), ([0], [5])), (([0], [4], 1), ([0, 4], [4, 1])), (([0], [4], 2), ([0, 5], [4, 1]))]
theorem turn6 (keys : V) : TL6.all (chkK keys) = true := by kernel_rfl
noncomputable def TL7 : List ((List Nat × List Int × Nat) × (List Nat × List Int)) := [(([0, 2], [4, 1], 0), ([0, 2], [5, 1])), (([0, 2], [4, 1], 1), ([0, 2], [4, 1])), (([0, 2], [4, 1], 2), ([0, 2], [4, 2])), (([0, 2], [4, 2], 0), ([0, 2], [5, 2])), (([0, 2], [4, 2], 1), ([0, 2], [4, 2])), (([0, 2], [4, 2], 2), ([0, 2], [4, 2])), (([0, 1], [4, 1], 0), ([0, 1], [5, 1])), (([0, 1], [4, 1], 1), ([0, 1], [4, 2])), (([0, 1], [4, 1], 2), ([0, 1], [4, 1])), (([0, 1], [4, 2], 0), ([0, 1], [5, 2])), (([0, 1], [4, 2], 1), ([0, 1], [4, 2])), (([0, 1], [4, 2], 2), ([0, 1], [4, 2])), (([0], [5], 0), ([0], [6])), (([0], [5], 1), ([0, 4], [5, 1])), (([0], [5], 2), ([0, 5], [5, 1])), (([0, 2], [5, 1], 0), ([0, 2], [6, 1])), (([0, 2], [5, 1], 1), ([0, 2], [5, 1])), (([0, 2], [5, 1], 2), ([0, 2], [5, 2])), (([0, 1], [5, 1], 0), ([0, 1], [6, 1])), (([0, 1], [5, 1], 1), ([0, 1], [5, 2])), (([0, 1], [5, 1], 2), ([0, 1], [5, 1])), (([0], [6], 0), ([0], [7])), (([0], [6], 1), ([0, 4], [6, 1])), (([0], [6], 2), ([0, 5], [6, 1]))]
theorem turn7 (keys : V) : TL7.all (chkK keys) = true := by kernel_rfl
noncomputable def TL : List ((List Nat × List Int × Nat) × (List Nat × List Int)) := TL0 ++ TL1 ++ TL2 ++ TL3 ++ TL4 ++ TL5 ++ TL6 ++ TL7
theorem turn_any (keys : V) : ∀ p ∈ TL, turnK keys p.1.1 p.1.2.1 p.1.2.2 = some p.2 := fun p h => by
  unfold TL at h
  simp only [List.mem_append] at h
  rcases h with ((((((h | h) | h) | h) | h) | h) | h) | h
  · exact of_decide_eq_true (List.all_eq_true.mp (turn0 keys) p h)
  · exact of_decide_eq_true (List.all_eq_true.mp (turn1 keys) p h)
  · exact of_decide_eq_true (List.all_eq_true.mp (turn2 keys) p h)
  · exact of_decide_eq_true (List.all_eq_true.mp (turn3 keys) p h)
  · exact of_decide_eq_true (List.all_eq_true.mp (turn4 keys) p h)
  · exact of_decide_eq_true (List.all_eq_true.mp (turn5 keys) p h)
  · exact of_decide_eq_true (List.all_eq_true.mp (turn6 keys) p h)
  · exact of_decide_eq_true (List.all_eq_true.mp (turn7 keys) p h)
noncomputable def lev : Nat → List (List Nat × List Int)
  | 0 => [([], [])]
  | 1 => [([2], [1]), ([1], [1]), ([0], [1])]
  | 2 => [([2], [2]), ([1, 2], [1, 1]), ([1], [2]), ([0, 2], [1, 1]), ([0, 1], [1, 1]), ([0], [2])]
  | 3 => [([2], [3]), ([1, 2], [1, 2]), ([1, 2], [2, 1]), ([1], [3]), ([0, 2], [1, 2]), ([0, 1, 2], [1, 1, 1]), ([0, 1], [1, 2]), ([0, 2], [2, 1]), ([0, 1], [2, 1]), ([0], [3])]
  | 4 => [([2], [4]), ([1, 2], [1, 3]), ([1, 2], [2, 2]), ([1, 2], [3, 1]), ([1], [4]), ([0, 2], [1, 3]), ([0, 1, 2], [1, 1, 2]), ([0, 1, 2], [1, 2, 1]), ([0, 1], [1, 3]), ([0, 2], [2, 2]), ([0, 1, 2], [2, 1, 1]), ([0, 1], [2, 2]), ([0, 2], [3, 1]), ([0, 1], [3, 1]), ([0], [4])]
  | 5 => [([2], [5]), ([1, 2], [1, 4]), ([1, 2], [2, 2]), ([1, 2], [2, 3]), ([1, 2], [3, 2]), ([1, 2], [4, 1]), ([1], [5]), ([0, 2], [1, 4]), ([0, 1, 2], [1, 1, 2]), ([0, 1, 2], [1, 1, 3]), ([0, 1, 2], [1, 2, 1]), ([0, 1, 2], [1, 3, 1]), ([0, 1], [1, 4]), ([0, 2], [2, 2]), ([0, 2], [2, 3]), ([0, 1, 2], [2, 1, 1]), ([0, 1], [2, 2]), ([0, 1], [2, 3]), ([0, 2], [3, 2]), ([0, 1, 2], [3, 1, 1]), ([0, 1], [3, 2]), ([0, 2], [4, 1]), ([0, 1], [4, 1]), ([0], [5])]
  | 6 => [([2], [6]), ([1, 2], [1, 4]), ([1, 2], [1, 5]), ([1, 2], [2, 2]), ([1, 2], [2, 3]), ([1, 2], [2, 4]), ([1, 2], [3, 2]), ([1, 2], [3, 3]), ([1, 2], [4, 1]), ([1, 2], [4, 2]), ([1, 2], [5, 1]), ([1], [6]), ([0, 2], [1, 4]), ([0, 2], [1, 5]), ([0, 1, 2], [1, 1, 2]), ([0, 1, 2], [1, 1, 3]), ([0, 1, 2], [1, 2, 1]), ([0, 1, 2], [1, 3, 1]), ([0, 1], [1, 4]), ([0, 1], [1, 5]), ([0, 2], [2, 2]), ([0, 2], [2, 3]), ([0, 2], [2, 4]), ([0, 1, 2], [2, 1, 1]), ([0, 1], [2, 2]), ([0, 1], [2, 3]), ([0, 1], [2, 4]), ([0, 2], [3, 2]), ([0, 2], [3, 3]), ([0, 1, 2], [3, 1, 1]), ([0, 1], [3, 2]), ([0, 1], [3, 3]), ([0, 2], [4, 1]), ([0, 2], [4, 2]), ([0, 1], [4, 1]), ([0, 1], [4, 2]), ([0, 2], [5, 1]), ([0, 1], [5, 1]), ([0], [6])]
  | 7 => [([2], [7]), ([1, 2], [1, 4]), ([1, 2], [1, 5]), ([1, 2], [1, 6]), ([1, 2], [2, 2]), ([1, 2], [2, 3]), ([1, 2], [2, 4]), ([1, 2], [2, 5]), ([1, 2], [3, 2]), ([1, 2], [3, 3]), ([1, 2], [4, 1]), ([1, 2], [4, 2]), ([1, 2], [5, 1]), ([1, 2], [5, 2]), ([1, 2], [6, 1]), ([1], [7]), ([0, 2], [1, 4]), ([0, 2], [1, 5]), ([0, 2], [1, 6]), ([0, 1, 2], [1, 1, 2]), ([0, 1, 2], [1, 1, 3]), ([0, 1, 2], [1, 2, 1]), ([0, 1, 2], [1, 3, 1]), ([0, 1], [1, 4]), ([0, 1], [1, 5]), ([0, 1], [1, 6]), ([0, 2], [2, 2]), ([0, 2], [2, 3]), ([0, 2], [2, 4]), ([0, 2], [2, 5]), ([0, 1, 2], [2, 1, 1]), ([0, 1], [2, 2]), ([0, 1], [2, 3]), ([0, 1], [2, 4]), ([0, 1], [2, 5]), ([0, 2], [3, 2]), ([0, 2], [3, 3]), ([0, 1, 2], [3, 1, 1]), ([0, 1], [3, 2]), ([0, 1], [3, 3]), ([0, 2], [4, 1]), ([0, 2], [4, 2]), ([0, 1], [4, 1]), ([0, 1], [4, 2]), ([0, 2], [5, 1]), ([0, 2], [5, 2]), ([0, 1], [5, 1]), ([0, 1], [5, 2]), ([0, 2], [6, 1]), ([0, 1], [6, 1]), ([0], [7])]
  | _ => []
noncomputable def nx (f : List Nat) (z : List Int) (r : Nat) : List Nat × List Int := (TL.lookup (f, z, r)).getD ([], [])
noncomputable def okT (n : Nat) (f : List Nat) (z : List Int) (r : Nat) : Bool := match TL.lookup (f, z, r) with
  | some t => decide ((t.1.map (· % 3), t.2) ∈ lev (n + 1)) && !t.1.isEmpty && t.1.all (fun k => (decide (k < 3) && f.contains k) || (k == 3 + r && !f.contains r))
  | Option.none => false
theorem lev_ok : ∀ n < 7, ∀ s ∈ lev n, ∀ r < 3, okT n s.1 s.2 r = true := by decide +kernel
theorem lev_nd : ∀ n < 8, ∀ s ∈ lev n, s.1.Nodup := by decide +kernel
noncomputable def okF (f : List Nat) (z : List Int) : Bool := decide (z ∈ goodZ) && f.length == z.length && (List.range z.length).all fun i => (List.range z.length).all fun j => decide (sg (f.getD i 0) (f.getD j 0) = sg (i % 3) (j % 3))
theorem lev_end : ∀ n < 8, 4 ≤ n → ∀ s ∈ lev n, okF s.1 s.2 = true := by decide +kernel
end HQ
end
section
set_option autoImplicit false
set_option linter.unusedVariables false
set_option maxRecDepth 100000
namespace HQ
open PySem PySem.W PySem.Calls PyProof.Rows PySem.Spec
/-- law's last five statements, on a given list of sizes -/
noncomputable def F9 (z : List Int) : Fm := ⟨lawD.scope, [("faces", .lst ((List.range z.length).map .any)), ("sizes", .lst (z.map .int)), ("rule", .any 9)]⟩
noncomputable def isTrueR (r : Option (Fl × Vars × Sto)) : Bool := match r with
  | some (.ret (.bool true), _, _) => true
  | _ => false
noncomputable def leafs : List Str := ["_law_passed", "_law_falls", "_law_after", "add_callers", "heapreplace", "heappush", "heappop"]
noncomputable def Ω9 (P : Prog) (n : Nat) := ΩF P (ΩF P (Ω2 (List.range n)) 40 leafs) 50 ["_law_product"]
noncomputable def run9 (keys : V) (z : List Int) : Bool := isTrueR ((ev (P2 keys) (Ω9 (P2 keys) z.length) 60).ss (F9 z) (lawD.body.drop 3) [])
theorem zs0 (keys : V) : Z0.all (run9 keys) = true := by kernel_rfl
theorem zs1 (keys : V) : Z1.all (run9 keys) = true := by kernel_rfl
theorem zs2 (keys : V) : Z2.all (run9 keys) = true := by kernel_rfl
theorem zs3 (keys : V) : Z3.all (run9 keys) = true := by kernel_rfl
theorem zs4 (keys : V) : Z4.all (run9 keys) = true := by kernel_rfl
theorem zs5 (keys : V) : Z5.all (run9 keys) = true := by kernel_rfl
theorem zs6 (keys : V) : Z6.all (run9 keys) = true := by kernel_rfl
theorem zs7 (keys : V) : Z7.all (run9 keys) = true := by kernel_rfl
theorem zs8 (keys : V) : Z8.all (run9 keys) = true := by kernel_rfl
theorem zs9 (keys : V) : Z9.all (run9 keys) = true := by kernel_rfl
theorem zs10 (keys : V) : Z10.all (run9 keys) = true := by kernel_rfl
theorem zs11 (keys : V) : Z11.all (run9 keys) = true := by kernel_rfl
theorem zs12 (keys : V) : Z12.all (run9 keys) = true := by kernel_rfl
theorem zs13 (keys : V) : Z13.all (run9 keys) = true := by kernel_rfl
theorem zs14 (keys : V) : Z14.all (run9 keys) = true := by kernel_rfl
theorem zs15 (keys : V) : Z15.all (run9 keys) = true := by kernel_rfl
theorem zs16 (keys : V) : Z16.all (run9 keys) = true := by kernel_rfl
theorem run9_any (keys : V) : ∀ z ∈ goodZ, run9 keys z = true := fun z h => by
  unfold goodZ at h
  simp only [List.mem_append] at h
  rcases h with (((((((((((((((h | h) | h) | h) | h) | h) | h) | h) | h) | h) | h) | h) | h) | h) | h) | h) | h
  · exact List.all_eq_true.mp (zs0 keys) z h
  · exact List.all_eq_true.mp (zs1 keys) z h
  · exact List.all_eq_true.mp (zs2 keys) z h
  · exact List.all_eq_true.mp (zs3 keys) z h
  · exact List.all_eq_true.mp (zs4 keys) z h
  · exact List.all_eq_true.mp (zs5 keys) z h
  · exact List.all_eq_true.mp (zs6 keys) z h
  · exact List.all_eq_true.mp (zs7 keys) z h
  · exact List.all_eq_true.mp (zs8 keys) z h
  · exact List.all_eq_true.mp (zs9 keys) z h
  · exact List.all_eq_true.mp (zs10 keys) z h
  · exact List.all_eq_true.mp (zs11 keys) z h
  · exact List.all_eq_true.mp (zs12 keys) z h
  · exact List.all_eq_true.mp (zs13 keys) z h
  · exact List.all_eq_true.mp (zs14 keys) z h
  · exact List.all_eq_true.mp (zs15 keys) z h
  · exact List.all_eq_true.mp (zs16 keys) z h
end HQ
end
section
set_option autoImplicit false
set_option linter.unusedSectionVars false
set_option linter.unusedVariables false
set_option linter.unusedSimpArgs false
set_option maxRecDepth 100000
namespace HQ
open PySem PySem.W PySem.Calls PyProof.Rows PySem.Spec
theorem p2_ometh {keys : V} {f : Str} {t : Nat} {d : FDef} (e : (P2 keys).ometh t f = some d) : f = "compare" := by
  have e : (if t = 9 ∧ f = "compare" then some compareD else Option.none) = some d := e
  by_cases h : t = 9 ∧ f = "compare"
  · exact h.2
  · rw [if_neg h] at e; cases e
theorem compare_leafs : memS "compare" leafs = false := by kernel_rfl
theorem compare_prod : memS "compare" ["_law_product"] = false := by kernel_rfl
theorem law_last [g : Gh] {w : World} {h₀ : Heap} (B : Base (K39 w.params) h₀) {ra : Addr} {q : Nat} (hq : q < 12) (RA' : RuleAt h₀ ra (keysC q)) (h9 : g.g 9 = .ref ra) {z : List Int} {rk : Nat → Nat} (hl : ∀ i ∈ List.range z.length, FaceAt h₀ q (g.g i) (rk i)) (hm : ∀ i ∈ List.range z.length, ∀ j ∈ List.range z.length, sg (rk i) (rk j) = sg (i % 3) (j % 3))
    (hrun : run9 (keysC q) z = true) {A : Around} (r : Room 130 60 A) {env : Env} {s : Shared} (S : St w h₀ [] [] s.heap) (X : FrOK h₀ [] s.heap env (F9 z)) {E : Value → Shared → Prop} {Q : Flow → Shared → Prop}
    (k : ∀ s' m, (∀ b o, h₀.get? b = some o → s'.heap.get? b = some o) → s'.heap.Ns env.locals m → (∃ h' tk, s' = { s with heap := h', toks := tk }) → Q (.ret (.bool true)) s') :
    wpAny (model prog w) A (execs (lawD.body.drop 3) env) Q E s := by
  have PO := progOK2 w.params (keysC q)
  have O1 := ΩFOK B PO (Ω2OK B hq RA' h9 hl hm) (m := 40) (fs := leafs) fun f t d e => by rw [p2_ometh e]; exact compare_leafs
  have O2 := ΩFOK B PO O1 (m := 50) (fs := ["_law_product"]) fun f t d e => by rw [p2_ometh e]; exact compare_prod
  have H := ev_sound B PO O2 60
  unfold run9 isTrueR at hrun
  split at hrun
  · rename_i vars σ h1
    refine H.ss h1 r S X fun f ρ' s' st' S' X' hf => ?_
    cases hf with
    | ret rv =>
      cases bool_of rv
      obtain ⟨m, hn, _⟩ := X'.ns
      exact k s' m S'.base hn st'.same
  · cases hrun
end HQ
end
section
set_option autoImplicit false
set_option linter.unusedSectionVars false
set_option linter.unusedVariables false
set_option linter.unusedSimpArgs false
set_option maxRecDepth 100000
namespace HQ
open PySem PySem.W PySem.Calls PyProof.Rows PySem.Spec

/-- the class of a draw -/
noncomputable def clsOf (v : Int) : Nat := if Int.fmod v 3 = 0 then 0 else if Int.fmod v 3 = 1 then 1 else 2
theorem clsOf_lt (v : Int) : clsOf v < 3 := by unfold clsOf; split <;> (try split) <;> omega
noncomputable def rowV (v : Int) : V := .tup [.int (Int.fdiv (Int.fmod v 3) 2), .int (Int.fmod (Int.fmod v 3) 2), .int v]
theorem row_cls (v : Int) : rowV v = .tup (clsV (clsOf v) v) := by
  have h1 := Int.fmod_nonneg_of_pos v (b := 3) (by omega)
  have h2 := Int.fmod_lt_of_pos v (b := 3) (by omega)
  have h3 : Int.fmod v 3 = 0 ∨ Int.fmod v 3 = 1 ∨ Int.fmod v 3 = 2 := by omega
  unfold rowV clsOf
  rcases h3 with h | h | h <;> rw [h] <;> rfl

theorem rk_lt : ∀ q < 12, ∀ k < 3, rkC q k < 3 := by decide +kernel

/-- the state of _law_kinds' loop: the ranks present, how many of each, the face of a rank -/
structure KS where
  f : List Nat
  z : List Int
  fr : Nat → V
noncomputable def KS.zero : KS := ⟨[], [], fun _ => .none⟩
noncomputable def KS.step (q : Nat) (s : KS) (v : Int) : KS :=
  ⟨(nx s.f s.z (rkC q (clsOf v))).1.map (· % 3), (nx s.f s.z (rkC q (clsOf v))).2, fun k => if s.f.contains k then s.fr k else rowV v⟩
structure KS.Ok (q n : Nat) (s : KS) : Prop where
  lev : (s.f, s.z) ∈ lev n
  fr : ∀ r ∈ s.f, r < 3 ∧ ∃ k u, k < 3 ∧ rkC q k = r ∧ s.fr r = .tup (clsV k u)
noncomputable def kindsOf (q : Nat) (ds : List Int) : KS := ds.foldl (KS.step q) KS.zero
noncomputable def KS.sto (s : KS) : Sto := [.list (s.f.map s.fr), .list (s.z.map .int)]

theorem KS.ok_zero (q : Nat) : KS.Ok q 0 KS.zero := ⟨by decide +kernel, fun r m => by cases m⟩

/-- what one turn's look-up says -/
structure TurnIs (q n : Nat) (s : KS) (v : Int) (t : List Nat × List Int) : Prop where
  run : turnK (keysC q) s.f s.z (rkC q (clsOf v)) = some t
  nx : nx s.f s.z (rkC q (clsOf v)) = t
  ne : t.1 ≠ []
  lev : (t.1.map (· % 3), t.2) ∈ lev (n + 1)
  tags : ∀ k ∈ t.1, (k < 3 ∧ k ∈ s.f) ∨ (k = 3 + rkC q (clsOf v) ∧ rkC q (clsOf v) ∉ s.f)

theorem lookup_mem' {α β : Type} [BEq α] [LawfulBEq α] : ∀ {l : List (α × β)} {a : α} {b : β}, l.lookup a = some b → (a, b) ∈ l
  | [], _, _, h => by simp at h
  | (x, y) :: r, a, b, h => by
    simp only [List.lookup_cons] at h
    split at h
    · rename_i e
      cases h
      rw [eq_of_beq e]; exact List.mem_cons_self ..
    · exact List.mem_cons_of_mem _ (lookup_mem' h)

theorem turn_is {q n : Nat} (hq : q < 12) (hn : n < 7) {s : KS} (ok : s.Ok q n) (v : Int) : ∃ t, TurnIs q n s v t := by
  have h := lev_ok n hn _ ok.lev (rkC q (clsOf v)) (rk_lt q hq _ (clsOf_lt v))
  unfold okT at h
  split at h
  · rename_i t ht
    simp only [Bool.and_eq_true, decide_eq_true_eq, Bool.not_eq_true', List.all_eq_true, Bool.or_eq_true, List.contains_iff_mem, beq_iff_eq] at h
    obtain ⟨⟨h1, h2⟩, h3⟩ := h
    have run := turn_any (keysC q) ((s.f, s.z, rkC q (clsOf v)), t) (lookup_mem' ht)
    have hnx : HQ.nx s.f s.z (rkC q (clsOf v)) = t := by unfold HQ.nx; rw [ht]; exact Option.getD_some
    refine ⟨t, ⟨by dsimp only at run; exact run, hnx, ?_, h1, fun k m => ?_⟩⟩
    · rintro e; rw [e] at h2; cases h2
    · rcases h3 k m with ⟨a, b⟩ | ⟨a, b⟩
      · exact .inl ⟨a, b⟩
      · refine .inr ⟨a, fun c => ?_⟩
        rw [← List.contains_iff_mem] at c
        rw [c] at b; cases b
  · cases h

theorem KS.ok_step {q n : Nat} (hq : q < 12) {s : KS} (ok : s.Ok q n) {v : Int} {t : List Nat × List Int} (T : TurnIs q n s v t) : (s.step q v).Ok q (n + 1) := by
  have hr := rk_lt q hq _ (clsOf_lt v)
  refine ⟨?_, fun r m => ?_⟩
  · show ((nx s.f s.z (rkC q (clsOf v))).1.map (· % 3), (nx s.f s.z (rkC q (clsOf v))).2) ∈ _
    rw [T.nx]; exact T.lev
  · have m : r ∈ (nx s.f s.z (rkC q (clsOf v))).1.map (· % 3) := m
    rw [T.nx, List.mem_map] at m
    obtain ⟨k, hk, rfl⟩ := m
    refine ⟨Nat.mod_lt _ (by omega), ?_⟩
    show ∃ k' u, k' < 3 ∧ rkC q k' = k % 3 ∧ (if s.f.contains (k % 3) then s.fr (k % 3) else rowV v) = .tup (clsV k' u)
    rcases T.tags k hk with ⟨h1, h2⟩ | ⟨h1, h2⟩
    · have e : k % 3 = k := Nat.mod_eq_of_lt h1
      rw [e, if_pos (List.contains_iff_mem.mpr h2)]
      exact (ok.fr k h2).2
    · have e : k % 3 = rkC q (clsOf v) := by omega
      rw [e, if_neg (by rw [List.contains_iff_mem]; exact h2), row_cls]
      exact ⟨clsOf v, v, clsOf_lt v, rfl, rfl⟩

theorem outK_some {r : Option (Fl × Vars × Sto)} {f : List Nat} {z : List Int} (h : outK r = some (f, z)) :
    ∃ vars σ c1 c2, r = some (.next, vars, σ) ∧ look "rule" vars = some (.any 9) ∧ look "faces" vars = some (.ref c1) ∧ look "sizes" vars = some (.ref c2) ∧ (getF σ c1) = some (.list (f.map .any)) ∧ (getF σ c2) = some (.list (z.map .int)) := by
  have tv : ∀ {l : List V} {f : List Nat}, tagsV l = some f → l = f.map .any := by
    intro l
    induction l with
    | nil => intro f h; cases h; rfl
    | cons x r ih =>
      intro f h
      cases x <;> simp only [tagsV] at h <;> first | (cases h; done) | skip
      rw [Option.map_eq_some_iff] at h
      obtain ⟨g, h1, rfl⟩ := h
      rw [ih h1]; rfl
  have iv : ∀ {l : List V} {f : List Int}, intsV l = some f → l = f.map .int := by
    intro l
    induction l with
    | nil => intro f h; cases h; rfl
    | cons x r ih =>
      intro f h
      cases x <;> simp only [intsV] at h <;> first | (cases h; done) | skip
      rw [Option.map_eq_some_iff] at h
      obtain ⟨g, h1, rfl⟩ := h
      rw [ih h1]; rfl
  have cv : ∀ {σ : Sto} {vars : Vars} {x : Str} {l : List V}, cellOfV σ vars x = some l → ∃ c, look x vars = some (.ref c) ∧ (getF σ c) = some (.list l) := by
    intro σ vars x l h
    unfold cellOfV at h
    split at h
    · rename_i c hc
      unfold listAt at h
      split at h
      · rename_i l' hl
        cases h
        exact ⟨c, hc, hl⟩
      · cases h
    · cases h
  unfold outK at h
  split at h
  · rename_i vars σ
    split at h
    · rename_i l1 l2 h1 h2 h3
      split at h
      · rename_i f' z' h4 h5
        cases h
        obtain ⟨c1, a1, b1⟩ := cv h2
        obtain ⟨c2, a2, b2⟩ := cv h3
        rw [tv h4] at b1
        rw [iv h5] at b2
        exact ⟨vars, σ, c1, c2, rfl, h1, a1, a2, b1, b2⟩
      · cases h
    · cases h
  · cases h

section
variable {h h' : Heap} {ρ ρ' : List Addr}
theorem RL.of_get [Gh] : ∀ {vs : List Value} {l : List V}, vs.length = l.length → (∀ (i : Nat) (v : Value) (x : V), vs[i]? = some v → l[i]? = some x → RV ρ h v x) → RL ρ h vs l
  | [], [], _, _ => .nil
  | [], _ :: _, e, _ => by simp at e
  | _ :: _, [], e, _ => by simp at e
  | v :: vs, x :: l, e, k => .cons (k 0 v x rfl rfl) (RL.of_get (by simpa using e) fun i u y h1 h2 => k (i + 1) u y (by simpa using h1) (by simpa using h2))
theorem RL.ints2 {g1 g2 : Gh} {vs : List Value} {zs : List Int} (r : @RL g1 ρ h vs (zs.map .int)) : @RL g2 ρ' h' vs (zs.map .int) := @RL.ofInts g2 _ _ _ _ (@ints_are g1 _ _ _ _ _ r (intsV_map zs))
theorem IT.lst_re {g1 g2 : Gh} {I : Addr} {n i : Nat} {zs : List Int} (x : @IT g1 ρ h I n i (.lst (zs.map .int))) (k : ∀ a, a ∈ ρ' → a ∈ ρ ∨ h.get? a = Option.none) : @IT g2 ρ' h I n i (.lst (zs.map .int)) := by
  obtain ⟨a, vs, h1, h2, h3, h4, h5⟩ := x
  refine ⟨a, vs, h1, h2, h3, fun m => (k a m).elim h4 fun e => ?_, h5.ints2⟩
  obtain ⟨o, e', _⟩ := h2
  rw [e] at e'; cases e'
theorem RuleAt.up {h₀ h₁ : Heap} {ra : Addr} {keys : V} (k : ∀ b o, h₀.get? b = some o → h₁.get? b = some o) (r : RuleAt h₀ ra keys) : RuleAt h₁ ra keys := by
  obtain ⟨da, od, val, h1, h2, h3, h4, h5, h6⟩ := r.at_
  exact ⟨da, od, val, k _ _ h1, k _ _ h2, h3, h4, h5, fun g => RV.up k (fun _ m => by cases m) (h6 g)⟩

/-- a frame without captured names, seen anew by its namespace -/
theorem FrOK.re2 {g1 g2 : Gh} {h₀ h₀' : Heap} {env : Env} {sc : Scope} {vars vars' : Vars} {m : Str → Option Value} (X : @FrOK g1 h₀ ρ h env ⟨sc, vars⟩) (nc : ∀ x, sc.names.lookup x ≠ some .cell ∧ sc.names.lookup x ≠ some .free)
    (l0 : h₀'.get? env.locals = Option.none) (lr : env.locals ∉ ρ') (hn : h.Ns env.locals m) (hv : ∀ x v', look x vars' = some v' → (∃ v, look x vars = some v) ∧ ∃ val, m x = some val ∧ @RV g2 ρ' h val v') : @FrOK g2 h₀' ρ' h env ⟨sc, vars'⟩ := by
  obtain ⟨x1, x2, x3, x4, x5, x6, x7, x8, x9, xk, xn, -, -, -, -, -⟩ := X
  refine @FrOK.mk g2 _ _ _ _ _ x1 x2 x3 x4 x5 x6 x7 x8 x9 (fun x v e => ?_) ⟨m, hn, fun x v h1 h2 => (hv x v h2).2⟩ (fun x hx => ?_) (fun x y c h => absurd h (nc x).1) lr l0 (fun x c h => absurd h (nc x).1)
  · obtain ⟨⟨v0, h1⟩, _⟩ := hv x v e
    exact xk x v0 h1
  · rcases hx with hx | hx
    · exact absurd hx (nc x).1
    · exact absurd hx (nc x).2
end

theorem kinds_nc : ∀ x, kindsD.scope.names.lookup x ≠ some .cell ∧ kindsD.scope.names.lookup x ≠ some .free := by
  have key : (kindsD.scope.names.all fun p => p.2 != .cell && p.2 != .free) = true := by decide +kernel
  rw [List.all_eq_true] at key
  intro x
  constructor <;> intro e <;> (have := key _ (mem_of_lookup e); simp at this)

noncomputable def K1 (l : V) : Vars := [("draws", l), ("rule", .any 9)]
noncomputable def K2 (l : V) : Vars := [("draws", l), ("rule", .any 9), ("faces", .ref 0)]
noncomputable def K3 (l : V) : Vars := [("draws", l), ("rule", .any 9), ("faces", .ref 0), ("sizes", .ref 1)]
noncomputable def KV : Vars := [("rule", .any 9), ("faces", .ref 0), ("sizes", .ref 1)]
noncomputable def rowSt : Stmt := (loopB[0]?).getD (.Pass default)
theorem loop_body : loopB = rowSt :: loopB.drop 1 := by kernel_rfl
theorem kinds_body : kindsD.body = [stOf kindsD 0, stOf kindsD 1, stOf kindsD 2, stOf kindsD 3] := by kernel_rfl
theorem row_run (keys : V) (v : Int) (σ : Sto) : (ev (P2 keys) Ω0 20).s ⟨kindsD.scope, setv "v" (.int v) KV⟩ rowSt σ = some (.next, setv "row" (rowV v) (setv "v" (.int v) KV), σ) := by kernel_rfl
theorem st0_run (keys l : V) : (ev (P2 keys) Ω0 20).s ⟨kindsD.scope, K1 l⟩ (stOf kindsD 0) [] = some (.next, K2 l, [.list []]) := by kernel_rfl
theorem st1_run (keys l : V) : (ev (P2 keys) Ω0 20).s ⟨kindsD.scope, K2 l⟩ (stOf kindsD 1) [.list []] = some (.next, K3 l, [.list [], .list []]) := by kernel_rfl
theorem st3_run (keys : V) (σ : Sto) : (ev (P2 keys) Ω0 20).s ⟨kindsD.scope, KV⟩ (stOf kindsD 3) σ = some (.ret (.tup [.ref 0, .ref 1]), KV, σ) := by kernel_rfl

/-- the loop's own form -/
noncomputable def forForm : Stmt → Option (Str × Str × List Stmt)
  | .For (.Name a _) (.Name b _) body [] _ => some (a, b, body)
  | _ => Option.none
theorem forForm_some {st : Stmt} {a b : Str} {body : List Stmt} (h : forForm st = some (a, b, body)) : ∃ p q r, st = .For (.Name a p) (.Name b q) body [] r := by
  unfold forForm at h
  split at h
  · cases h; exact ⟨_, _, _, rfl⟩
  · cases h
theorem st2_form : forForm (stOf kindsD 2) = some (("v" : Str), ("draws" : Str), loopB) := by kernel_rfl
end HQ
end
section
set_option autoImplicit false
set_option linter.unusedSectionVars false
set_option linter.unusedVariables false
set_option linter.unusedSimpArgs false
set_option maxRecDepth 100000
namespace HQ
open PySem PySem.W PySem.Calls PyProof.Rows PySem.Spec

/-- what a call keeps -/
structure Kp (s0 s : Shared) : Prop where
  same : ∃ h' tk, s = { s0 with heap := h', toks := tk }
  keep : ∀ b o, s0.heap.get? b = some o → s.heap.get? b = some o
theorem Kp.none {s0 s : Shared} (x : Kp s0 s) {a : Addr} (e : s.heap.get? a = Option.none) : s0.heap.get? a = Option.none := by
  cases q : s0.heap.get? a with
  | none => rfl
  | some o => rw [x.keep a o q] at e; cases e
theorem Kp.step {O : Addr → Prop} {ρ ρ' : List Addr} {s0 s s' : Shared} (x : Kp s0 s) (y : Step O ρ s ρ' s') (h1 : ∀ a ∈ ρ, s0.heap.get? a = Option.none) (h2 : ∀ a, O a → s0.heap.get? a = Option.none) : Kp s0 s' := by
  obtain ⟨h, tk, rfl⟩ := x.same
  obtain ⟨h', tk', rfl⟩ := y.same
  exact ⟨⟨h', tk', rfl⟩, fun b o e => y.keep b o (x.keep b o e) (fun m => by rw [h1 b m] at e; cases e) (fun m => by rw [h2 b m] at e; cases e)⟩
theorem Kp.but {s0 s : Shared} {I : Addr} {h' : Heap} {tk : Nat} (x : Kp s0 s) (bt : ButI I s.heap h') (hI : s0.heap.get? I = Option.none) : Kp s0 { s with heap := h', toks := tk } := by
  obtain ⟨h, tk0, rfl⟩ := x.same
  exact ⟨⟨h', tk, rfl⟩, fun b o e => bt b o (fun q => by rw [q, hI] at e; cases e) (x.keep b o e)⟩

theorem faces_fn [Gh] {ρ : List Addr} {h : Heap} {fr : Nat → V} : ∀ {f : List Nat} {vs : List Value}, f.Nodup → RL ρ h vs (f.map fr) → ∃ fv : Nat → Value, vs = f.map fv ∧ ∀ t ∈ f, RV ρ h (fv t) (fr t)
  | [], vs, _, r => by cases r; exact ⟨fun _ => .none, rfl, fun _ m => by cases m⟩
  | t :: f, vs, nd, r => by
    rw [List.nodup_cons] at nd
    cases r with
    | @cons v x vs l r1 r2 =>
    obtain ⟨fv, e, k⟩ := faces_fn nd.2 r2
    refine ⟨fun k => if k = t then v else fv k, ?_, fun u m => ?_⟩
    · rw [List.map_cons, if_pos rfl, e]
      congr 1
      refine List.map_congr_left fun a ha => ?_
      rw [if_neg (fun (q : a = t) => nd.1 (q ▸ ha))]
    · show RV ρ h (if u = t then v else fv u) (fr u)
      by_cases q : u = t
      · rw [if_pos q, q]; exact r1
      · rw [if_neg q]
        rcases List.mem_cons.mp m with m | m
        · exact absurd m q
        · exact k u m

theorem RL.anys {g1 : Gh} {ρ : List Addr} {h : Heap} {fv : Nat → Value} : ∀ {f : List Nat}, (∀ t ∈ f, fv t = g1.g t ∧ handedIn (fv t) = true) → @RL g1 ρ h (f.map fv) (f.map .any)
  | [], _ => @RL.nil g1 _ _
  | t :: f, k => @RL.cons g1 _ _ _ _ _ _ (@RV.any g1 _ _ _ t (k t (List.mem_cons_self ..)).1 (k t (List.mem_cons_self ..)).2) (RL.anys fun u m => k u (List.mem_cons_of_mem _ m))
theorem RL.anys_back {g1 g2 : Gh} {ρ ρ' : List Addr} {h : Heap} {F : Nat → V} : ∀ {tags : List Nat} {vs : List Value}, @RL g1 ρ h vs (tags.map .any) → (∀ k ∈ tags, @RV g2 ρ' h (g1.g k) (F k)) → @RL g2 ρ' h vs (tags.map F)
  | [], _, r, _ => by cases r; exact @RL.nil g2 _ _
  | t :: f, _, r, k => by
    cases r with
    | cons r1 r2 =>
    cases r1 with
    | any _ e hh => exact @RL.cons g2 _ _ _ _ _ _ (e ▸ k t (List.mem_cons_self ..)) (RL.anys_back r2 fun u m => k u (List.mem_cons_of_mem _ m))

theorem clsV_pv (k : Nat) (u : Int) : PV (.tup (clsV k u)) := by
  refine .tup fun x m => ?_
  unfold clsV at m
  split at m <;> simp at m <;> rcases m with rfl | rfl | rfl <;> exact .int _

theorem execs_loop {A : Around} {env : Env} {w : World} {Q : Flow → Shared → Prop} {E : Value → Shared → Prop} {s : Shared} (h : wpAny (model prog w) A (execs (rowSt :: loopB.drop 1) env) Q E s) : wpAny (model prog w) A (execs loopB env) Q E s := by
  rw [loop_body]; exact h

theorem kv_look {x : Str} {v : V} (h : look x KV = some v) : (x = "rule" ∧ v = .any 9) ∨ (x = "faces" ∧ v = .ref 0) ∨ (x = "sizes" ∧ v = .ref 1) := by
  unfold KV at h
  simp only [look_cons, look_nil] at h
  split at h
  · rename_i e; cases h; exact .inl ⟨e, rfl⟩
  · split at h
    · rename_i e; cases h; exact .inr (.inl ⟨e, rfl⟩)
    · split at h
      · rename_i e; cases h; exact .inr (.inr ⟨e, rfl⟩)
      · cases h
theorem fk_look {r : Nat} {x : Str} {v : V} (h : look x (FK r).vars = some v) : (x = "rule" ∧ v = .any 9) ∨ (x = "faces" ∧ v = .ref 0) ∨ (x = "sizes" ∧ v = .ref 1) ∨ (x = "row" ∧ v = .any (3 + r)) := by
  unfold FK at h
  simp only [look_cons, look_nil] at h
  split at h
  · rename_i e; cases h; exact .inl ⟨e, rfl⟩
  · split at h
    · rename_i e; cases h; exact .inr (.inl ⟨e, rfl⟩)
    · split at h
      · rename_i e; cases h; exact .inr (.inr (.inl ⟨e, rfl⟩))
      · split at h
        · rename_i e; cases h; exact .inr (.inr (.inr ⟨e, rfl⟩))
        · cases h

noncomputable def VR (v : Int) : Vars := setv "row" (rowV v) (setv "v" (.int v) KV)
theorem vr_rule (v : Int) : look "rule" (VR v) = some (.any 9) := by kernel_rfl
theorem vr_faces (v : Int) : look "faces" (VR v) = some (.ref 0) := by kernel_rfl
theorem vr_sizes (v : Int) : look "sizes" (VR v) = some (.ref 1) := by kernel_rfl
theorem vr_row (v : Int) : look "row" (VR v) = some (rowV v) := by kernel_rfl
theorem kinds_store : storeOk kindsD.scope "v" = true := by decide +kernel
theorem kinds_local : ∀ x ∈ (["rule", "faces", "sizes", "row"] : List Str), kindsD.scope.names.lookup x = some .local := by decide +kernel

set_option warn.classDefReducibility false in
/-- the tags of a turn -/
noncomputable def tagG (ra : Addr) (rv : Value) (r : Nat) (fv : Nat → Value) : Gh := ⟨fun t => if t = 9 then .ref ra else if t = 3 + r then rv else fv t⟩

section
variable [g : Gh] {w : World} {h₀ : Heap}

theorem own_kinds {env : Env} {vars : Vars} {a : Addr} (o : Own env ⟨kindsD.scope, vars⟩ a) : a = env.locals := by
  rcases o with o | ⟨x, h1, _⟩
  · exact o
  · exact absurd h1 (kinds_nc x).1

/-- the rest of one turn, on the tags -/
theorem turn_rest (B : Base (K39 w.params) h₀) {ra : Addr} {q n : Nat} (hq : q < 12) (RA' : RuleAt h₀ ra (keysC q)) (h9 : g.g 9 = .ref ra) {A : Around} (r : Room 40 50 A) {env : Env} {s : Shared} {st : KS} (ok : st.Ok q n) (nd : st.f.Nodup) {v : Int} {t : List Nat × List Int} (T : TurnIs q n st v t)
    {fa sa : Addr} (S : St w h₀ [fa, sa] st.sto s.heap) (X : FrOK h₀ [fa, sa] s.heap env ⟨kindsD.scope, VR v⟩) {E : Value → Shared → Prop} {Q : Flow → Shared → Prop} {I : Addr} {dn : List Int} {m i : Nat} (it : IT [fa, sa] s.heap I m i (.lst (dn.map .int))) (nI : I ∉ [fa, sa])
    (k : ∀ ρ' fa' sa' s', Step (Own env ⟨kindsD.scope, VR v⟩) [fa, sa] s ρ' s' → (fa' ∈ [fa, sa] ∨ s.heap.get? fa' = Option.none) → (sa' ∈ [fa, sa] ∨ s.heap.get? sa' = Option.none) → St w h₀ [fa', sa'] (st.step q v).sto s'.heap → FrOK h₀ [fa', sa'] s'.heap env ⟨kindsD.scope, KV⟩ → IT [fa', sa'] s'.heap I m i (.lst (dn.map .int)) → I ∉ [fa', sa'] → Q .next s') :
    wpAny (model prog w) A (execs (loopB.drop 1) env) Q E s := by
  have hrr := rk_lt q hq _ (clsOf_lt v)
  -- the new base
  have hl : ∀ a ∈ [env.locals, fa, sa], h₀.get? a = Option.none := fun a ha => by
    simp only [List.mem_cons, List.not_mem_nil, or_false] at ha
    rcases ha with rfl | rfl | rfl
    · exact X.l0
    · exact S.lo _ (by simp)
    · exact S.lo _ (by simp)
  have up : ∀ b o, h₀.get? b = some o → (hideAll s.heap [env.locals, fa, sa]).get? b = some o := fun b o e => hide_ne (S.base b o e) fun mm => by rw [hl b mm] at e; cases e
  have B₁ := B.mono up
  have RA₁ := RA'.up up
  obtain ⟨vs, hp, hr⟩ := S.ref (c := 0) (a := fa) (x := .list (st.f.map st.fr)) rfl rfl
  obtain ⟨zs, hpz, hrz⟩ := S.ref (c := 1) (a := sa) (x := .list (st.z.map .int)) rfl rfl
  obtain ⟨fv, rfl, hfv⟩ := faces_fn nd hr
  obtain ⟨mm, hn, hm⟩ := X.ns
  obtain ⟨rowVal, hrow, rvrow⟩ := hm "row" _ (kinds_local _ (by simp)) (vr_row v)
  obtain ⟨v1, hrule, rvrule⟩ := hm "rule" _ (kinds_local _ (by simp)) (vr_rule v)
  obtain ⟨v2, hfaces, rvfaces⟩ := hm "faces" _ (kinds_local _ (by simp)) (vr_faces v)
  obtain ⟨v3, hsizes, rvsizes⟩ := hm "sizes" _ (kinds_local _ (by simp)) (vr_sizes v)
  have e1 : v1 = .ref ra := by
    cases rvrule with
    | any _ e _ => rw [e]; exact h9
  subst e1
  -- what is hidden is not frozen
  have hf : ∀ a ∈ [env.locals, fa, sa], ∀ o, s.heap.get? a = some o → frozenO o = false := fun a ha o e => by
    simp only [List.mem_cons, List.not_mem_nil, or_false] at ha
    rcases ha with rfl | rfl | rfl
    · obtain ⟨o', e', f', _⟩ := ns_obj hn
      rw [e] at e'; cases e'; exact f'
    · obtain ⟨o', e', f'⟩ := S.mutR a (by simp); rw [e] at e'; cases e'; exact f'
    · obtain ⟨o', e', f'⟩ := S.mutR a (by simp); rw [e] at e'; cases e'; exact f'
  have kf := hide_frozen hf
  have pureF : ∀ {val : Value} {k' : Nat} {u : Int}, RV [fa, sa] s.heap val (.tup (clsV k' u)) → ∀ g2 : Gh, @RV g2 [] (hideAll s.heap [env.locals, fa, sa]) val (.tup (clsV k' u)) := fun rv g2 => rv.pure kf (clsV_pv _ _)
  rw [row_cls] at rvrow
  have g9 : (tagG ra rowVal (rkC q (clsOf v)) fv).g 9 = .ref ra := rfl
  have grow : (tagG ra rowVal (rkC q (clsOf v)) fv).g (3 + rkC q (clsOf v)) = rowVal := by
    show (if _ then _ else if _ then _ else _) = _
    rw [if_neg (by omega), if_pos rfl]
  have gf : ∀ t ∈ st.f, (tagG ra rowVal (rkC q (clsOf v)) fv).g t = fv t := fun t ht => by
    have := (ok.fr t ht).1
    show (if _ then _ else if _ then _ else _) = _
    rw [if_neg (by omega), if_neg (by omega)]
  have live : ∀ i ∈ st.f ++ [3 + rkC q (clsOf v)], FaceAt (hideAll s.heap [env.locals, fa, sa]) q ((tagG ra rowVal (rkC q (clsOf v)) fv).g i) (i % 3) := fun i hi => by
    rcases List.mem_append.mp hi with hi | hi
    · obtain ⟨h3, k', u, hk', hrk, hfr⟩ := ok.fr i hi
      refine ⟨k', u, hk', by rw [hrk]; omega, ?_⟩
      rw [gf i hi]
      exact pureF (hfr ▸ hfv i hi)
    · simp only [List.mem_singleton] at hi
      subst hi
      refine ⟨clsOf v, v, clsOf_lt v, by omega, ?_⟩
      rw [grow]
      exact pureF rvrow
  have Ω := @Ω2OK (tagG ra rowVal (rkC q (clsOf v)) fv) w _ B₁ ra q hq RA₁ g9 (st.f ++ [3 + rkC q (clsOf v)]) (fun i => i % 3) live (fun _ _ _ _ => rfl)
  have H := @ev_sound (tagG ra rowVal (rkC q (clsOf v)) fv) _ _ _ _ _ _ B₁ (@progOK2 (tagG ra rowVal (rkC q (clsOf v)) fv) w.params (keysC q)) Ω 50
  have run := T.run
  unfold turnK at run
  obtain ⟨vars, σ, c1, c2, e, l1, l2, l3, s1, s2⟩ := outK_some (f := t.1) (z := t.2) run
  have lo1 : ∀ a ∈ [fa, sa], (hideAll s.heap [env.locals, fa, sa]).get? a = Option.none := fun a ha => hideAll_none _ (List.mem_cons_of_mem _ ha)
  have S₁ : @St (tagG ra rowVal (rkC q (clsOf v)) fv) w (hideAll s.heap [env.locals, fa, sa]) [fa, sa] [.list (st.f.map .any), .list (st.z.map .int)] s.heap := by
    refine @St.mk (tagG ra rowVal (rkC q (clsOf v)) fv) _ _ _ _ _ rfl S.nd lo1 S.nsys (S.big.up up) (fun b o e => of_hideAll _ e) fun c x a hx ha => ?_
    match c, hx, ha with
    | 0, hx, ha =>
      simp at hx ha; subst hx; subst ha
      refine ⟨_, hp, RL.anys fun t ht => ⟨(gf t ht).symm, (hfv t ht).handed⟩⟩
    | 1, hx, ha =>
      simp at hx ha; subst hx; subst ha
      exact ⟨_, hpz, hrz.ints2⟩
    | c + 2, hx, _ => simp at hx
  have X₁ : @FrOK (tagG ra rowVal (rkC q (clsOf v)) fv) (hideAll s.heap [env.locals, fa, sa]) [fa, sa] s.heap env (FK (rkC q (clsOf v))) := by
    refine FrOK.re2 X kinds_nc (hideAll_none _ (by simp)) X.lr hn fun x v' hv => ?_
    rcases fk_look hv with ⟨rfl, rfl⟩ | ⟨rfl, rfl⟩ | ⟨rfl, rfl⟩ | ⟨rfl, rfl⟩
    · exact ⟨⟨_, vr_rule v⟩, _, hrule, @RV.any (tagG ra rowVal (rkC q (clsOf v)) fv) _ _ _ 9 rfl rfl⟩
    · obtain ⟨a, rfl, qa⟩ := ref_of rvfaces
      exact ⟨⟨_, vr_faces v⟩, _, hfaces, @RV.ref (tagG ra rowVal (rkC q (clsOf v)) fv) _ _ _ _ qa⟩
    · obtain ⟨a, rfl, qa⟩ := ref_of rvsizes
      exact ⟨⟨_, vr_sizes v⟩, _, hsizes, @RV.ref (tagG ra rowVal (rkC q (clsOf v)) fv) _ _ _ _ qa⟩
    · exact ⟨⟨_, vr_row v⟩, _, hrow, @RV.any (tagG ra rowVal (rkC q (clsOf v)) fv) _ _ _ _ grow.symm rvrow.handed⟩
  refine @SO.ss (tagG ra rowVal (rkC q (clsOf v)) fv) _ _ _ _ _ _ _ H _ _ _ _ _ _ _ _ _ _ _ e r S₁ X₁ _ fun f ρ' s' st' S' X' hf' => ?_
  cases hf'
  obtain ⟨fa', hfa', vs', hp', hr'⟩ := @St.at (tagG ra rowVal (rkC q (clsOf v)) fv) _ _ _ _ _ S' _ _ s1
  obtain ⟨sa', hsa', zs', hpz', hrz'⟩ := @St.at (tagG ra rowVal (rkC q (clsOf v)) fv) _ _ _ _ _ S' _ _ s2
  have mfa := List.mem_of_getElem? hfa'
  have msa := List.mem_of_getElem? hsa'
  have sub : ∀ a ∈ [fa', sa'], a ∈ ρ' := fun a ha => by
    simp only [List.mem_cons, List.not_mem_nil, or_false] at ha
    rcases ha with rfl | rfl <;> assumption
  obtain ⟨-, nd', lo0, nsys', -, base', -⟩ := id S'
  obtain ⟨-, -, -, -, -, -, -, -, -, -, ⟨m', hn', hm'⟩, -, -, xlr', -, -⟩ := id X'
  have ne : fa' ≠ sa' := by
    rintro rfl
    have hc := nodup_idx nd' hfa' hsa'
    subst hc
    rw [s1] at s2
    have h2 : t.1.map V.any = t.2.map V.int := by
      have := Option.some.inj s2
      injection this
    cases ht : t.1 with
    | nil => exact T.ne ht
    | cons a l =>
      rw [ht] at h2
      cases hz : t.2 with
      | nil => rw [hz] at h2; cases h2
      | cons b l2 => rw [hz] at h2; simp only [List.map_cons, List.cons.injEq] at h2; cases h2.1
  have old : ∀ a ∈ [fa', sa'], a ∈ [fa, sa] ∨ s.heap.get? a = Option.none := fun a ha => st'.new a (sub a ha)
  have lo' : ∀ a ∈ [fa', sa'], (hideAll s.heap [env.locals, fa, sa]).get? a = Option.none := fun a ha => lo0 a (sub a ha)
  have faceUp : ∀ {val : Value} {k' : Nat} {u : Int}, (∀ g2 : Gh, @RV g2 [] (hideAll s.heap [env.locals, fa, sa]) val (.tup (clsV k' u))) → RV [fa', sa'] s'.heap val (.tup (clsV k' u)) := fun h => RV.up base' lo' (h g)
  have S₂ : St w h₀ [fa', sa'] (st.step q v).sto s'.heap := by
    refine St.mk rfl (by simp [ne]) (fun a ha => ?_) (fun a ha => nsys' a (sub a ha)) S.big (fun b o e => base' _ _ (up b o e)) fun c x a hx ha => ?_
    · cases e0 : h₀.get? a with
      | none => rfl
      | some o => have := lo' a ha; rw [up a o e0] at this; cases this
    · match c, hx, ha with
      | 0, hx, ha =>
        have hx : some (Cell.list ((st.step q v).f.map (st.step q v).fr)) = some x := hx
        have ha : some fa' = some a := ha
        cases hx; cases ha
        refine ⟨_, hp', ?_⟩
        have e1 : (st.step q v).f = t.1.map (· % 3) := by show (nx _ _ _).1.map _ = _; rw [T.nx]
        rw [e1, List.map_map]
        refine RL.anys_back hr' fun k hk => ?_
        show RV [fa', sa'] s'.heap _ (if st.f.contains (k % 3) then st.fr (k % 3) else rowV v)
        rcases T.tags k hk with ⟨h1, h2⟩ | ⟨h1, h2⟩
        · have e2 : k % 3 = k := Nat.mod_eq_of_lt h1
          rw [e2, if_pos (List.contains_iff_mem.mpr h2), gf k h2]
          obtain ⟨_, k', u, hk', hrk, hfr⟩ := ok.fr k h2
          rw [hfr]
          exact faceUp (pureF (hfr ▸ hfv k h2))
        · have e2 : k % 3 = rkC q (clsOf v) := by omega
          rw [e2, if_neg (by rw [List.contains_iff_mem]; exact h2), row_cls, h1, grow]
          exact faceUp (pureF rvrow)
      | 1, hx, ha =>
        have hx : some (Cell.list ((st.step q v).z.map .int)) = some x := hx
        have ha : some sa' = some a := ha
        cases hx; cases ha
        have e1 : (st.step q v).z = t.2 := by show (nx _ _ _).2 = _; rw [T.nx]
        rw [e1]
        exact ⟨_, hpz', hrz'.ints2⟩
      | c + 2, hx, ha => simp at ha
  obtain ⟨w1, hrule', rvrule'⟩ := hm' "rule" _ (kinds_local _ (by simp)) l1
  obtain ⟨w2, hfaces', rvfaces'⟩ := hm' "faces" _ (kinds_local _ (by simp)) l2
  obtain ⟨w3, hsizes', rvsizes'⟩ := hm' "sizes" _ (kinds_local _ (by simp)) l3
  have X₂ : FrOK h₀ [fa', sa'] s'.heap env ⟨kindsD.scope, KV⟩ := by
    refine FrOK.re2 X' kinds_nc X.l0 (fun ha => xlr' (sub _ ha)) hn' fun x v' hv => ?_
    rcases kv_look hv with ⟨rfl, rfl⟩ | ⟨rfl, rfl⟩ | ⟨rfl, rfl⟩
    · refine ⟨⟨_, l1⟩, _, hrule', ?_⟩
      cases rvrule' with
      | any _ e hh => exact .any 9 (e.trans (g9.trans h9.symm)) hh
    · refine ⟨⟨_, l2⟩, _, hfaces', ?_⟩
      obtain ⟨a, rfl, qa⟩ := @ref_of (tagG ra rowVal (rkC q (clsOf v)) fv) _ _ _ _ rvfaces'
      rw [hfa'] at qa; cases qa
      exact .ref rfl
    · refine ⟨⟨_, l3⟩, _, hsizes', ?_⟩
      obtain ⟨a, rfl, qa⟩ := @ref_of (tagG ra rowVal (rkC q (clsOf v)) fv) _ _ _ _ rvsizes'
      rw [hsa'] at qa; cases qa
      exact .ref rfl
  have nl : env.locals ≠ I := it.ne_ns hn
  have it1 : @IT (tagG ra rowVal (rkC q (clsOf v)) fv) [fa, sa] s.heap I m i (.lst (dn.map .int)) := it.lst_re fun a ha => .inl ha
  have mo1 := @FrOK.mutO (tagG ra rowVal (rkC q (clsOf v)) fv) _ _ _ _ _ X₁
  have it2 := @IT.step (tagG ra rowVal (rkC q (clsOf v)) fv) _ _ _ _ _ _ _ _ _ _ _ _ it1 S₁ st' (show MutO (Own env ⟨(FK (rkC q (clsOf v))).scope, vars⟩) s.heap from mo1) nI (fun o => nl (own_kinds o).symm)
  have it3 : IT [fa', sa'] s'.heap I m i (.lst (dn.map .int)) := it2.lst_re fun a ha => .inl (sub a ha)
  have nI' : I ∉ [fa', sa'] := fun ha => by
    obtain ⟨o, eo, _⟩ := it.obj
    rcases old I ha with h | h
    · exact nI h
    · rw [eo] at h; cases h
  exact k ρ' fa' sa' s' st' (old _ (by simp)) (old _ (by simp)) S₂ X₂ it3 nI'
end
end HQ
end
section
set_option autoImplicit false
set_option linter.unusedSectionVars false
set_option linter.unusedVariables false
set_option linter.unusedSimpArgs false
set_option maxRecDepth 100000
namespace HQ
open PySem PySem.W PySem.Calls PyProof.Rows PySem.Spec
section
variable [g : Gh] {w : World} {h₀ : Heap}

theorem O2_zero (B : Base (K39 w.params) h₀) {ra : Addr} {q : Nat} (RA' : RuleAt h₀ ra (keysC q)) (h9 : g.g 9 = .ref ra) : ΩOK (P2 (keysC q)) (K39 w.params) w h₀ 0 Ω0 := ⟨(fun _ e => by cases e), fun e S k => op_attr B RA' h9 e S k, fun e => op_meth B RA' h9 e⟩

theorem own_mem {env : Env} {vars : Vars} {s0 : Shared} (hL : s0.heap.get? env.locals = Option.none) : ∀ a, Own env ⟨kindsD.scope, vars⟩ a → s0.heap.get? a = Option.none := fun a o => by rw [own_kinds o]; exact hL

theorem kinds_loop (B : Base (K39 w.params) h₀) {ra : Addr} {q : Nat} (hq : q < 12) (RA' : RuleAt h₀ ra (keysC q)) (h9 : g.g 9 = .ref ra) {A : Around} (r : Room 40 50 A) {env : Env} {s0 : Shared} (h0 : ∀ b o, h₀.get? b = some o → s0.heap.get? b = some o) {I : Addr} (hI : s0.heap.get? I = Option.none) (hL : s0.heap.get? env.locals = Option.none) {ds : List Int} (hds : ds.length ≤ 7) {pv : Pos} {Rr : Result → Shared → Prop}
    (k : ∀ fa sa s', Kp s0 s' → s0.heap.get? fa = Option.none → s0.heap.get? sa = Option.none → St w h₀ [fa, sa] (kindsOf q ds).sto s'.heap → FrOK h₀ [fa, sa] s'.heap env ⟨kindsD.scope, KV⟩ → Rr (.ok .next) s') :
    ∀ (todo done : List Int) (st : KS) (fa sa : Addr) (s : Shared), ds = done ++ todo → st = kindsOf q done → st.Ok q done.length → Kp s0 s → s0.heap.get? fa = Option.none → s0.heap.get? sa = Option.none → St w h₀ [fa, sa] st.sto s.heap → FrOK h₀ [fa, sa] s.heap env ⟨kindsD.scope, KV⟩ → IT [fa, sa] s.heap I ds.length done.length (.lst (ds.map .int)) → I ∉ [fa, sa] →
      codeAny (model prog w) A (.forLoop (.Name "v" pv) (.ref I) loopB [] env) Rr s
  | [], done, st, fa, sa, s, e, hst, ok, kp, hfa, hsa, S, X, it, nI => by
    rw [List.append_nil] at e; subst e
    have I0 : h₀.get? I = Option.none := by
      cases e0 : h₀.get? I with
      | none => rfl
      | some o => rw [h0 I o e0] at hI; cases hI
    refine turn_for fun E => ?_
    have mo := mutO_only it.obj
    have nl : env.locals ≠ I := by obtain ⟨mm, hns, _⟩ := X.ns; exact it.ne_ns hns
    have ncl : ∀ x c v, env.cells.lookup x = some c → s.heap.IsCell c v → c ≠ I := fun x c v _ hi => it.ne_cell hi
    have hnx : nextV st.sto ds.length ds.length (.lst (ds.map .int)) = some Option.none := by simp [nextV]
    refine next_sound S r.1 it hnx (fun y v h' tk hr => by cases hr) (fun h' tk hr bt => ?_)
    refine k fa sa { s with heap := h', toks := tk } (kp.but bt hI) hfa hsa ?_ (X.but S bt mo nl ncl)
    rw [← hst]
    exact S.but bt nI mo I0
  | v :: todo, done, st, fa, sa, s, e, hst, ok, kp, hfa, hsa, S, X, it, nI => by
    have I0 : h₀.get? I = Option.none := by
      cases e0 : h₀.get? I with
      | none => rfl
      | some o => rw [h0 I o e0] at hI; cases hI
    have hlen : ds.length = done.length + (todo.length + 1) := by rw [e]; simp
    obtain ⟨t, T⟩ := turn_is hq (by omega) ok v
    refine turn_for fun E => ?_
    have mo := mutO_only it.obj
    have nl : env.locals ≠ I := by obtain ⟨mm, hns, _⟩ := X.ns; exact it.ne_ns hns
    have ncl : ∀ x c v, env.cells.lookup x = some c → s.heap.IsCell c v → c ≠ I := fun x c v _ hi => it.ne_cell hi
    have hnx : nextV st.sto ds.length done.length (.lst (ds.map .int)) = some (some (.int v)) := by
      simp only [nextV]
      rw [e]
      simp
    refine next_sound S r.1 it hnx (fun y val h' tk hr bt rv ito => ?_) (fun h' tk hr => by cases hr)
    cases hr
    have S₁ := S.but bt nI mo I0
    have X₁ := X.but S bt mo nl ncl
    have it₁ : IT [fa, sa] h' I ds.length (done.length + 1) (.lst (ds.map .int)) := ito.it rfl
    have kp₁ : Kp s0 { s with heap := h', toks := tk } := kp.but bt hI
    have cells : ∀ a ∈ [fa, sa], s0.heap.get? a = Option.none := fun a ha => by
      simp only [List.mem_cons, List.not_mem_nil, or_false] at ha
      rcases ha with rfl | rfl <;> assumption
    refine letGo_name (I := .ref I) ?_
    refine PyProof.Rows.assign_Name (store_var (s := { s with heap := h', toks := tk }) X₁ S₁ kinds_store rv fun s₃ st₃ S₃ X₃ => ?_)
    have nO : ∀ {vars : Vars}, ¬ Own env ⟨kindsD.scope, vars⟩ I := fun o => nl (own_kinds o).symm
    have it₃ := it₁.step (s := { s with heap := h', toks := tk }) S₁ st₃ (FrOK.mutO (s := { s with heap := h', toks := tk }) X₁) nI nO
    have kp₃ := kp₁.step st₃ cells (own_mem hL)
    have H := ev_sound B (progOK2 w.params (keysC q)) (O2_zero B RA' h9) 20
    refine execs_loop (wpAny_execs_cons (H.s (row_run (keysC q) v st.sto) (r.plain (by omega)) S₃ X₃ fun f ρ₄ s₄ st₄ S₄ X₄ hf => ?_))
    cases hf
    have hρ : ρ₄ = [fa, sa] := (st₄.pre.eq_of_length (by rw [S₄.len]; rfl)).symm
    subst hρ
    have it₄ := it₃.step S₃ st₄ X₃.mutO nI nO
    have kp₄ := kp₃.step st₄ cells (own_mem hL)
    refine turn_rest B hq RA' h9 r ok (lev_nd done.length (by omega) _ ok.lev) T S₄ X₄ it₄ nI fun ρ' fa' sa' s' st' nfa nsa S' X' it' nI' => ?_
    have kp' := kp₄.step st' cells (own_mem hL)
    have fr : ∀ {a : Addr}, a ∈ [fa, sa] ∨ s₄.heap.get? a = Option.none → s0.heap.get? a = Option.none := fun h => h.elim (cells _) kp₄.none
    refine kinds_loop B hq RA' h9 r h0 hI hL hds k todo (done ++ [v]) (st.step q v) fa' sa' s' (by rw [e]; simp) ?_ ?_ kp' (fr nfa) (fr nsa) S' X' ?_ nI'
    · rw [hst]; unfold kindsOf; rw [List.foldl_append]; rfl
    · have := KS.ok_step hq ok T
      simpa using this
    · simpa using it'
end
end HQ
end
section
set_option autoImplicit false
set_option linter.unusedSectionVars false
set_option linter.unusedVariables false
set_option linter.unusedSimpArgs false
set_option maxRecDepth 100000
namespace HQ
open PySem PySem.W PySem.Calls PyProof.Rows PySem.Spec

theorem kinds_bind (l : V) : bindP kindsD.params [l, .any 9] = some (K1 l) := by kernel_rfl
theorem k3_rule (l : V) : look "rule" (K3 l) = some (.any 9) := by kernel_rfl
theorem k3_faces (l : V) : look "faces" (K3 l) = some (.ref 0) := by kernel_rfl
theorem k3_sizes (l : V) : look "sizes" (K3 l) = some (.ref 1) := by kernel_rfl
theorem k3_draws (l : V) : look "draws" (K3 l) = some l := by kernel_rfl

theorem KS.ok_fold {q : Nat} (hq : q < 12) : ∀ (todo done : List Int), (done ++ todo).length ≤ 7 → (kindsOf q done).Ok q done.length → (kindsOf q (done ++ todo)).Ok q (done ++ todo).length
  | [], done, _, ok => by rw [List.append_nil]; exact ok
  | v :: r, done, h, ok => by
    have hl : (done ++ v :: r).length = done.length + (r.length + 1) := by simp
    obtain ⟨t, T⟩ := turn_is hq (by omega) ok v
    have ok' := KS.ok_step hq ok T
    have e : kindsOf q (done ++ [v]) = (kindsOf q done).step q v := by unfold kindsOf; rw [List.foldl_append]; rfl
    rw [← e] at ok'
    have := KS.ok_fold hq r (done ++ [v]) (by rw [List.append_assoc]; exact h) (by simpa using ok')
    rw [List.append_assoc] at this
    exact this
theorem kinds_ok {q : Nat} (hq : q < 12) {ds : List Int} (h : ds.length ≤ 7) : (kindsOf q ds).Ok q ds.length := KS.ok_fold hq ds [] h (KS.ok_zero q)

section
variable [g : Gh] {w : World} {h₀ : Heap}

theorem kinds_call (B : Base (K39 w.params) h₀) {ra : Addr} {q : Nat} (hq : q < 12) (RA' : RuleAt h₀ ra (keysC q)) (h9 : g.g 9 = .ref ra) {A : Around} (r : Room 40 51 A) {s : Shared} {ds : List Int} (hds : ds.length ≤ 7) (S : St w h₀ [] [] s.heap) {vs : List Value} (rl : RL [] s.heap vs [.lst (ds.map .int), .any 9])
    {Rr : Result → Shared → Prop} (k : RetC w h₀ [] s (kindsOf q ds).sto (.tup [.ref 0, .ref 1]) Rr) : codeAny (model prog w) A (.call (.ref kindsD.addr) ⟨vs, []⟩) Rr s := by
  have fk : FnK (K39 w.params) kindsD := k_law_kinds w.params
  have ok := defOk_of fk.ok
  obtain ⟨oc, od, fd, osl, hlk, h1, h2, h3, h4, h5, h6, h7⟩ := fk.obj
  have B' := S.base' B
  have hb := kinds_bind (.lst (ds.map .int))
  obtain ⟨hlen, hvars⟩ := bindP_some hb
  have hvl := rl.length
  refine codeAny_call_function (by have := r.2.1; omega) (B'.X _ _ hlk) rfl (by rw [h1]; exact ok.co) (by rw [h1]; exact ok.gen) h5 (codeRec_of B'.X h6) ?_
  rw [h7 vs (by omega)]
  refine wpAny_pure ?_
  rw [h1, h2, h3, h4]
  have hk := (namesOk_of ok.names).1
  refine wpAny_newFunctionEnv_cells hk (fun p hp => ?_) fun env he s₁ xc => ?_
  · rcases storeOk_of (ok.par p.1 (zip_fst hp)) with q | q
    · exact .inl q
    · exact .inr ⟨q, cellsFrom_some _ _ _ (.inl q)⟩
  have X₁ := call_env ok hb S rl he xc
  have gk := xc.toInCall.keep
  obtain ⟨h', tk, hs₁, _⟩ := xc.done
  have kp₁ : Kp s s₁ := ⟨⟨h', tk, hs₁⟩, gk⟩
  have S₁ := S.ext gk
  have hL : s.heap.get? env.locals = Option.none := by
    cases e : s.heap.get? env.locals with
    | none => rfl
    | some o => exact absurd (Heap.lt_size e) (Nat.not_lt.mpr xc.toInCall.fresh)
  refine ⟨(S₁.base' B).lim, codeAny_func ?_⟩
  rw [kinds_body]
  have H := ev_sound B (progOK2 w.params (keysC q)) (O2_zero B RA' h9) 20
  have r' : Room 0 20 (A.deeper env) := (Room.deeper r env).plain (by omega)
  refine wpAny_execs_cons (H.s (st0_run (keysC q) (.lst (ds.map .int))) r' S₁ X₁ fun f ρ₂ s₂ st₂ S₂ X₂ hf => ?_)
  cases hf
  refine wpAny_execs_cons (H.s (st1_run (keysC q) (.lst (ds.map .int))) r' S₂ X₂ fun f ρ₃ s₃ st₃ S₃ X₃ hf => ?_)
  cases hf
  have hlenρ := S₃.len
  match ρ₃, hlenρ, S₃, X₃, st₃ with
  | [fa, sa], _, S₃, X₃, st₃ =>
  have kp₂ := kp₁.step st₂ (fun a ha => by cases ha) (own_mem hL)
  have new₂ : ∀ a ∈ ρ₂, s.heap.get? a = Option.none := fun a ha => (st₂.new a ha).elim (fun x => by cases x) kp₁.none
  have kp₃ := kp₂.step st₃ new₂ (own_mem hL)
  have new₃ : ∀ a ∈ [fa, sa], s.heap.get? a = Option.none := fun a ha => (st₃.new a ha).elim (new₂ a) kp₂.none
  have X₃' : FrOK h₀ [fa, sa] s₃.heap env ⟨kindsD.scope, KV⟩ := FrOK.re X₃ kinds_nc X₃.l0 X₃.lr fun x v' hv => by
    rcases kv_look hv with ⟨rfl, rfl⟩ | ⟨rfl, rfl⟩ | ⟨rfl, rfl⟩
    · exact ⟨_, k3_rule _, fun _ h => h⟩
    · exact ⟨_, k3_faces _, fun _ h => h⟩
    · exact ⟨_, k3_sizes _, fun _ h => h⟩
  obtain ⟨pa, pb, pc, e2⟩ := forForm_some st2_form
  rw [e2]
  have es : startV [Cell.list [], .list []] (.lst (ds.map .int)) = some (.lst (ds.map .int), ds.length) := by simp [startV]
  refine wpAny_execs_cons (wpAny_For (load_var X₃ (k3_draws _) fun val rv => start_sound S₃ B.sys rv es fun I h' gI hI I0 it => ?_) (noSet_of rfl env))
  have stI : Step NoO [fa, sa] s₃ [fa, sa] { s₃ with heap := h' } := step_ext' gI
  have kpI : Kp s { s₃ with heap := h' } := kp₃.step stI new₃ (fun _ x => x.elim)
  have nI : I ∉ [fa, sa] := fun mm => by obtain ⟨o, e, _⟩ := S₃.mutR _ mm; rw [hI] at e; cases e
  refine kinds_loop B hq RA' h9 (Room.deeper r env) (s0 := s) S.base (kp₃.none hI) hL hds (fun fa' sa' s' kp' nfa nsa S' X' => ?_) ds [] KS.zero fa sa { s₃ with heap := h' } rfl rfl (KS.ok_zero q) kpI (new₃ _ (by simp)) (new₃ _ (by simp)) (S₃.ext gI) (X₃'.step0 S₃ stI) it nI
  refine wpAny_execs_cons (H.s (st3_run (keysC q) (kindsOf q ds).sto) r' S' X' fun f ρ₅ s₅ st₅ S₅ X₅ hf => ?_)
  cases hf with
  | ret rv =>
  have new₄ : ∀ a ∈ [fa', sa'], s.heap.get? a = Option.none := fun a ha => by
    simp only [List.mem_cons, List.not_mem_nil, or_false] at ha
    rcases ha with rfl | rfl <;> assumption
  have kp₅ := kp'.step st₅ new₄ (own_mem hL)
  refine k _ ρ₅ s₅ ⟨kp₅.same, List.nil_prefix, fun a ha => .inr ((st₅.new a ha).elim (new₄ a) kp'.none), fun b o e _ _ => kp₅.keep b o e, fun b o e => ⟨o, kp₅.keep b o e⟩⟩ S₅ rv

/-- _law_kinds answered -/
noncomputable def Ω3 (q : Nat) : Str → List V → Sto → Option (V × Sto) := fun f as σ => if f = "_law_kinds" then (match as, σ with
  | [.lst l, .any 9], [] => (match intsV l with
    | some ds => if ds.length ≤ 7 then some (.tup [.ref 0, .ref 1], (kindsOf q ds).sto) else Option.none
    | Option.none => Option.none)
  | _, _ => Option.none) else Option.none

theorem intsV_eq : ∀ {l : List V} {f : List Int}, intsV l = some f → l = f.map .int
  | [], f, h => by cases h; rfl
  | x :: r, f, h => by
    cases x <;> simp only [intsV] at h <;> first | (cases h; done) | skip
    rw [Option.map_eq_some_iff] at h
    obtain ⟨g, h1, rfl⟩ := h
    rw [intsV_eq h1]; rfl

theorem Ω3OK (B : Base (K39 w.params) h₀) {ra : Addr} {q : Nat} (hq : q < 12) (RA' : RuleAt h₀ ra (keysC q)) (h9 : g.g 9 = .ref ra) : ΩOK (P2 (keysC q)) (K39 w.params) w h₀ 91 (Ω3 q) := by
  refine ⟨fun {A ρ s σ f as x σ' vs d} hd e r S rl Rr k => ?_, fun e S k => op_attr B RA' h9 e S k, fun e => op_meth B RA' h9 e⟩
  unfold Ω3 at e
  split at e
  · rename_i hf
    subst hf
    split at e
    · rename_i l
      split at e
      · rename_i ds hi
        split at e
        · rename_i hlen
          cases e
          have hd' : d = kindsD := by
            rcases hd with hd | ⟨t, ht⟩
            · have : (P2 (keysC q)).fn "_law_kinds" = some kindsD := by kernel_rfl
              rw [this] at hd; cases hd; rfl
            · have ht : (if t = 9 ∧ ("_law_kinds" : Str) = "compare" then some compareD else Option.none) = some d := ht
              rw [if_neg (fun h => absurd h.2 (by decide))] at ht
              cases ht
          subst hd'
          have hρ : ρ = [] := List.eq_nil_of_length_eq_zero S.len
          subst hρ
          rw [intsV_eq hi] at rl
          exact kinds_call B hq RA' h9 ⟨r.1, by have := r.2.1; omega, by have := r.2.2; omega⟩ hlen S rl k
        · cases e
      · cases e
    · cases e
  · cases e
end
end HQ
end
section
set_option autoImplicit false
set_option linter.unusedSectionVars false
set_option linter.unusedVariables false
set_option linter.unusedSimpArgs false
set_option maxRecDepth 100000
namespace HQ
open PySem PySem.W PySem.Calls PyProof.Rows PySem.Spec

noncomputable def V3 (ds : List Int) : Vars := [("draws", .lst (ds.map .int)), ("rule", .any 9)]
noncomputable def V4 (ds : List Int) : Vars := [("draws", .lst (ds.map .int)), ("rule", .any 9), ("faces", .ref 0), ("sizes", .ref 1)]
noncomputable def run3 (q : Nat) (ds : List Int) := (ev (P2 (keysC q)) (Ω3 q) 60).s ⟨lawD.scope, V3 ds⟩ (lawSt 2) []
theorem kinds_any (q : Nat) : ∀ ds : List Int, 4 ≤ ds.length ∧ ds.length ≤ 7 → run3 q ds = some (.next, V4 ds, (kindsOf q ds).sto)
  | [], h => absurd h (by simp)
  | [_], h => absurd h (by simp)
  | [_, _], h => absurd h (by simp)
  | [_, _, _], h => absurd h (by simp)
  | [a, b, c, d], _ => by kernel_rfl
  | [a, b, c, d, e], _ => by kernel_rfl
  | [a, b, c, d, e, f], _ => by kernel_rfl
  | [a, b, c, d, e, f, g], _ => by kernel_rfl
  | _ :: _ :: _ :: _ :: _ :: _ :: _ :: _ :: _, h => absurd h.2 (by simp)
theorem v4_faces (ds : List Int) : look "faces" (V4 ds) = some (.ref 0) := by kernel_rfl
theorem v4_sizes (ds : List Int) : look "sizes" (V4 ds) = some (.ref 1) := by kernel_rfl
theorem v4_rule (ds : List Int) : look "rule" (V4 ds) = some (.any 9) := by kernel_rfl
theorem law_local : ∀ x ∈ (["rule", "faces", "sizes"] : List Str), lawD.scope.names.lookup x = some .local := by decide +kernel
theorem goodZ_le : ∀ z ∈ goodZ, z.length ≤ 3 := by decide +kernel

set_option warn.classDefReducibility false in
/-- the faces by place -/
noncomputable def placeG (ra : Addr) (vs : List Value) : Gh := ⟨fun t => if t = 9 then .ref ra else vs.getD t .none⟩

theorem RL.places {G : Gh} {h : Heap} {vs : List Value} (k : ∀ i v, vs[i]? = some v → v = G.g i ∧ handedIn v = true) : @RL G [] h vs ((List.range vs.length).map .any) := by
  refine @RL.of_get _ _ G _ _ (by simp) fun i v x hv hx => ?_
  have hi : i < vs.length := (List.getElem?_eq_some_iff.mp hv).1
  rw [List.getElem?_map, List.getElem?_range hi] at hx
  cases hx
  exact @RV.any G _ _ _ i (k i v hv).1 (k i v hv).2

theorem f9_look {z : List Int} {x : Str} {v : V} (h : look x (F9 z).vars = some v) : (x = "faces" ∧ v = .lst ((List.range z.length).map .any)) ∨ (x = "sizes" ∧ v = .lst (z.map .int)) ∨ (x = "rule" ∧ v = .any 9) := by
  unfold F9 at h
  simp only [look_cons, look_nil] at h
  split at h
  · rename_i e; cases h; exact .inl ⟨e, rfl⟩
  · split at h
    · rename_i e; cases h; exact .inr (.inl ⟨e, rfl⟩)
    · split at h
      · rename_i e; cases h; exact .inr (.inr ⟨e, rfl⟩)
      · cases h

theorem law_s3 [g : Gh] {w : World} {h₀ : Heap} (B : Base (K39 w.params) h₀) {ra : Addr} {q : Nat} (hq : q < 12) (RA' : RuleAt h₀ ra (keysC q)) (h9 : g.g 9 = .ref ra) {A : Around} (r : Room 91 60 A) {env : Env} {s : Shared} {ds : List Int} (hds : 4 ≤ ds.length ∧ ds.length ≤ 7) (S : St w h₀ [] [] s.heap) (X : FrOK h₀ [] s.heap env ⟨lawD.scope, V3 ds⟩) {E : Value → Shared → Prop} {Q : Flow → Shared → Prop}
    (k : ∀ z ∈ goodZ, ∀ (rk : Nat → Nat) h₀' s' (g2 : Gh), (∀ i ∈ List.range z.length, FaceAt h₀' q (g2.g i) (rk i)) → (∀ i ∈ List.range z.length, ∀ j ∈ List.range z.length, sg (rk i) (rk j) = sg (i % 3) (j % 3)) → RuleAt h₀' ra (keysC q) → g2.g 9 = .ref ra → (∀ b o, h₀.get? b = some o → h₀'.get? b = some o) → (∃ h' tk, s' = { s with heap := h', toks := tk }) → @St g2 w h₀' [] [] s'.heap → @FrOK g2 h₀' [] s'.heap env (F9 z) → Q .next s') :
    wpAny (model prog w) A (exec (lawSt 2) env) Q E s := by
  have H := ev_sound B (progOK2 w.params (keysC q)) (Ω3OK B hq RA' h9) 60
  have e := kinds_any q ds hds
  unfold run3 at e
  refine H.s e r S X fun f ρ' s' st' S' X' hf => ?_
  cases hf
  have hlenρ := S'.len
  match ρ', hlenρ, S', X', st' with
  | [fa, sa], _, S', X', st' =>
  have ok := kinds_ok hq hds.2
  have fin := lev_end ds.length (by omega) hds.1 _ ok.lev
  unfold okF at fin
  simp only [Bool.and_eq_true, decide_eq_true_eq, beq_iff_eq, List.all_eq_true] at fin
  obtain ⟨⟨hz, hfz⟩, hsg⟩ := fin
  obtain ⟨vs, ⟨nv, hp⟩, hr⟩ := S'.ref (c := 0) (a := fa) (x := .list ((kindsOf q ds).f.map (kindsOf q ds).fr)) rfl rfl
  obtain ⟨zs, ⟨nz, hpz⟩, hrz⟩ := S'.ref (c := 1) (a := sa) (x := .list ((kindsOf q ds).z.map .int)) rfl rfl
  have hvl : vs.length = (kindsOf q ds).z.length := by rw [hr.length, List.length_map, hfz]
  have h3 := goodZ_le _ hz
  have nl : ∀ b o, h₀.get? b = some o → b ∉ [env.locals] := fun b o eb m => by
    simp at m; rw [m, X.l0] at eb; cases eb
  have up : ∀ b o, h₀.get? b = some o → (hideAll s'.heap [env.locals]).get? b = some o := fun b o eb => hide_ne (S'.base b o eb) (nl b o eb)
  obtain ⟨mm, hn, hm⟩ := X'.ns
  have hLf : ∀ a ∈ [env.locals], ∀ o, s'.heap.get? a = some o → frozenO o = false := fun a m o e => by
    simp at m; subst m
    obtain ⟨o', e', f', _⟩ := ns_obj hn
    rw [e] at e'; cases e'; exact f'
  have kf := hide_frozen hLf
  obtain ⟨v1, hrule, rvrule⟩ := hm "rule" _ (law_local _ (by simp)) (v4_rule ds)
  obtain ⟨v2, hfaces, rvfaces⟩ := hm "faces" _ (law_local _ (by simp)) (v4_faces ds)
  obtain ⟨v3, hsizes, rvsizes⟩ := hm "sizes" _ (law_local _ (by simp)) (v4_sizes ds)
  have e1 : v1 = .ref ra := by
    cases rvrule with
    | any _ e _ => rw [e]; exact h9
  have e2 : v2 = .ref fa := by
    obtain ⟨a, rfl, q⟩ := ref_of rvfaces
    simp at q; rw [q]
  have e3 : v3 = .ref sa := by
    obtain ⟨a, rfl, q⟩ := ref_of rvsizes
    simp at q; rw [q]
  subst e1; subst e2; subst e3
  have gi : ∀ (i : Nat) (v : Value), vs[i]? = some v → (placeG ra vs).g i = v := fun i v hv => by
    have hi : i < vs.length := (List.getElem?_eq_some_iff.mp hv).1
    show (if _ then _ else _) = _
    rw [if_neg (by omega), List.getD_eq_getElem?_getD, hv]; rfl
  refine k (kindsOf q ds).z hz (fun i => (kindsOf q ds).f.getD i 0) (hideAll s'.heap [env.locals]) s' (placeG ra vs) (fun i hi => ?_) hsg (RA'.up up) rfl up st'.same (@St.zero (placeG ra vs) w _ _ (S.big.up up)) (FrOK.re2 X' law_nc (hideAll_none _ (by simp)) (by simp) hn fun x v' hv => ?_)
  · rw [List.mem_range] at hi
    have hif : i < (kindsOf q ds).f.length := by rw [hfz]; exact hi
    have hx : ((kindsOf q ds).f.map (kindsOf q ds).fr)[i]? = some ((kindsOf q ds).fr ((kindsOf q ds).f[i])) := by
      rw [List.getElem?_map, List.getElem?_eq_getElem hif]; rfl
    obtain ⟨v, hv, rv⟩ := hr.get hx
    obtain ⟨_, k', u, hk', hrk, hfr⟩ := ok.fr _ (List.getElem_mem hif)
    refine ⟨k', u, hk', ?_, fun g2 => ?_⟩
    · rw [hrk, List.getD_eq_getElem?_getD, List.getElem?_eq_getElem hif]; rfl
    · rw [gi i v hv]
      rw [hfr] at rv
      exact rv.pure kf (clsV_pv _ _)
  · rcases f9_look hv with ⟨rfl, rfl⟩ | ⟨rfl, rfl⟩ | ⟨rfl, rfl⟩
    · refine ⟨⟨_, v4_faces ds⟩, _, hfaces, ?_⟩
      rw [← hvl]
      refine @RV.lst (placeG ra vs) _ _ _ _ _ ⟨_, hp, rfl, nv, rfl⟩ (by simp) (RL.places fun i v hv => ⟨(gi i v hv).symm, ?_⟩)
      have hi : i < ((kindsOf q ds).f.map (kindsOf q ds).fr).length := by rw [← hr.length]; exact (List.getElem?_eq_some_iff.mp hv).1
      obtain ⟨v', hv', rv⟩ := hr.get (List.getElem?_eq_getElem hi)
      rw [hv] at hv'; cases hv'
      exact rv.handed
    · exact ⟨⟨_, v4_sizes ds⟩, _, hsizes, @RV.lst (placeG ra vs) _ _ _ _ _ ⟨_, hpz, rfl, nz, rfl⟩ (by simp) hrz.ints2⟩
    · exact ⟨⟨_, v4_rule ds⟩, _, hrule, @RV.any (placeG ra vs) _ _ _ 9 rfl rfl⟩
end HQ
end
section
set_option autoImplicit false
set_option maxRecDepth 100000
set_option maxHeartbeats 8000000
namespace HQ
open PySem PySem.W PySem.Calls PyProof.Rows
/-- the text's defs and classes -/
noncomputable def isDefSt : Stmt → Bool
  | .FunctionDef .. => true
  | .ClassDef .. => true
  | _ => false
noncomputable def viewQ : Program := { PySem.Challenge.pw_pg0247_01 with main := { PySem.Challenge.pw_pg0247_01.main with body := PySem.Challenge.pw_pg0247_01.main.body.filter isDefSt } }
theorem K39_at : ∀ P, A39 = (K39 P).map (·.1) := fun P => by kernel_rfl
noncomputable abbrev hk39 : Hook := kHook K39 A39 K39_at
noncomputable abbrev row0 : OpenRow := PySem.Challenge.rw_pg0247_01.row
/-- the kit's faster twins, where they stand -/
theorem said0 : PySem.Challenge.rw_pg0247_01.wellSaid = true := by
  first
  | (rewrite [PySem.W.Fast.te9446332074065402090]; kernel_rfl)
  | kernel_rfl
noncomputable abbrev X0 : Shared → Bool := fun s => xlAt viewQ [] s && recOk (RowW.records (OpenRow.toRowW row0)) s
noncomputable abbrev sgr : String := "special-get-raises"
theorem left_of {p q : Program} {loose : List Str} {Xt : Shared → Bool} {α : Type} {Yf : Shared → α} {Ya : World → α} {N : Nat} (row : String)
    (h : ∀ (b : Bool) (w : World), ((fencedOpening treeTable p (w.withFollow row b) N).bind (topFrom treeTable p (w.withFollow row b) N)).map (fun s => (openSeen q loose (importedModules p.main.body) Xt true s, Yf s)) = some (openGood q loose, Ya (w.withFollow row b))) : LeftO p q loose Xt Yf Ya N := fun w => by
  have z := h (w.params.followText row) w
  rw [World.withFollow_self] at z
  exact z
theorem left_f (w : World) : ((fencedOpening treeTable PySem.Challenge.pw_pg0247_01 (w.withFollow sgr false) 2726).bind (topFrom treeTable PySem.Challenge.pw_pg0247_01 (w.withFollow sgr false) 2726)).map (fun s => (openSeen viewQ [Str.ofString "Whitespace"] (importedModules PySem.Challenge.pw_pg0247_01.main.body) X0 true s, Hook.obs hk39 s)) = some (openGood viewQ [Str.ofString "Whitespace"], Hook.val hk39 (w.withFollow sgr false)) := by
  first
  | (delta fencedOpening topFrom; rewrite [PySem.W.Fast.te14082659384304107361, PySem.W.Fast.te14364793385576792824, PySem.W.Fast.te8920871248978507458, PySem.W.Fast.te5923862056798008813, PySem.W.Fast.te10274390034422433532, PySem.W.Fast.te1435165496053646825, PySem.W.Fast.te14289696077712309145, PySem.W.Fast.te4187177175401517315]; kernel_rfl)
  | kernel_rfl
theorem left_t (w : World) : ((fencedOpening treeTable PySem.Challenge.pw_pg0247_01 (w.withFollow sgr true) 2726).bind (topFrom treeTable PySem.Challenge.pw_pg0247_01 (w.withFollow sgr true) 2726)).map (fun s => (openSeen viewQ [Str.ofString "Whitespace"] (importedModules PySem.Challenge.pw_pg0247_01.main.body) X0 true s, Hook.obs hk39 s)) = some (openGood viewQ [Str.ofString "Whitespace"], Hook.val hk39 (w.withFollow sgr true)) := by
  first
  | (delta fencedOpening topFrom; rewrite [PySem.W.Fast.te14082659384304107361, PySem.W.Fast.te14364793385576792824, PySem.W.Fast.te8920871248978507458, PySem.W.Fast.te5923862056798008813, PySem.W.Fast.te10274390034422433532, PySem.W.Fast.te1435165496053646825, PySem.W.Fast.te14289696077712309145, PySem.W.Fast.te4187177175401517315]; kernel_rfl)
  | kernel_rfl
theorem left0 : LeftO PySem.Challenge.pw_pg0247_01 viewQ [Str.ofString "Whitespace"] X0 (Hook.obs hk39) (Hook.val hk39) 2726 := left_of sgr fun b w => by
  cases b with
  | false => exact left_f w
  | true => exact left_t w
end HQ
end
section
set_option autoImplicit false
set_option linter.unusedSectionVars false
set_option linter.unusedVariables false
set_option linter.unusedSimpArgs false
set_option maxRecDepth 100000
namespace HQ
open PySem PySem.W PySem.Calls PyProof.Rows PySem.Spec

theorem law_body : lawD.body = [lawSt 0, lawSt 1, lawSt 2] ++ lawD.body.drop 3 := by kernel_rfl
theorem law_ok : defOk lawD = true := by decide +kernel
theorem law_script : lawD.scope.names.lookup ("script" : Str) = some .local := by decide +kernel

theorem f1_look {l : List V} {x : Str} {v : V} (h : look x (F1 l).vars = some v) : x = "script" ∧ v = .lst l := by
  unfold F1 at h
  simp only [look_cons, look_nil] at h
  split at h
  · rename_i e; cases h; exact ⟨e, rfl⟩
  · cases h

theorem law_top [g : Gh] {w : World} {h1 : Heap} (KX : Frag.In (K39 w.params) h1) {mg mb : Str → Option Value} (GG : h1.Ns mainGlobals mg) (GB : h1.Ns builtinsNs mb) (GN : h1.NoLimit) (Gb : ∀ x : Str, x ≠ "__name__" → mb x = bootBuiltins x) (GD : ∃ mc, h1.Ns cStatics mc ∧ mc "sys.int_max_str_digits" = Option.none)
    {nm : Str} {L fa la : Addr} {cd : Value} {xs : List Int} (hlen : xs.length < 64) {vals : List Value} (hL : h1.IsList la vals.toArray) (hI : IntsAre vals xs) {s : Shared} {m : Str → Option Value} (F : Fr h1 L s.heap m) (hm : m "script" = some (.ref la))
    {E : Value → Shared → Prop} {Q : Flow → Shared → Prop}
    (k : ∀ s' m', Fr h1 L s'.heap m' → (∃ h' tk, s' = { s with heap := h', toks := tk }) → Q (.ret (.bool true)) s') :
    wpAny (model prog w) (callerA.deeper (envOf nm lawD.scope L fa cd)) (execs lawD.body (envOf nm lawD.scope L fa cd)) Q E s := by
  have ok := defOk_of law_ok
  obtain ⟨hk, hN⟩ := namesOk_of ok.names
  obtain ⟨hnd, hnc⟩ := namesOk_nd ok.names
  have up : ∀ b o, h1.get? b = some o → (hideAll s.heap [L]).get? b = some o := fun b o e => hide_ne (F.keep b o e) fun mm => by
    simp at mm; subst mm
    exact absurd (Heap.lt_size e) (Nat.not_lt.mpr F.above)
  have hsys : SysIn h1 := by
    obtain ⟨mc, ⟨o, es, ep, e, _⟩, _⟩ := GD
    exact ⟨cStatics, o, by decide, e⟩
  have B : Base (K39 w.params) (hideAll s.heap [L]) := Base.mono ⟨KX, hsys, GN, mg, mb, GG, GB, Gb⟩ up
  have r0 : ∀ c n, c + n ≤ 200 → Room c n (callerA.deeper (envOf nm lawD.scope L fa cd)) := fun c n h => by
    refine ⟨rfl, ?_, ?_⟩
    · show 302 + 2 * (n + c) + 4 ≤ 1000
      omega
    · show callerA.units + 3 + 10 * (n + c) + 200 ≤ cLine
      have : callerA.units = 4 := rfl
      have : cLine = 9900 := rfl
      omega
  have S : St w (hideAll s.heap [L]) [] [] s.heap := St.zero w _ _ (hsys.up up)
  have rv : RV [] s.heap (.ref la) (.lst (xs.map .int)) := by
    obtain ⟨o, e, q⟩ := hL
    exact .lst ⟨o, F.keep _ _ e, q⟩ (by simp) (RL.ofInts hI)
  have X : FrOK (hideAll s.heap [L]) [] s.heap (envOf nm lawD.scope L fa cd) (F1 (xs.map .int)) := by
    refine ⟨hk, rfl, rfl, fun x h => h, fun x h => h, fun x h => .inr h, fun x h => h, hnd, hnc, fun x v h => ?_, ⟨m, F.ns, fun x v _ h => ?_⟩, fun x hx => ?_, fun x y c h => absurd h (law_nc x).1, by simp, hideAll_none _ (by simp [envOf]), fun x c h => absurd h (law_nc x).1⟩
    · obtain ⟨rfl, rfl⟩ := f1_look h
      exact .inl law_script
    · obtain ⟨rfl, rfl⟩ := f1_look h
      exact ⟨_, hm, rv⟩
    · rcases hx with hx | hx
      · exact absurd hx (law_nc x).1
      · exact absurd hx (law_nc x).2
  rw [law_body]
  show wpAny _ _ (execs (lawSt 0 :: lawSt 1 :: lawSt 2 :: lawD.body.drop 3) _) _ _ _
  refine wpAny_execs_cons (law_s1 B (r0 0 60 (by omega)) hlen S X fun ds h₂ s₂ hds u2 e2 S₂ X₂ => ?_)
  have B₂ := B.mono u2
  refine wpAny_execs_cons (law_s2 B₂ (r0 40 60 (by omega)) hds S₂ X₂ fun T ra h₃ s₃ g3 RA₃ h9 u3 e3 S₃ X₃ => ?_)
  have B₃ := B₂.mono u3
  obtain ⟨q, hq, hkq⟩ := keys_any T
  rw [hkq] at RA₃
  refine wpAny_execs_cons (@law_s3 g3 w h₃ B₃ ra q hq RA₃ h9 _ (r0 91 60 (by omega)) _ _ ds hds S₃ X₃ _ _ fun z hz rk h₄ s₄ g4 hf hm' RA₄ h9' u4 e4 S₄ X₄ => ?_)
  have B₄ := B₃.mono u4
  refine @law_last g4 w h₄ B₄ ra q hq RA₄ h9' z rk hf hm' (run9_any (keysC q) z hz) _ (r0 130 60 (by omega)) _ _ S₄ X₄ _ _ fun s₅ m₅ u5 n5 e5 => ?_
  refine k s₅ m₅ ⟨n5, fun b o e => u5 b o (u4 b o (u3 b o (u2 b o (up b o e)))), F.above⟩ ?_
  obtain ⟨a2, t2, rfl⟩ := e2
  obtain ⟨a3, t3, rfl⟩ := e3
  obtain ⟨a4, t4, rfl⟩ := e4
  obtain ⟨a5, t5, rfl⟩ := e5
  exact ⟨a5, t5, rfl⟩
end HQ
end
open PySem PySem.W PyProof.Rows
set_option maxRecDepth 100000 in
set_option maxHeartbeats 8000000 in
theorem PySem.Challenge.cw_pg0247_01_holds : PySem.Challenge.rw_pg0247_01.Holds := by
  w_on
  refine holds_law HQ.said0 fun said => ?_
  refine holds_open (q := HQ.viewQ) (loose := [Str.ofString "Whitespace"]) (Xt := fun s => xlAt HQ.viewQ [] s && recOk (RowW.records (OpenRow.toRowW HQ.row0)) s) (XP := XL HQ.viewQ []) (Yf := Hook.obs HQ.hk39) (Ya := Hook.val HQ.hk39) (YP := Hook.says HQ.hk39) (N := 2726) HQ.left0 (Hook.of HQ.hk39) (Hook.keeps HQ.hk39) (fun s e => xl_of s (Bool.and_eq_true_iff.mp e).1) XL.keeps (by rfl) (by rfl) (by rfl) (fun s e => recFacts_of (Bool.and_eq_true_iff.mp e).2) (by rfl) said (by decide +kernel) ⟨rfl, rfl, rfl, rfl, rfl, by decide +kernel⟩ ?hw ?hc
  case hw => w_witness2
  intro w s₀ s₁ mg mb G Y fa o pm cd doc dV kV ho hd hcd hD hmg hg args vals as hpre hlay hrd hwl hlo
  have KX := kIn_of Y
  refine Ground.open G ?_
  intro T B D TE TW
  clear hmg
  wrow_args hpre hlay hrd hwl hlo
  refine enter_call ?_
  w_top on
  refine codeAny_mono ?_ (fun _ _ g => GoodW.toG g)
  w_call any ho hd hcd hD T F
  rename Heap.IsList _ _ _ => hL
  rename IntsAre _ _ => hI
  rename ¬ (_ < _) => hc
  refine HQ.law_top (g := ⟨fun _ => .none⟩) KX T.g T.b T.nolimit T.builtins T.nodigits (by omega) hL hI F rfl fun s' m' F' e => ?_
  obtain ⟨h', tk, rfl⟩ := e
  show GoodW _ _ _ _ _ (.ok (.ret (.bool true))) _
  refine goodW_bool F' hg (raisesW_false ?_) ?_
  · wrow_none_raised
  · kc_post
