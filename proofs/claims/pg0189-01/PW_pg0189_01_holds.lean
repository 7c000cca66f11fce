import PyProof.Rows.All
import Wide.All
import OpenK.AllK
import Wide.FinOn
import Lean
import PySem.Challenge.RW_pg0189_01
set_option Elab.async false
set_option maxRecDepth 100000
noncomputable section
namespace Mine
open PySem

/-- frozen data -/
inductive F where
  | none
  | bool (b : Bool)
  | int (i : Int)
  | tup (xs : List F)
  | lst (xs : List F)
  | dct (kvs : List (Int × F))
  deriving Inhabited

/-- what an expression gives: frozen data, or a cell of the call's own store -/
inductive A where
  | v (x : F)
  | r (k : Nat)
  deriving Inhabited

/-- the call's own store: lists and dicts, and whether they may still be changed -/
noncomputable abbrev St := List (F × Bool)
noncomputable abbrev Vars := Str → Option A

structure FnD where
  ps : List Str
  body : List Stmt
  sc : Scope
  deriving Inhabited

structure Fm where
  sc : Scope
  clo : Option (Str × FnD)
  nst : Option (Nat × Nat × Str)
  loc : Vars
  cel : Vars

inductive Fl where
  | next | brk | cont
  | ret (a : A)

/-- the def that a body makes -/
noncomputable def nestOf : List Stmt → Option (Nat × Nat × Str)
  | [] => none
  | .FunctionDef g _ _ _ _ _ _ _ _ pos :: _ => some (pos.line, pos.col, g)
  | _ :: r => nestOf r

/-- the defs of the program's top -/
noncomputable def defs : List Stmt → List (Str × FnD)
  | [] => []
  | .FunctionDef n ps b _ _ _ sc _ _ _ :: r => (n, ⟨ps.args.map (·.arg), b, sc⟩) :: defs r
  | _ :: r => defs r
noncomputable def tops : List (Str × FnD) := defs PySem.Challenge.pw_pg0189_01.main.body
noncomputable def fnOf (f : Str) : Option FnD := tops.lookup f

noncomputable def setV (x : Str) (a : A) (l : Vars) : Vars := fun y => if y = x then some a else l y
noncomputable def noV : Vars := fun _ => none

noncomputable def Fm.kind (fr : Fm) (x : Str) : Option NameKind := fr.sc.names.lookup x
noncomputable def Fm.get (fr : Fm) (x : Str) : Option A :=
  match fr.kind x with
  | some .local => fr.loc x
  | some .cell => fr.cel x
  | some .free => fr.cel x
  | _ => none
noncomputable def Fm.set (fr : Fm) (x : Str) (a : A) : Option Fm :=
  match fr.kind x with
  | some .local => some { fr with loc := setV x a fr.loc }
  | some .cell => if fr.clo.any (fun p => p.1 == x) then none else some { fr with cel := setV x a fr.cel }
  | _ => none

noncomputable def A.get (σ : St) : A → Option F
  | .v x => some x
  | .r k => (σ[k]?).map (·.1)
/-- to hand it on for good: it is changed no more -/
noncomputable def A.fz (σ : St) : A → Option (F × St)
  | .v x => some (x, σ)
  | .r k => match σ[k]? with
    | some (x, _) => some (x, σ.set k (x, false))
    | none => none

noncomputable def small (a : Int) : Bool := decide (a.natAbs < 2 ^ 62)

noncomputable def dget (k : Int) : List (Int × F) → Option F
  | [] => none
  | (j, x) :: r => if k = j then some x else dget k r
noncomputable def dset (k : Int) (x : F) : List (Int × F) → List (Int × F)
  | [] => [(k, x)]
  | (j, y) :: r => if k = j then (j, x) :: r else (j, y) :: dset k x r

noncomputable def insSorted (x : Int) : List Int → List Int
  | [] => [x]
  | y :: r => if x ≤ y then x :: y :: r else y :: insSorted x r
noncomputable def isort : List Int → List Int
  | [] => []
  | x :: r => insSorted x (isort r)

noncomputable def bitLen (a : Int) : Int := if a = 0 then 0 else (a.natAbs.log2 : Int) + 1

/-- the pairs' order -/
noncomputable def pairLt (i j k l : Int) : Bool := if i = k then decide (j < l) else decide (i < k)

inductive BinR : Operator → F → F → F → Prop
  | add {a b : Int} : BinR .Add (.int a) (.int b) (.int (a + b))
  | sub {a b : Int} : BinR .Sub (.int a) (.int b) (.int (a - b))
  | mul {a b : Int} : small a = true → BinR .Mult (.int a) (.int b) (.int (a * b))
  | fdiv {a b : Int} : b ≠ 0 → b.natAbs < 1000000 → BinR .FloorDiv (.int a) (.int b) (.int (a.fdiv b))
  | mod {a b : Int} : b ≠ 0 → b.natAbs < 1000000 → BinR .Mod (.int a) (.int b) (.int (a.fmod b))
  | pow {a b : Int} : 0 ≤ b → b ≤ 1000 → small a = true → BinR .Pow (.int a) (.int b) (.int (a ^ b.toNat))
  | shl {a b : Int} : 0 ≤ b → b ≤ 1000 → small a = true → BinR .LShift (.int a) (.int b) (.int (a * 2 ^ b.toNat))
  | shr {a b : Int} : 0 ≤ b → BinR .RShift (.int a) (.int b) (.int (a.fdiv (2 ^ b.toNat)))
  | xor {a b : Int} : BinR .BitXor (.int a) (.int b) (.int (Builtin.bitXor a b))
  | cat {a b : List F} : a.length + b.length ≤ 4096 → BinR .Add (.lst a) (.lst b) (.lst (a ++ b))
inductive UnR : UnaryOp → F → F → Prop
  | neg {a : Int} : UnR .USub (.int a) (.int (-a))
  | inv {a : Int} : UnR .Invert (.int a) (.int (Builtin.bitNot a))
inductive CmpR : CmpOp → F → F → Bool → Prop
  | eq {a b : Int} : CmpR .Eq (.int a) (.int b) (a == b)
  | ne {a b : Int} : CmpR .NotEq (.int a) (.int b) (a != b)
  | lt {a b : Int} : CmpR .Lt (.int a) (.int b) (decide (a < b))
  | le {a b : Int} : CmpR .LtE (.int a) (.int b) (decide (a ≤ b))
  | gt {a b : Int} : CmpR .Gt (.int a) (.int b) (decide (b < a))
  | ge {a b : Int} : CmpR .GtE (.int a) (.int b) (decide (b ≤ a))
  | plt {i j k l : Int} : CmpR .Lt (.tup [.int i, .int j]) (.tup [.int k, .int l]) (pairLt i j k l)
  | lne {a b : List Int} : a.length ≤ 4096 → b.length ≤ 4096 → CmpR .NotEq (.lst (a.map .int)) (.lst (b.map .int)) (!decide (a = b))
  | inl {a : Int} {b : List Int} : CmpR .In (.int a) (.lst (b.map .int)) (b.contains a)
  | ninl {a : Int} {b : List Int} : CmpR .NotIn (.int a) (.lst (b.map .int)) (!b.contains a)
  | ind {a : Int} {b : List (Int × F)} : CmpR .In (.int a) (.dct b) (dget a b).isSome
  | nind {a : Int} {b : List (Int × F)} : CmpR .NotIn (.int a) (.dct b) (!(dget a b).isSome)
inductive TruR : F → Bool → Prop
  | bool {b : Bool} : TruR (.bool b) b
  | int {i : Int} : TruR (.int i) (i != 0)
  | lst {xs : List F} : xs.length ≤ 16384 → TruR (.lst xs) (!xs.isEmpty)
/-- the builtins that are called by name (their arguments are only looked at) -/
inductive BltR : Str → List F → F → Prop
  | lenL {xs : List F} : xs.length ≤ 16384 → BltR (Str.ofString "len") [.lst xs] (.int xs.length)
  | lenD {xs : List (Int × F)} : xs.length ≤ 16384 → BltR (Str.ofString "len") [.dct xs] (.int xs.length)
  | sum {xs : List Int} : xs.length ≤ 4096 → BltR (Str.ofString "sum") [.lst (xs.map .int)] (.int xs.sum)
  | sortL {xs : List Int} : xs.length < 64 → BltR (Str.ofString "sorted") [.lst (xs.map .int)] (.lst ((isort xs).map .int))
  | sortD {xs : List (Int × F)} : xs.length < 64 → BltR (Str.ofString "sorted") [.dct xs] (.lst ((isort (xs.map (·.1))).map .int))
  | divmod {a b : Int} : 0 < b → b.natAbs < 1000000 → BltR (Str.ofString "divmod") [.int a, .int b] (.tup [.int (a.fdiv b), .int (a.fmod b)])
inductive ItR : F → Int → F → Prop
  | lst {xs : List F} {i : Int} {x : F} : 0 ≤ i → xs[i.toNat]? = some x → ItR (.lst xs) i x
  | tup {xs : List F} {i : Int} {x : F} : 0 ≤ i → xs[i.toNat]? = some x → ItR (.tup xs) i x
  | dct {xs : List (Int × F)} {i : Int} {x : F} : dget i xs = some x → ItR (.dct xs) i x
/-- an item is stored -/
inductive StR : F → Int → F → F → Prop
  | lst {xs : List F} {i : Int} {y : F} : 0 ≤ i → small i = true → i.toNat < xs.length → StR (.lst xs) i y (.lst (xs.set i.toNat y))
  | dct {xs : List (Int × F)} {i : Int} {y : F} : xs.length ≤ 4096 → StR (.dct xs) i y (.dct (dset i y xs))
noncomputable def short : BoolOp → Bool → Bool
  | .And, b => !b
  | .Or, b => b

noncomputable def clip (n : Nat) (i : Int) : Nat := if i < 0 then (i + n).toNat else min i.toNat n
noncomputable def slc (xs : List F) (lo hi : Option Int) : List F :=
  let a := lo.elim 0 (clip xs.length)
  let b := hi.elim xs.length (clip xs.length)
  (xs.drop a).take (b - a)

noncomputable def isSlice (e : Expr) : Bool := e.ctorIdx == 26
noncomputable def isCall (e : Expr) : Bool := e.ctorIdx == 16
noncomputable def isComp (e : Expr) : Bool := e.ctorIdx == 8 || e.ctorIdx == 10
/-- what stands in a list, an argument, a comparison, as it is -/
noncomputable def plainE (e : Expr) : Bool := !(e.ctorIdx == 22 || e.ctorIdx == 7 || e.ctorIdx == 9)
/-- what a test asks as it is -/
noncomputable def plainT (e : Expr) : Bool := !(e.ctorIdx == 3 || e.ctorIdx == 0 || e.ctorIdx == 5 || e.ctorIdx == 15)
noncomputable def nameOk (x : Str) : Bool := !(x == Str.ofString "__debug__") && !(x == Str.ofString "__classdict__")

/-- names are bound to items, one by one -/
inductive BindA : Fm → List Expr → List F → Fm → Prop
  | nil {fr : Fm} : BindA fr [] [] fr
  | cons {fr fr1 fr' : Fm} {x : Str} {p : Pos} {es : List Expr} {a : F} {xs : List F} : fr.set x (.v a) = some fr1 → BindA fr1 es xs fr' → BindA fr (.Name x p :: es) (a :: xs) fr'

noncomputable def zipF : List F → List F → List F
  | x :: xs, y :: ys => .tup [x, y] :: zipF xs ys
  | _, _ => []
noncomputable def enumF : Nat → List F → List F
  | _, [] => []
  | i, x :: xs => .tup [.int i, x] :: enumF (i + 1) xs
noncomputable def rangeF (a : Int) : Nat → List F
  | 0 => []
  | n + 1 => .int a :: rangeF (a + 1) n

/-- a turn's target is bound to its item -/
inductive BindR : Fm → Expr → F → Fm → Prop
  | name {fr fr' : Fm} {y : Str} {p : Pos} {x : F} : fr.set y (.v x) = some fr' → BindR fr (.Name y p) x fr'
  | tup {fr fr' : Fm} {es : List Expr} {k : Nat} {p : Pos} {xs : List F} : BindA fr es xs fr' → BindR fr (.Tuple es k p) (.tup xs) fr'
/-- pairs that an iterator makes anew must be unpacked at once -/
noncomputable def tupleTarget (e : Expr) : Bool := e.ctorIdx == 25

/-- the arguments of a call, numbered anew; the store that the callee sees; where each came from -/
noncomputable def pack (σ : St) : List A → Nat → Option (List A × St × List Nat)
  | [], _ => some ([], [], [])
  | .v x :: r, n => (pack σ r n).map fun (as, τ, b) => (.v x :: as, τ, b)
  | .r k :: r, n => match σ[k]?, pack σ r (n + 1) with
    | some c, some (as, τ, b) => if k ∈ b then none else some (.r n :: as, c :: τ, k :: b)
    | _, _ => none
/-- what came back is written back -/
noncomputable def unpack (σ : St) (τ : St) : List Nat → Option St
  | [] => some σ
  | k :: b => match τ with
    | c :: τ => unpack (σ.set k c) τ b
    | [] => none
noncomputable def handBack (τ : St) (b : List Nat) : A → Option A
  | .v x => some (.v x)
  | .r j => match b[j]? with
    | some k => some (.r k)
    | none => (τ[j]?).map fun c => .v c.1

noncomputable def enter (d : FnD) (g : Option (Str × FnD)) (clo : Vars) : List Str → List A → Vars → Vars → Option Fm
  | [], [], l, c => some ⟨d.sc, g, if g.isNone then nestOf d.body else none, l, fun x => (c x).or (clo x)⟩
  | x :: xs, a :: as, l, c => match d.sc.names.lookup x with
    | some .local => enter d g clo xs as (setV x a l) c
    | some .cell => enter d g clo xs as l (setV x a c)
    | _ => none
  | _, _, _, _ => none

/-- a comprehension's own frame -/
noncomputable def compFm (fr : Fm) (sc : Scope) : Fm := ⟨sc, none, none, noV, fr.cel⟩

noncomputable def nodupB : List Str → Bool
  | [] => true
  | x :: r => !r.contains x && nodupB r
/-- a def of the top that may be called -/
noncomputable def fnOk (d : FnD) : Bool := d.sc.kind == .function && !d.sc.isGenerator && !d.sc.isCoroutine && nodupB d.ps && d.sc.names.all (fun p => p.2 != .free)

/-- a nested def of plain parameters -/
noncomputable def nestOk (sc : Scope) (ps : Arguments) : Bool :=
  nodupB (ps.args.map (·.arg)) && sc.kind == .function && !sc.isGenerator && !sc.isCoroutine && ps.posonlyargs.isEmpty && ps.vararg.isNone && ps.kwonlyargs.isEmpty && ps.kw_defaults.isEmpty && ps.kwarg.isNone && ps.defaults.isEmpty &&
    ps.args.all (fun a => a.annotation.isNone)
noncomputable def compOk (fr : Fm) (sc : Scope) : Bool :=
  sc.kind == .function && sc.names.all (fun p => match p.2 with
    | .cell => false
    | .local => sc.names.lookup p.1 == some .local
    | .free => fr.kind p.1 == some .cell && sc.names.lookup p.1 == some .free
    | .globalImplicit => sc.names.lookup p.1 == some .globalImplicit
    | _ => false)
noncomputable def Fl.isNext : Fl → Bool
  | .next => true
  | _ => false
/-- what a body's end hands back -/
inductive RetR : Fl → A → Prop
  | ret {a : A} : RetR (.ret a) a
  | next : RetR .next (.v .none)
/-- a method that changes its list -/
inductive MutR : Str → F → F → F → Prop
  | pop {xs : List F} {y : F} : xs.length ≤ 4096 → xs.getLast? = some y → MutR (Str.ofString "pop") (.lst xs) (.lst xs.dropLast) y
  | reverse {xs : List F} : xs.length ≤ 4096 → MutR (Str.ofString "reverse") (.lst xs) (.lst xs.reverse) .none

/-- the level below -/
structure Lev where
  ev : Fm → St → Expr → A → St → Prop
  test : Fm → St → Expr → Bool → St → Prop
  iter : Fm → St → Expr → Expr → List F → St → Prop
  comp : Expr → Expr → List Expr → List Comprehension → List F → Fm → St → List F → Fm → St → List F → Prop
  exec : Fm → St → Stmt → Fl → Fm → St → Prop
  call : FnD → Option (Str × FnD) → Vars → List A → St → A → St → Prop

section
variable (L : Lev)

/-- tests, one after the other -/
inductive AllR (fr : Fm) : BoolOp → List Expr → St → Bool → St → Prop
  | nil {op : BoolOp} {σ : St} : AllR fr op [] σ (op == .And) σ
  | stop {op : BoolOp} {e : Expr} {r : List Expr} {σ σ1 : St} {b : Bool} : L.test fr σ e b σ1 → short op b = true → AllR fr op (e :: r) σ b σ1
  | go {op : BoolOp} {e : Expr} {r : List Expr} {σ σ1 σ' : St} {b c : Bool} : L.test fr σ e b σ1 → short op b = false → AllR fr op r σ1 c σ' → AllR fr op (e :: r) σ c σ'
/-- a display's items, for good -/
inductive ListR (fr : Fm) : List Expr → St → List F → St → Prop
  | nil {σ : St} : ListR fr [] σ [] σ
  | cons {e : Expr} {r : List Expr} {σ σ1 σ2 σ' : St} {a : A} {x : F} {xs : List F} : plainE e = true → L.ev fr σ e a σ1 → a.fz σ1 = some (x, σ2) → ListR fr r σ2 xs σ' → ListR fr (e :: r) σ (x :: xs) σ'
/-- a call's arguments -/
inductive ArgsR (fr : Fm) : List Expr → St → List A → St → Prop
  | nil {σ : St} : ArgsR fr [] σ [] σ
  | cons {e : Expr} {r : List Expr} {σ σ1 σ' : St} {a : A} {as : List A} : plainE e = true → L.ev fr σ e a σ1 → ArgsR fr r σ1 as σ' → ArgsR fr (e :: r) σ (a :: as) σ'
inductive PartR (fr : Fm) : St → Option Expr → Option Int → St → Prop
  | none {σ : St} : PartR fr σ none none σ
  | some {σ σ1 : St} {e : Expr} {i : Int} : L.ev fr σ e (.v (.int i)) σ1 → PartR fr σ (some e) (some i) σ1
inductive ExecsR : List Stmt → Fm → St → Fl → Fm → St → Prop
  | nil {fr : Fm} {σ : St} : ExecsR [] fr σ .next fr σ
  | stop {st : Stmt} {r : List Stmt} {fr fr1 : Fm} {σ σ1 : St} {fl : Fl} : L.exec fr σ st fl fr1 σ1 → fl.isNext = false → ExecsR (st :: r) fr σ fl fr1 σ1
  | cons {st : Stmt} {r : List Stmt} {fr fr1 fr' : Fm} {σ σ1 σ' : St} {fl : Fl} : L.exec fr σ st .next fr1 σ1 → ExecsR r fr1 σ1 fl fr' σ' → ExecsR (st :: r) fr σ fl fr' σ'
/-- a while's turns; the number of them -/
inductive WhileR (t : Expr) (b : List Stmt) : Nat → Fm → St → Fl → Fm → St → Prop
  | stop {fr : Fm} {σ σ1 : St} {k : Nat} : L.test fr σ t false σ1 → WhileR t b k fr σ .next fr σ1
  | next {fr fr1 fr' : Fm} {σ σ1 σ2 σ' : St} {fl : Fl} {k : Nat} : L.test fr σ t true σ1 → ExecsR L b fr σ1 .next fr1 σ2 → WhileR t b k fr1 σ2 fl fr' σ' → WhileR t b (k + 1) fr σ fl fr' σ'
  | cont {fr fr1 fr' : Fm} {σ σ1 σ2 σ' : St} {fl : Fl} {k : Nat} : L.test fr σ t true σ1 → ExecsR L b fr σ1 .cont fr1 σ2 → WhileR t b k fr1 σ2 fl fr' σ' → WhileR t b (k + 1) fr σ fl fr' σ'
  | brk {fr fr1 : Fm} {σ σ1 σ2 : St} {k : Nat} : L.test fr σ t true σ1 → ExecsR L b fr σ1 .brk fr1 σ2 → WhileR t b (k + 1) fr σ .next fr1 σ2
  | ret {fr fr1 : Fm} {σ σ1 σ2 : St} {a : A} {k : Nat} : L.test fr σ t true σ1 → ExecsR L b fr σ1 (.ret a) fr1 σ2 → WhileR t b (k + 1) fr σ (.ret a) fr1 σ2
/-- a for's turns -/
inductive ForR (t : Expr) (b : List Stmt) : List F → Fm → St → Fl → Fm → St → Prop
  | nil {fr : Fm} {σ : St} : ForR t b [] fr σ .next fr σ
  | next {x : F} {xs : List F} {fr fr0 fr1 fr' : Fm} {σ σ1 σ' : St} {fl : Fl} : BindR fr t x fr0 → ExecsR L b fr0 σ .next fr1 σ1 → ForR t b xs fr1 σ1 fl fr' σ' → ForR t b (x :: xs) fr σ fl fr' σ'
  | cont {x : F} {xs : List F} {fr fr0 fr1 fr' : Fm} {σ σ1 σ' : St} {fl : Fl} : BindR fr t x fr0 → ExecsR L b fr0 σ .cont fr1 σ1 → ForR t b xs fr1 σ1 fl fr' σ' → ForR t b (x :: xs) fr σ fl fr' σ'
  | brk {x : F} {xs : List F} {fr fr0 fr1 : Fm} {σ σ1 : St} : BindR fr t x fr0 → ExecsR L b fr0 σ .brk fr1 σ1 → ForR t b (x :: xs) fr σ .next fr1 σ1
  | ret {x : F} {xs : List F} {fr fr0 fr1 : Fm} {σ σ1 : St} {a : A} : BindR fr t x fr0 → ExecsR L b fr0 σ (.ret a) fr1 σ1 → ForR t b (x :: xs) fr σ (.ret a) fr1 σ1

/-- a list comprehension's turn -/
inductive LTurn (elt t : Expr) (ifs : List Expr) (rest : List Comprehension) : F → Fm → St → List F → Fm → St → List F → Prop
  | skip {x : F} {fr fr1 : Fm} {σ σ1 : St} {out : List F} : BindR fr t x fr1 → AllR L fr1 .And ifs σ false σ1 → LTurn elt t ifs rest x fr σ out fr1 σ1 out
  | elt {x y : F} {fr fr1 : Fm} {σ σ1 σ2 σ3 : St} {a : A} {out : List F} : rest = [] → BindR fr t x fr1 → AllR L fr1 .And ifs σ true σ1 → L.ev fr1 σ1 elt a σ2 → a.fz σ2 = some (y, σ3) → out.length ≤ 4096 → LTurn elt t ifs rest x fr σ out fr1 σ3 (out ++ [y])
  | nest {x : F} {fr fr1 fr2 : Fm} {σ σ1 σ2 σ3 : St} {t' it' : Expr} {ifs' : List Expr} {rest' : List Comprehension} {items' out out' : List F} : rest = ⟨t', it', ifs', 0⟩ :: rest' → plainE it' = true → BindR fr t x fr1 → AllR L fr1 .And ifs σ true σ1 → L.iter fr1 σ1 t' it' items' σ2 →
      L.comp elt t' ifs' rest' items' fr1 σ2 out fr2 σ3 out' → LTurn elt t ifs rest x fr σ out fr2 σ3 out'
inductive LTurns (elt t : Expr) (ifs : List Expr) (rest : List Comprehension) : List F → Fm → St → List F → Fm → St → List F → Prop
  | nil {fr : Fm} {σ : St} {out : List F} : LTurns elt t ifs rest [] fr σ out fr σ out
  | cons {x : F} {xs : List F} {fr fr1 fr2 : Fm} {σ σ1 σ2 : St} {out out1 out2 : List F} : LTurn L elt t ifs rest x fr σ out fr1 σ1 out1 → LTurns elt t ifs rest xs fr1 σ1 out1 fr2 σ2 out2 → LTurns elt t ifs rest (x :: xs) fr σ out fr2 σ2 out2
/-- a dict comprehension's turns -/
inductive DTurns (t k v : Expr) : List F → Fm → St → List (Int × F) → Fm → St → List (Int × F) → Prop
  | nil {fr : Fm} {σ : St} {out : List (Int × F)} : DTurns t k v [] fr σ out fr σ out
  | cons {x y : F} {xs : List F} {fr fr1 fr2 : Fm} {σ σ1 σ2 σ3 σ4 : St} {i : Int} {a : A} {out out2 : List (Int × F)} : BindR fr t x fr1 → L.ev fr1 σ k (.v (.int i)) σ1 → L.ev fr1 σ1 v a σ2 → a.fz σ2 = some (y, σ3) →
      DTurns t k v xs fr1 σ3 (dset i y out) fr2 σ4 out2 → DTurns t k v (x :: xs) fr σ out fr2 σ4 out2

/-- a comprehension -/
inductive CompE : Fm → St → Expr → A → St → Prop
  | lcomp {fr fr' : Fm} {σ σ1 σ2 : St} {elt t it : Expr} {ifs : List Expr} {rest : List Comprehension} {sc : Scope} {p : Pos} {items out : List F} : compOk fr sc = true → rest.all (·.is_async == 0) = true → plainE it = true → L.iter fr σ t it items σ1 →
      L.comp elt t ifs rest items (compFm fr sc) σ1 [] fr' σ2 out → CompE fr σ (.ListComp elt (⟨t, it, ifs, 0⟩ :: rest) sc p) (.v (.lst out)) σ2
  | dcomp {fr fr' : Fm} {σ σ1 σ2 : St} {k v t it : Expr} {sc : Scope} {p : Pos} {items : List F} {out : List (Int × F)} : compOk fr sc = true → plainE it = true → L.iter fr σ t it items σ1 → items.length ≤ 4096 →
      DTurns L t k v items (compFm fr sc) σ1 [] fr' σ2 out → CompE fr σ (.DictComp k v [⟨t, it, [], 0⟩] sc p) (.v (.dct out)) σ2

inductive EvS : Fm → St → Expr → A → St → Prop
  | int {fr : Fm} {σ : St} {i : Int} {k : Nat} {p : Pos} : EvS fr σ (.Constant (.int i) k p) (.v (.int i)) σ
  | bool {fr : Fm} {σ : St} {b : Bool} {k : Nat} {p : Pos} : EvS fr σ (.Constant (.bool b) k p) (.v (.bool b)) σ
  | name {fr : Fm} {σ : St} {x : Str} {p : Pos} {a : A} : nameOk x = true → fr.get x = some a → EvS fr σ (.Name x p) a σ
  | lim {fr : Fm} {σ : St} {p : Pos} : fr.kind (Str.ofString "_DIV_LIMIT") = some .globalImplicit → EvS fr σ (.Name (Str.ofString "_DIV_LIMIT") p) (.v (.int 4000)) σ
  | bin {fr : Fm} {σ σ1 σ2 : St} {l r : Expr} {op : Operator} {p : Pos} {a b : A} {x y z : F} : L.ev fr σ l a σ1 → L.ev fr σ1 r b σ2 → a.get σ2 = some x → b.get σ2 = some y → BinR op x y z → EvS fr σ (.BinOp l op r p) (.v z) σ2
  | rep {fr : Fm} {σ σ1 σ2 : St} {l r : Expr} {p : Pos} {a : A} {xs : List F} {i : Int} : L.ev fr σ l a σ1 → L.ev fr σ1 r (.v (.int i)) σ2 → a.get σ2 = some (.lst xs) → 0 ≤ i → i ≤ 64 → xs.length ≤ 64 →
      EvS fr σ (.BinOp l .Mult r p) (.r σ2.length) (σ2 ++ [(.lst (List.replicate i.toNat xs).flatten, true)])
  | un {fr : Fm} {σ σ1 : St} {e : Expr} {op : UnaryOp} {p : Pos} {x z : F} : L.ev fr σ e (.v x) σ1 → UnR op x z → EvS fr σ (.UnaryOp op e p) (.v z) σ1
  | bstop {fr : Fm} {σ σ1 : St} {l r : Expr} {op : BoolOp} {p : Pos} {b : Bool} : L.ev fr σ l (.v (.bool b)) σ1 → short op b = true → EvS fr σ (.BoolOp op [l, r] p) (.v (.bool b)) σ1
  | bgo {fr : Fm} {σ σ1 σ2 : St} {l r : Expr} {op : BoolOp} {p : Pos} {b : Bool} {a : A} : L.ev fr σ l (.v (.bool b)) σ1 → short op b = false → L.ev fr σ1 r a σ2 → EvS fr σ (.BoolOp op [l, r] p) a σ2
  | ifT {fr : Fm} {σ σ1 σ2 : St} {t b o : Expr} {p : Pos} {a : A} : L.test fr σ t true σ1 → L.ev fr σ1 b a σ2 → EvS fr σ (.IfExp t b o p) a σ2
  | ifF {fr : Fm} {σ σ1 σ2 : St} {t b o : Expr} {p : Pos} {a : A} : L.test fr σ t false σ1 → L.ev fr σ1 o a σ2 → EvS fr σ (.IfExp t b o p) a σ2
  | cmp {fr : Fm} {σ σ1 σ2 : St} {l r : Expr} {op : CmpOp} {p : Pos} {a b : A} {x y : F} {z : Bool} : plainE r = true → L.ev fr σ l a σ1 → L.ev fr σ1 r b σ2 → a.get σ2 = some x → b.get σ2 = some y → CmpR op x y z → EvS fr σ (.Compare l [op] [r] p) (.v (.bool z)) σ2
  | list0 {fr : Fm} {σ : St} {p : Pos} : EvS fr σ (.List [] p) (.r σ.length) (σ ++ [(.lst [], true)])
  | list {fr : Fm} {σ σ1 : St} {es : List Expr} {p : Pos} {xs : List F} : ListR L fr es σ xs σ1 → xs.length ≤ 4096 → EvS fr σ (.List es p) (.v (.lst xs)) σ1
  | tup {fr : Fm} {σ σ1 : St} {es : List Expr} {k : Nat} {p : Pos} {xs : List F} : ListR L fr es σ xs σ1 → xs.length ≤ 4096 → EvS fr σ (.Tuple es k p) (.v (.tup xs)) σ1
  | dict0 {fr : Fm} {σ : St} {p : Pos} : EvS fr σ (.Dict [] [] p) (.r σ.length) (σ ++ [(.dct [], true)])
  | dict1 {fr : Fm} {σ σ1 σ2 σ3 : St} {k x : Expr} {p : Pos} {i : Int} {a : A} {y : F} : L.ev fr σ k (.v (.int i)) σ1 → L.ev fr σ1 x a σ2 → a.fz σ2 = some (y, σ3) → EvS fr σ (.Dict [some k] [x] p) (.r σ3.length) (σ3 ++ [(.dct [(i, y)], true)])
  | slice {fr : Fm} {σ σ1 σ2 σ3 : St} {o : Expr} {lo hi : Option Expr} {p q : Pos} {a : A} {l h : Option Int} {xs : List F} : L.ev fr σ o a σ1 → PartR L fr σ1 lo l σ2 → PartR L fr σ2 hi h σ3 → a.get σ3 = some (.lst xs) → xs.length ≤ 4096 →
      EvS fr σ (.Subscript o (.Slice lo hi none q) p) (.v (.lst (slc xs l h))) σ3
  | item {fr : Fm} {σ σ1 σ2 : St} {o i : Expr} {p : Pos} {a : A} {k : Int} {x y : F} : isSlice i = false → L.ev fr σ o a σ1 → L.ev fr σ1 i (.v (.int k)) σ2 → a.get σ2 = some x → ItR x k y → small k = true → EvS fr σ (.Subscript o i p) (.v y) σ2
  | comp {fr : Fm} {σ σ' : St} {e : Expr} {a : A} : CompE L fr σ e a σ' → EvS fr σ e a σ'
  | append {fr : Fm} {σ σ1 σ2 σ3 : St} {o : Str} {e : Expr} {p ap q : Pos} {k : Nat} {x0 : List F} {a : A} {y : F} {xs : List F} : (ap.endLine == q.line) = true → plainE e = true → L.ev fr σ (.Name o p) (.r k) σ1 → (A.r k).get σ1 = some (.lst x0) → L.ev fr σ1 e a σ2 → a.fz σ2 = some (y, σ3) →
      σ3[k]? = some (.lst xs, true) → xs.length ≤ 4096 → EvS fr σ (.Call (.Attribute (.Name o p) (Str.ofString "append") ap) [e] [] q) (.v .none) (σ3.set k (.lst (xs ++ [y]), true))
  | mut {fr : Fm} {σ σ1 : St} {o m : Str} {p ap q : Pos} {k : Nat} {x x' y : F} : (ap.endLine == q.line) = true → L.ev fr σ (.Name o p) (.r k) σ1 → σ1[k]? = some (x, true) → MutR m x x' y → EvS fr σ (.Call (.Attribute (.Name o p) m ap) [] [] q) (.v y) (σ1.set k (x', true))
  | get {fr : Fm} {σ σ1 σ2 σ3 : St} {o : Str} {e d : Expr} {p ap q : Pos} {a b : A} {kv0 kvs : List (Int × F)} {i : Int} : (ap.endLine == q.line) = true → plainE e = true → plainE d = true → L.ev fr σ (.Name o p) a σ1 → a.get σ1 = some (.dct kv0) → L.ev fr σ1 e (.v (.int i)) σ2 → L.ev fr σ2 d b σ3 → a.get σ3 = some (.dct kvs) →
      EvS fr σ (.Call (.Attribute (.Name o p) (Str.ofString "get") ap) [e, d] [] q) ((dget i kvs).elim b A.v) σ3
  | bits {fr : Fm} {σ σ1 : St} {o : Str} {p ap q : Pos} {i : Int} : (ap.endLine == q.line) = true → L.ev fr σ (.Name o p) (.v (.int i)) σ1 → EvS fr σ (.Call (.Attribute (.Name o p) (Str.ofString "bit_length") ap) [] [] q) (.v (.int (bitLen i))) σ1
  | callG {fr : Fm} {σ σ1 σ2 : St} {f : Str} {d : FnD} {p q : Pos} {args : List Expr} {as as' : List A} {τ τ' : St} {b : List Nat} {a a' : A} : fnOf f = some d → nameOk f = true → fr.kind f = some .globalImplicit → ArgsR L fr args σ as σ1 → pack σ1 as 0 = some (as', τ, b) → L.call d none noV as' τ a τ' → handBack τ' b a = some a' → unpack σ1 τ' b = some σ2 →
      EvS fr σ (.Call (.Name f p) args [] q) a' σ2
  | callC {fr : Fm} {σ σ1 σ2 : St} {f : Str} {d : FnD} {p q : Pos} {args : List Expr} {as : List A} {a : A} : fr.clo = some (f, d) → nameOk f = true → (fr.kind f = some .cell ∨ fr.kind f = some .free) → ArgsR L fr args σ as σ1 → L.call d (some (f, d)) fr.cel as σ1 a σ2 → EvS fr σ (.Call (.Name f p) args [] q) a σ2
  | isinst {fr : Fm} {σ σ1 : St} {p p' q : Pos} {e : Expr} {i : Int} : plainE e = true → fr.kind (Str.ofString "isinstance") = some .globalImplicit → fr.kind (Str.ofString "tuple") = some .globalImplicit → L.ev fr σ e (.v (.int i)) σ1 →
      EvS fr σ (.Call (.Name (Str.ofString "isinstance") p) [e, .Name (Str.ofString "tuple") p'] [] q) (.v (.bool false)) σ1
  | items {fr : Fm} {σ σ1 : St} {o : Str} {p p0 ap q pos : Pos} {a : A} {kvs : List (Int × F)} : (ap.endLine == q.line) = true → fr.kind (Str.ofString "list") = some .globalImplicit → L.ev fr σ (.Name o p) a σ1 → a.get σ1 = some (.dct kvs) → kvs.length ≤ 4096 →
      EvS fr σ (.Call (.Name (Str.ofString "list") p0) [.Call (.Attribute (.Name o p) (Str.ofString "items") ap) [] [] q] [] pos) (.v (.lst (kvs.map fun p => .tup [.int p.1, p.2]))) σ1
  | blt {fr : Fm} {σ σ1 : St} {f : Str} {p q : Pos} {args : List Expr} {as : List A} {xs : List F} {z : F} : nameOk f = true → fr.kind f = some .globalImplicit → ArgsR L fr args σ as σ1 → as.mapM (·.get σ1) = some xs → BltR f xs z → EvS fr σ (.Call (.Name f p) args [] q) (.v z) σ1

/-- a test's truth -/
inductive TestS : Fm → St → Expr → Bool → St → Prop
  | not {fr : Fm} {σ σ1 : St} {x : Expr} {p : Pos} {b : Bool} : L.test fr σ x b σ1 → TestS fr σ (.UnaryOp .Not x p) (!b) σ1
  | all {fr : Fm} {σ σ1 : St} {op : BoolOp} {es : List Expr} {p : Pos} {b : Bool} : AllR L fr op es σ b σ1 → TestS fr σ (.BoolOp op es p) b σ1
  | cmp {fr : Fm} {σ σ1 σ2 : St} {l r : Expr} {op : CmpOp} {p : Pos} {a b : A} {x y : F} {z : Bool} : plainE r = true → L.ev fr σ l a σ1 → L.ev fr σ1 r b σ2 → a.get σ2 = some x → b.get σ2 = some y → CmpR op x y z → TestS fr σ (.Compare l [op] [r] p) z σ2
  | plain {fr : Fm} {σ σ1 : St} {e : Expr} {a : A} {x : F} {b : Bool} : plainT e = true → L.ev fr σ e a σ1 → a.get σ1 = some x → TruR x b → TestS fr σ e b σ1

/-- what a for or a comprehension goes through, for the target t -/
inductive IterS : Fm → St → Expr → Expr → List F → St → Prop
  | items {fr : Fm} {σ σ1 σ2 : St} {t : Expr} {o : Str} {p ap q : Pos} {a : A} {kvs : List (Int × F)} : (ap.endLine == q.line) = true → tupleTarget t = true → L.ev fr σ (.Name o p) a σ1 → a.fz σ1 = some (.dct kvs, σ2) →
      IterS fr σ t (.Call (.Attribute (.Name o p) (Str.ofString "items") ap) [] [] q) (kvs.map fun p => .tup [.int p.1, p.2]) σ2
  | values {fr : Fm} {σ σ1 σ2 : St} {t : Expr} {o : Str} {p ap q : Pos} {a : A} {kvs : List (Int × F)} : (ap.endLine == q.line) = true → L.ev fr σ (.Name o p) a σ1 → a.fz σ1 = some (.dct kvs, σ2) →
      IterS fr σ t (.Call (.Attribute (.Name o p) (Str.ofString "values") ap) [] [] q) (kvs.map (·.2)) σ2
  | range1 {fr : Fm} {σ σ1 : St} {t e : Expr} {p q : Pos} {b : Int} : plainE e = true → fr.kind (Str.ofString "range") = some .globalImplicit → L.ev fr σ e (.v (.int b)) σ1 → small b = true → b ≤ 4096 → IterS fr σ t (.Call (.Name (Str.ofString "range") p) [e] [] q) (rangeF 0 b.toNat) σ1
  | range2 {fr : Fm} {σ σ1 σ2 : St} {t e e' : Expr} {p q : Pos} {a b : Int} : plainE e = true → plainE e' = true → fr.kind (Str.ofString "range") = some .globalImplicit → L.ev fr σ e (.v (.int a)) σ1 → L.ev fr σ1 e' (.v (.int b)) σ2 → small a = true → small b = true → b - a ≤ 4096 →
      IterS fr σ t (.Call (.Name (Str.ofString "range") p) [e, e'] [] q) (rangeF a (b - a).toNat) σ2
  | zip {fr : Fm} {σ σ1 σ2 σ3 σ4 : St} {t e e' : Expr} {p q : Pos} {a b : A} {xs ys : List F} : plainE e = true → plainE e' = true → tupleTarget t = true → fr.kind (Str.ofString "zip") = some .globalImplicit → L.ev fr σ e a σ1 → a.fz σ1 = some (.lst xs, σ2) → L.ev fr σ2 e' b σ3 → b.fz σ3 = some (.lst ys, σ4) →
      IterS fr σ t (.Call (.Name (Str.ofString "zip") p) [e, e'] [] q) (zipF xs ys) σ4
  | enum {fr : Fm} {σ σ1 σ2 : St} {t e : Expr} {p q : Pos} {a : A} {xs : List F} : plainE e = true → tupleTarget t = true → fr.kind (Str.ofString "enumerate") = some .globalImplicit → L.ev fr σ e a σ1 → a.fz σ1 = some (.lst xs, σ2) → IterS fr σ t (.Call (.Name (Str.ofString "enumerate") p) [e] [] q) (enumF 0 xs) σ2
  | rev {fr : Fm} {σ σ1 σ2 : St} {t e : Expr} {p q : Pos} {a : A} {xs : List F} : plainE e = true → fr.kind (Str.ofString "reversed") = some .globalImplicit → L.ev fr σ e a σ1 → a.fz σ1 = some (.lst xs, σ2) → IterS fr σ t (.Call (.Name (Str.ofString "reversed") p) [e] [] q) xs.reverse σ2
  | plain {fr : Fm} {σ σ1 σ2 : St} {t e : Expr} {a : A} {xs : List F} : L.ev fr σ e a σ1 → a.fz σ1 = some (.lst xs, σ2) → IterS fr σ t e xs σ2

inductive ExecS : Fm → St → Stmt → Fl → Fm → St → Prop
  | expr {fr : Fm} {σ σ1 : St} {e : Expr} {p : Pos} : isComp e = false → plainE e = true → L.ev fr σ e (.v .none) σ1 → ExecS fr σ (.Expr e p) .next fr σ1
  | brk {fr : Fm} {σ : St} {p : Pos} : ExecS fr σ (.Break p) .brk fr σ
  | cont {fr : Fm} {σ : St} {p : Pos} : ExecS fr σ (.Continue p) .cont fr σ
  | ret0 {fr : Fm} {σ : St} {p : Pos} : ExecS fr σ (.Return none p) (.ret (.v .none)) fr σ
  | ret {fr : Fm} {σ σ1 : St} {e : Expr} {p : Pos} {a : A} : L.ev fr σ e a σ1 → ExecS fr σ (.Return (some e) p) (.ret a) fr σ1
  | name {fr fr' : Fm} {σ σ1 : St} {x : Str} {e : Expr} {p q : Pos} {a : A} : isComp e = false → plainE e = true → L.ev fr σ e a σ1 → fr.set x a = some fr' → ExecS fr σ (.Assign [.Name x q] e p) .next fr' σ1
  | ncomp {fr fr' : Fm} {σ σ1 : St} {x : Str} {e : Expr} {p q : Pos} {a : A} : CompE L fr σ e a σ1 → fr.set x a = some fr' → ExecS fr σ (.Assign [.Name x q] e p) .next fr' σ1
  | tup {fr fr' : Fm} {σ σ1 : St} {es : List Expr} {k : Nat} {e : Expr} {p q : Pos} {xs : List F} : isCall e = true → L.ev fr σ e (.v (.tup xs)) σ1 → BindA fr es xs fr' → ExecS fr σ (.Assign [.Tuple es k q] e p) .next fr' σ1
  | sub {fr : Fm} {σ σ1 σ2 σ3 σ4 : St} {o : Str} {i e : Expr} {p po q : Pos} {b : A} {y x x' : F} {k : Nat} {j : Int} : isSlice i = false → plainE e = true → L.ev fr σ e b σ1 → b.fz σ1 = some (y, σ2) → L.ev fr σ2 (.Name o po) (.r k) σ3 → L.ev fr σ3 i (.v (.int j)) σ4 → σ4[k]? = some (x, true) → StR x j y x' →
      ExecS fr σ (.Assign [.Subscript (.Name o po) i q] e p) .next fr (σ4.set k (x', true))
  | aug {fr fr' : Fm} {σ σ1 : St} {x : Str} {e : Expr} {p q : Pos} {a b : Int} : nameOk x = true → fr.get x = some (.v (.int a)) → L.ev fr σ e (.v (.int b)) σ1 → fr.set x (.v (.int (a + b))) = some fr' → ExecS fr σ (.AugAssign (.Name x q) .Add e p) .next fr' σ1
  | augI {fr : Fm} {σ σ1 σ2 σ3 : St} {o i : Str} {e : Expr} {p po pi q : Pos} {k : Nat} {j u w : Int} {kv kvs : List (Int × F)} : L.ev fr σ (.Name o po) (.r k) σ1 → L.ev fr σ1 (.Name i pi) (.v (.int j)) σ2 → (A.r k).get σ2 = some (.dct kv) → dget j kv = some (.int u) → L.ev fr σ2 e (.v (.int w)) σ3 → σ3[k]? = some (.dct kvs, true) → kvs.length ≤ 4096 →
      ExecS fr σ (.AugAssign (.Subscript (.Name o po) (.Name i pi) q) .Add e p) .next fr (σ3.set k (.dct (dset j (.int (u + w)) kvs), true))
  | ifT {fr fr' : Fm} {σ σ1 σ' : St} {t : Expr} {b o : List Stmt} {p : Pos} {fl : Fl} : L.test fr σ t true σ1 → ExecsR L b fr σ1 fl fr' σ' → ExecS fr σ (.If t b o p) fl fr' σ'
  | ifF {fr fr' : Fm} {σ σ1 σ' : St} {t : Expr} {b o : List Stmt} {p : Pos} {fl : Fl} : L.test fr σ t false σ1 → ExecsR L o fr σ1 fl fr' σ' → ExecS fr σ (.If t b o p) fl fr' σ'
  | while {fr fr' : Fm} {σ σ' : St} {t : Expr} {b : List Stmt} {p : Pos} {fl : Fl} {k : Nat} : WhileR L t b k fr σ fl fr' σ' → ExecS fr σ (.While t b [] p) fl fr' σ'
  | for {fr fr' : Fm} {σ σ1 σ' : St} {t it : Expr} {b : List Stmt} {p : Pos} {items : List F} {fl : Fl} : plainE it = true → L.iter fr σ t it items σ1 → ForR L t b items fr σ1 fl fr' σ' → ExecS fr σ (.For t it b [] p) fl fr' σ'
  | def {fr : Fm} {σ : St} {g : Str} {ps : Arguments} {b : List Stmt} {sc : Scope} {pos : Pos} : fr.kind g = some .cell → fr.clo = none → fr.cel g = none → fr.nst = some (pos.line, pos.col, g) → nestOk sc ps = true → (fr.sc.kind == .function) = true → sc.names.lookup g = some .free → sc.names.all (fun p => match p.2 with
          | .free => fr.kind p.1 == some .cell && sc.names.lookup p.1 == some .free
          | .cell => false
          | _ => true) = true →
      ExecS fr σ (.FunctionDef g ps b [] none [] sc none g pos) .next { fr with clo := some (g, ⟨ps.args.map (·.arg), b, sc⟩) } σ

/-- a list comprehension's turns -/
inductive CompS (elt t : Expr) (ifs : List Expr) (rest : List Comprehension) (items : List F) (fr : Fm) (σ : St) (out : List F) (fr' : Fm) (σ' : St) (out' : List F) : Prop
  | mk : items.length ≤ 4096 → LTurns L elt t ifs rest items fr σ out fr' σ' out' → CompS elt t ifs rest items fr σ out fr' σ' out'
/-- a def is called: its arguments, the store -/
inductive CallS (d : FnD) (g : Option (Str × FnD)) (clo : Vars) (as : List A) (σ : St) (a : A) (σ' : St) : Prop
  | mk (fr fr' : Fm) (fl : Fl) : enter d g clo d.ps as noV noV = some fr → ExecsR L d.body fr σ fl fr' σ' → RetR fl a → CallS d g clo as σ a σ'
end

noncomputable def lev : Nat → Lev
  | 0 => ⟨fun _ _ _ _ _ => False, fun _ _ _ _ _ => False, fun _ _ _ _ _ _ => False, fun _ _ _ _ _ _ _ _ _ _ _ => False, fun _ _ _ _ _ _ => False, fun _ _ _ _ _ _ _ => False⟩
  | n + 1 => ⟨EvS (lev n), TestS (lev n), IterS (lev n), CompS (lev n), ExecS (lev n), CallS (lev n)⟩
end Mine
namespace Mine
open PySem PySem.W PyProof.Rows

section
variable (prog : Program) (w : World) (h : Heap) (bad : Addr → Prop)
mutual
/-- a value stands for frozen data; what it reaches lies apart from what may be changed -/
inductive FR : Value → F → Prop
  | none : FR .none .none
  | bool (b : Bool) : FR (.bool b) (.bool b)
  | int (i : Int) (t : Tok) : FR (.int i t) (.int i)
  | tup {a : Addr} {vs : List Value} {xs : List F} : h.IsTuple a vs.toArray → ¬ bad a → FRs vs xs → FR (.ref a) (.tup xs)
  | lst {a : Addr} {vs : List Value} {xs : List F} : h.IsList a vs.toArray → ¬ bad a → FRs vs xs → FR (.ref a) (.lst xs)
  | dct {a : Addr} {es : List (Int × Value)} {kvs : List (Int × F)} : h.DictOf (intKind prog w) a es → (a == sysModules) = false → ¬ bad a →
      es.map (·.1) = kvs.map (·.1) → FRs (es.map (·.2)) (kvs.map (·.2)) → FR (.ref a) (.dct kvs)
inductive FRs : List Value → List F → Prop
  | nil : FRs [] []
  | cons {v : Value} {x : F} {vs : List Value} {xs : List F} : FR v x → FRs vs xs → FRs (v :: vs) (x :: xs)
end
end

theorem DictOf.at {prog : Program} {w : World} {h h' : Heap} {a : Addr} {es : List (Int × Value)} (x : h.DictOf (intKind prog w) a es) (e : ∀ o, h.get? a = some o → h'.get? a = some o) :
    h'.DictOf (intKind prog w) a es := let ⟨o, q, ep, ho, r⟩ := x; ⟨o, q, ep, e _ ho, r⟩
theorem DictOf.get {prog : Program} {w : World} {h : Heap} {a : Addr} {es : List (Int × Value)} (x : h.DictOf (intKind prog w) a es) : ∃ o, h.get? a = some o :=
  let ⟨o, _, _, ho, _⟩ := x; ⟨o, ho⟩

section
variable {prog : Program} {w : World} {h h' : Heap} {bad bad' : Addr → Prop}
mutual
theorem FR.mono (k : ∀ a o, ¬ bad a → h.get? a = some o → h'.get? a = some o) (b : ∀ a o, h.get? a = some o → bad' a → bad a) :
    ∀ {v : Value} {x : F}, FR prog w h bad v x → FR prog w h' bad' v x
  | _, _, .none => .none
  | _, _, .bool _ => .bool _
  | _, _, .int _ _ => .int _ _
  | _, _, .tup ⟨o, e, r⟩ n s => .tup ⟨o, k _ _ n e, r⟩ (fun q => n (b _ _ e q)) (FRs.mono k b s)
  | _, _, .lst ⟨o, e, r⟩ n s => .lst ⟨o, k _ _ n e, r⟩ (fun q => n (b _ _ e q)) (FRs.mono k b s)
  | _, _, .dct d m n q s => .dct (d.at fun o e => k _ o n e) m (fun p => n (let ⟨_, e⟩ := DictOf.get d; b _ _ e p)) q (FRs.mono k b s)
theorem FRs.mono (k : ∀ a o, ¬ bad a → h.get? a = some o → h'.get? a = some o) (b : ∀ a o, h.get? a = some o → bad' a → bad a) :
    ∀ {vs : List Value} {xs : List F}, FRs prog w h bad vs xs → FRs prog w h' bad' vs xs
  | _, _, .nil => .nil
  | _, _, .cons a r => .cons (FR.mono k b a) (FRs.mono k b r)
end

theorem FRs.length {vs : List Value} {xs : List F} (r : FRs prog w h bad vs xs) : vs.length = xs.length := by
  induction xs generalizing vs with
  | nil => cases r; rfl
  | cons x xs ih => cases r with | cons _ r => simp [ih r]
theorem FRs.append : ∀ {vs us : List Value} {xs ys : List F}, FRs prog w h bad vs xs → FRs prog w h bad us ys → FRs prog w h bad (vs ++ us) (xs ++ ys)
  | _, _, _, _, .nil, r => r
  | _, _, _, _, .cons a q, r => .cons a (FRs.append q r)
theorem FRs.get : ∀ {vs : List Value} {xs : List F}, FRs prog w h bad vs xs → ∀ (i : Nat) {x : F}, xs[i]? = some x → ∃ v, vs[i]? = some v ∧ FR prog w h bad v x
  | _, _, .nil, i, x, e => by simp at e
  | _, _, .cons a r, 0, x, e => by simp at e; subst e; exact ⟨_, rfl, a⟩
  | _, _, .cons a r, i + 1, x, e => by simp at e; simpa using FRs.get r i e
theorem FRs.get' : ∀ {vs : List Value} {xs : List F}, FRs prog w h bad vs xs → ∀ (i : Nat) {v : Value}, vs[i]? = some v → ∃ x, xs[i]? = some x ∧ FR prog w h bad v x
  | _, _, .nil, i, x, e => by simp at e
  | _, _, .cons a r, 0, x, e => by simp at e; subst e; exact ⟨_, rfl, a⟩
  | _, _, .cons a r, i + 1, x, e => by simp at e; simpa using FRs.get' r i e
theorem FRs.drop : ∀ {vs : List Value} {xs : List F}, FRs prog w h bad vs xs → ∀ (n : Nat), FRs prog w h bad (vs.drop n) (xs.drop n)
  | _, _, .nil, n => by simp; exact .nil
  | _, _, .cons a r, 0 => .cons a r
  | _, _, .cons a r, n + 1 => by simpa using FRs.drop r n
theorem FRs.take : ∀ {vs : List Value} {xs : List F}, FRs prog w h bad vs xs → ∀ (n : Nat), FRs prog w h bad (vs.take n) (xs.take n)
  | _, _, .nil, n => by simp; exact .nil
  | _, _, .cons a r, 0 => by simp; exact .nil
  | _, _, .cons a r, n + 1 => by simpa using FRs.cons a (FRs.take r n)
theorem FRs.set : ∀ {vs : List Value} {xs : List F}, FRs prog w h bad vs xs → ∀ (n : Nat) {v : Value} {x : F}, FR prog w h bad v x → FRs prog w h bad (vs.set n v) (xs.set n x)
  | _, _, .nil, n, _, _, _ => by simp; exact .nil
  | _, _, .cons a r, 0, _, _, q => .cons q r
  | _, _, .cons a r, n + 1, _, _, q => .cons a (FRs.set r n q)
theorem FRs.reverse {vs : List Value} {xs : List F} (r : FRs prog w h bad vs xs) : FRs prog w h bad vs.reverse xs.reverse := by
  induction xs generalizing vs with
  | nil => cases r; exact .nil
  | cons x xs ih => cases r with | cons a r => simpa using (ih r).append (.cons a .nil)
theorem FRs.ints : ∀ {ns : List Int} {vs : List Value}, FRs prog w h bad vs (ns.map .int) → IntsAre vs ns
  | [], _, r => by cases r; exact .nil
  | n :: ns, _, r => by
    cases r with
    | cons a r => cases a; exact .cons _ _ (FRs.ints r)
theorem FRs.ofInts : ∀ {vs : List Value} {ns : List Int}, IntsAre vs ns → FRs prog w h bad vs (ns.map .int)
  | _, _, .nil => .nil
  | _, _, .cons _ _ r => .cons (.int _ _) (FRs.ofInts r)
end

/-! ## the static part -/
/-- a code table that a nested def's making fills -/
structure Tb where
  c : Addr
  P : Addr
  line : Nat
  col : Nat
  qual : Str

structure Cx where
  prog : Program
  w : World
  base : Heap
  mg : Str → Option Value
  mb : Str → Option Value
  tabs : List Tb

noncomputable def TabOk (h : Heap) (t : Tb) : Prop :=
  h.get? t.P = some (tabObj #[]) ∨ ∃ c', h.get? t.P = some (tabObj #[rawInt t.line, rawInt t.col, .ref c']) ∧ h.CodeRec (.ref c') t.qual

/-- the def at an address -/
inductive FnAt (X : Cx) (a : Addr) (d : FnD) : Prop
  | mk (o : Obj) (name qual : Str) (params : Arguments) (doc pm : Value) (an : Option Addr) (cdv ct : Value) (ho : X.base.get? a = some o) (hd : o.data = .func (fnX name qual params d.body d.sc [] .none .none doc pm an cdv ct))
    (hp : params.args.map (·.arg) = d.ps) (hc : X.base.CodeRec cdv qual) (fo : fnOk d = true) (p1 : params.posonlyargs = []) (p2 : params.vararg = none) (p3 : params.kwonlyargs = []) (p4 : params.kw_defaults = []) (p5 : params.kwarg = none) (p6 : params.defaults = [])
    (hn : ∀ l c g, nestOf d.body = some (l, c, g) → ∃ t ∈ X.tabs, cdv = .ref t.c ∧ t.line = l ∧ t.col = c ∧ t.qual = qual ++ Str.ofString ".<locals>." ++ g)

noncomputable def bltL : List (Str × Value) := [(Str.ofString "len", .builtin "len"), (Str.ofString "sum", .builtin "sum"), (Str.ofString "sorted", .builtin "sorted"), (Str.ofString "divmod", .builtin "divmod"), (Str.ofString "isinstance", .builtin "isinstance"),
  (Str.ofString "tuple", .type "tuple"), (Str.ofString "list", .type "list"), (Str.ofString "range", .type "range"), (Str.ofString "zip", .type "zip"), (Str.ofString "enumerate", .type "enumerate"), (Str.ofString "reversed", .type "reversed")]
noncomputable def bltOf (f : Str) : Option Value := bltL.lookup f

structure Cx.Ok (X : Cx) : Prop where
  g : X.base.Ns mainGlobals X.mg
  b : X.base.Ns builtinsNs X.mb
  nolimit : X.base.NoLimit
  bmain : ∃ bm ob, X.mg "__builtins__" = some (.ref bm) ∧ bm ≠ builtinsNs ∧ X.base.get? bm = some ob ∧ ob.cls = .type "module" ∧ ob.dict = some builtinsNs ∧ ob.data = .plain
  fn : ∀ f d, fnOf f = some d → ∃ a, X.mg f = some (.ref a) ∧ FnAt X a d
  lim : ∃ t, X.mg "_DIV_LIMIT" = some (.int 4000 t)
  blt : ∀ f v, bltOf f = some v → fnOf f = none ∧ X.mg f = none ∧ X.mb f = some v
  tab : ∀ t ∈ X.tabs, X.base.get? t.P = none ∧ CodeHd X.base t.c t.P
  apart : X.tabs.Pairwise fun t u => t.P ≠ u.P

/-! ## the store -/
noncomputable abbrev Live (M : List Addr) (σ : St) (a : Addr) : Prop := ∃ (k : Nat) (x : F), M[k]? = some a ∧ σ[k]? = some (x, true)
noncomputable abbrev Bad (B : Addr → Prop) (M : List Addr) (σ : St) (a : Addr) : Prop := B a ∨ Live M σ a

section
variable (X : Cx) (h : Heap) (bad : Addr → Prop)
/-- an object of the store -/
noncomputable def OR (a : Addr) : F → Prop
  | .lst xs => ∃ vs n, h.get? a = some (listOf (List.toArray vs) n) ∧ FRs X.prog X.w h bad vs xs
  | .dct kvs => ∃ es : List (Int × Value), h.DictOf (intKind X.prog X.w) a es ∧ (a == sysModules) = false ∧ es.map (·.1) = kvs.map (·.1) ∧ FRs X.prog X.w h bad (es.map (·.2)) (kvs.map (·.2))
  | _ => False
/-- what reading asks of a value -/
noncomputable def Sh (v : Value) : F → Prop
  | .none => v = .none
  | .bool b => v = .bool b
  | .int i => ∃ t, v = .int i t
  | .tup xs => ∃ a vs, v = .ref a ∧ h.IsTuple a (List.toArray vs) ∧ FRs X.prog X.w h bad vs xs
  | .lst xs => ∃ a vs, v = .ref a ∧ h.IsList a (List.toArray vs) ∧ FRs X.prog X.w h bad vs xs
  | .dct kvs => ∃ a, ∃ es : List (Int × Value), v = .ref a ∧ h.DictOf (intKind X.prog X.w) a es ∧ (a == sysModules) = false ∧ es.map (·.1) = kvs.map (·.1) ∧ FRs X.prog X.w h bad (es.map (·.2)) (kvs.map (·.2))
end

noncomputable abbrev FRx (X : Cx) (h : Heap) (bad : Addr → Prop) := FR X.prog X.w h bad
noncomputable abbrev FRsx (X : Cx) (h : Heap) (bad : Addr → Prop) := FRs X.prog X.w h bad

theorem FR.sh {X : Cx} {h : Heap} {bad : Addr → Prop} {v : Value} {x : F} (r : FRx X h bad v x) : Sh X h bad v x := by
  cases r with
  | none => rfl
  | bool b => rfl
  | int i t => exact ⟨t, rfl⟩
  | tup a b c => exact ⟨_, _, rfl, a, c⟩
  | lst a b c => exact ⟨_, _, rfl, a, c⟩
  | dct a b c d e => exact ⟨_, _, rfl, a, b, d, e⟩
theorem OR.sh {X : Cx} {h : Heap} {bad : Addr → Prop} {a : Addr} {x : F} (r : OR X h bad a x) : Sh X h bad (.ref a) x := by
  cases x with
  | lst xs => obtain ⟨vs, n, e, r⟩ := r; exact ⟨_, _, rfl, ⟨_, e, rfl, _, rfl⟩, r⟩
  | dct kvs => obtain ⟨es, r⟩ := r; exact ⟨_, _, rfl, r⟩
  | _ => exact r.elim
theorem OR.fr {X : Cx} {h : Heap} {bad : Addr → Prop} {a : Addr} {x : F} (r : OR X h bad a x) (n : ¬ bad a) : FRx X h bad (.ref a) x := by
  cases x with
  | lst xs => obtain ⟨vs, n', e, r⟩ := r; exact .lst ⟨_, e, rfl, _, rfl⟩ n r
  | dct kvs => obtain ⟨es, a, b, c, d⟩ := r; exact .dct a b n c d
  | _ => exact r.elim
theorem OR.mono {X : Cx} {h h' : Heap} {bad bad' : Addr → Prop} (k : ∀ a o, ¬ bad a → h.get? a = some o → h'.get? a = some o) (b : ∀ a o, h.get? a = some o → bad' a → bad a)
    {a : Addr} {x : F} (ha : ∀ o, h.get? a = some o → h'.get? a = some o) (r : OR X h bad a x) : OR X h' bad' a x := by
  cases x with
  | lst xs => obtain ⟨vs, n, e, r⟩ := r; exact ⟨vs, n, ha _ e, r.mono k b⟩
  | dct kvs => obtain ⟨es, d, q, c, r⟩ := r; exact ⟨es, DictOf.at d ha, q, c, r.mono k b⟩
  | _ => exact r.elim
theorem OR.get {X : Cx} {h : Heap} {bad : Addr → Prop} {a : Addr} {x : F} (r : OR X h bad a x) : ∃ o, h.get? a = some o := by
  cases x with
  | lst xs => obtain ⟨vs, n, e, r⟩ := r; exact ⟨_, e⟩
  | dct kvs => obtain ⟨es, d, _⟩ := r; exact DictOf.get d
  | _ => exact r.elim

structure Inv (X : Cx) (B : Addr → Prop) (M : List Addr) (σ : St) (h : Heap) : Prop where
  len : M.length = σ.length
  nd : M.Nodup
  ob : ∀ (k : Nat) a x b, M[k]? = some a → σ[k]? = some (x, b) → OR X h (Bad B M σ) a x
  nB : ∀ a ∈ M, ¬ B a
  base : ∀ a o, X.base.get? a = some o → h.get? a = some o
  new : ∀ a ∈ M, X.base.get? a = none
  tab : ∀ t ∈ X.tabs, TabOk h t
  tabB : ∀ t ∈ X.tabs, B t.P
  exB : ∀ a, B a → ∃ o, h.get? a = some o

noncomputable def AR (X : Cx) (B : Addr → Prop) (M : List Addr) (σ : St) (h : Heap) (v : Value) : A → Prop
  | .v x => FRx X h (Bad B M σ) v x
  | .r k => ∃ a, M[k]? = some a ∧ v = .ref a

/-- what lasts: all but the live objects, the tables and C -/
structure Kp (X : Cx) (C : Addr → Prop) (M : List Addr) (σ : St) (h : Heap) (M' : List Addr) (σ' : St) (h' : Heap) : Prop where
  keep : ∀ a o, ¬ Live M σ a → (∀ t ∈ X.tabs, a ≠ t.P) → ¬ C a → h.get? a = some o → h'.get? a = some o
  ex : ∀ a o, h.get? a = some o → ∃ o', h'.get? a = some o'
  pre : ∀ (k : Nat), k < M.length → M'[k]? = M[k]?
  new : ∀ (k : Nat) a, M'[k]? = some a → M.length ≤ k → h.get? a = none
  liv : ∀ (k : Nat) x, σ'[k]? = some (x, true) → k < M.length → ∃ y, σ[k]? = some (y, true)

theorem Kp.refl {X : Cx} {C : Addr → Prop} {M : List Addr} {σ : St} {h : Heap} : Kp X C M σ h M σ h where
  keep := fun _ _ _ _ _ e => e
  ex := fun _ o e => ⟨o, e⟩
  pre := fun _ _ => rfl
  new := fun k a e l => by rw [List.getElem?_eq_none l] at e; cases e
  liv := fun _ x e _ => ⟨x, e⟩

section
variable {X : Cx} {C : Addr → Prop} {M M' M₂ : List Addr} {σ σ' σ₂ : St} {h h' h₂ : Heap} {B : Addr → Prop}

theorem Kp.live (K : Kp X C M σ h M' σ' h') {a : Addr} {o : Obj} (e : h.get? a = some o) (l : Live M' σ' a) : Live M σ a := by
  obtain ⟨k, x, e1, e2⟩ := l
  rcases Nat.lt_or_ge k M.length with hk | hk
  · obtain ⟨y, ey⟩ := K.liv k x e2 hk
    exact ⟨k, y, (K.pre k hk).symm.trans e1, ey⟩
  · rw [K.new k a e1 hk] at e; cases e

theorem Kp.trans (K : Kp X C M σ h M' σ' h') (K' : Kp X C M' σ' h' M₂ σ₂ h₂) (hl : M.length ≤ M'.length) : Kp X C M σ h M₂ σ₂ h₂ where
  keep := fun a o n t c e => K'.keep a o (fun l => n (K.live e l)) t c (K.keep a o n t c e)
  ex := fun a o e => let ⟨o', e'⟩ := K.ex a o e; K'.ex a o' e'
  pre := fun k hk => (K'.pre k (Nat.lt_of_lt_of_le hk hl)).trans (K.pre k hk)
  new := fun k a e hk => by
    rcases Nat.lt_or_ge k M'.length with hk' | hk'
    · exact K.new k a ((K'.pre k hk').symm.trans e) hk
    · have := K'.new k a e hk'
      cases q : h.get? a with
      | none => rfl
      | some o => obtain ⟨o', e'⟩ := K.ex a o q; rw [this] at e'; cases e'
  liv := fun k x e hk => let ⟨y, ey⟩ := K'.liv k x e (Nat.lt_of_lt_of_le hk hl); K.liv k y ey hk

theorem Kp.weaken {C' : Addr → Prop} (K : Kp X C M σ h M' σ' h') (hc : ∀ a o, h.get? a = some o → C a → C' a) : Kp X C' M σ h M' σ' h' :=
  ⟨fun a o n t c e => K.keep a o n t (fun q => c (hc a o e q)) e, K.ex, K.pre, K.new, K.liv⟩

/-- frozen data last -/
theorem Kp.badKeep (I : Inv X B M σ h) (K : Kp X C M σ h M' σ' h') (hC : ∀ a, C a → B a) : ∀ a o, ¬ Bad B M σ a → h.get? a = some o → h'.get? a = some o :=
  fun a o n e => K.keep a o (fun l => n (.inr l)) (fun t ht q => n (.inl (q ▸ I.tabB t ht))) (fun c => n (.inl (hC a c))) e
theorem Kp.badBack (K : Kp X C M σ h M' σ' h') : ∀ a o, h.get? a = some o → Bad B M' σ' a → Bad B M σ a :=
  fun _ _ e b => b.elim .inl fun l => .inr (K.live e l)
theorem FR.kp (I : Inv X B M σ h) (K : Kp X C M σ h M' σ' h') (hC : ∀ a, C a → B a) {v : Value} {x : F} (r : FRx X h (Bad B M σ) v x) : FRx X h' (Bad B M' σ') v x :=
  r.mono (K.badKeep I hC) K.badBack
theorem FRs.kp (I : Inv X B M σ h) (K : Kp X C M σ h M' σ' h') (hC : ∀ a, C a → B a) {v : List Value} {x : List F} (r : FRsx X h (Bad B M σ) v x) : FRsx X h' (Bad B M' σ') v x :=
  r.mono (K.badKeep I hC) K.badBack
theorem AR.kp (I : Inv X B M σ h) (K : Kp X C M σ h M' σ' h') (hC : ∀ a, C a → B a) {v : Value} {x : A} (r : AR X B M σ h v x) : AR X B M' σ' h' v x := by
  cases x with
  | v x => exact FR.kp I K hC r
  | r k =>
    obtain ⟨a, e, q⟩ := r
    exact ⟨a, (K.pre k (List.getElem?_eq_some_iff.mp e).1).trans e, q⟩
theorem Inv.read (I : Inv X B M σ h) {v : Value} {a : A} {x : F} (r : AR X B M σ h v a) (e : a.get σ = some x) : Sh X h (Bad B M σ) v x := by
  cases a with
  | v y => cases e; exact FR.sh r
  | r k =>
    obtain ⟨a, ea, rfl⟩ := r
    simp only [A.get, Option.map_eq_some_iff] at e
    obtain ⟨⟨y, b⟩, ey, rfl⟩ := e
    exact (I.ob k a y b ea ey).sh
end

/-! ## the frame -/
/-- a nested def that stands in a cell -/
inductive CloR (X : Cx) (env : Env) (h : Heap) (g : Str) (d : FnD) : Prop
  | mk (c a : Addr) (o : Obj) (name qual : Str) (params : Arguments) (cl : List (Str × Addr)) (doc pm : Value) (c' : Addr) (ctv : Value) (e1 : env.cells.lookup g = some c) (e2 : h.IsCell c (some (.ref a))) (e3 : h.get? a = some o)
    (e4 : o.data = .func (fnX name qual params d.body d.sc cl .none .none doc pm none (.ref c') ctv)) (e5 : h.CodeRec (.ref c') qual) (e6 : params.args.map (·.arg) = d.ps) (e7 : nestOk d.sc params = true) (e8 : ∀ y c, cl.lookup y = some c → env.cells.lookup y = some c)
    (e9 : ∀ y, d.sc.names.lookup y = some .free → ∃ c, cl.lookup y = some c) (e10 : ∀ x ∈ d.sc.names, x.2 ≠ .cell) (e11 : d.sc.names.lookup g = some .free)

noncomputable def Own (env : Env) (a : Addr) : Prop := a = env.locals ∨ ∃ x, env.kindOf x = some .cell ∧ env.cells.lookup x = some a

structure ER (X : Cx) (B : Addr → Prop) (env : Env) (fr : Fm) (M : List Addr) (σ : St) (h : Heap) : Prop where
  kind : env.scope.kind = .function
  glob : env.globals = mainGlobals
  blt : env.builtins = builtinsNs
  kl : ∀ x, fr.kind x = some .local → env.kindOf x = some .local
  kg : ∀ x, fr.kind x = some .globalImplicit → env.kindOf x = some .globalImplicit
  kc : ∀ x, fr.kind x = some .cell → env.kindOf x = some .cell
  kf : ∀ x, fr.kind x = some .free → env.kindOf x = some .free ∨ env.kindOf x = some .cell
  ns : ∃ m, h.Ns env.locals m ∧ ∀ x a, fr.loc x = some a → ∃ v, m x = some v ∧ AR X B M σ h v a
  cell : ∀ x, fr.kind x = some .cell ∨ fr.kind x = some .free → ∃ c, env.cells.lookup x = some c
  cello : ∀ x c, env.cells.lookup x = some c → (∃ ov, h.IsCell c ov) ∧ B c ∧ X.base.get? c = none
  celv : ∀ x a c, fr.cel x = some a → env.cells.lookup x = some c → ∃ v, h.IsCell c (some v) ∧ AR X B M σ h v a
  inj : ∀ x y c, env.cells.lookup x = some c → env.cells.lookup y = some c → x = y
  lB : B env.locals
  lnew : X.base.get? env.locals = none
  clo : ∀ g d, fr.clo = some (g, d) → CloR X env h g d ∧ fr.cel g = none
  nst : ∀ l c g, fr.nst = some (l, c, g) → ∃ t ∈ X.tabs, env.code = .ref t.c ∧ t.line = l ∧ t.col = c ∧ t.qual = env.qual ++ g

/-- room for n more levels -/
structure Room (A : Around) (n : Nat) : Prop where
  hh : A.handled = none
  dp : A.depth + n < recursionLimit
  un : A.units + 8 * n + 100 < cLine

theorem Room.down {A : Around} {n : Nat} (r : Room A (n + 1)) : Room A n := ⟨r.hh, by have := r.dp; lia, by have := r.un; lia⟩
theorem Room.deeper {A : Around} {n : Nat} {env : Env} (r : Room A (n + 1)) : Room (A.deeper env) n :=
  ⟨r.hh, by have := r.dp; show A.depth + 1 + n < _; lia, by have := r.un; show A.units + 3 + 8 * n + 100 < _; lia⟩
theorem Room.room {A : Around} {n : Nat} (r : Room A n) : A.depth < recursionLimit := by have := r.dp; lia
theorem Room.units {A : Around} {n : Nat} (r : Room A n) : A.units < cLine := by have := r.un; lia
theorem Room.units1 {A : Around} {n : Nat} (r : Room A n) : A.units + 64 < cLine := by have := r.un; lia

/-- behind an expression -/
inductive PE (X : Cx) (B : Addr → Prop) (env : Env) (fr : Fm) (M : List Addr) (σ : St) (s : Shared) (a : A) (σ' : St) (v : Value) : Shared → Prop
  | mk (h' : Heap) (tk : Nat) (M' : List Addr) (I : Inv X B M' σ' h') (R : ER X B env fr M' σ' h') (K : Kp X (fun a => a = env.locals) M σ s.heap M' σ' h') (r : AR X B M' σ' h' v a) : PE X B env fr M σ s a σ' v { s with heap := h', toks := tk }
/-- what a statement's end says -/
noncomputable def FlR (X : Cx) (B : Addr → Prop) (M : List Addr) (σ : St) (h : Heap) : Flow → Fl → Prop
  | .next, .next => True
  | .brk, .brk => True
  | .cont, .cont => True
  | .ret v, .ret a => AR X B M σ h v a
  | _, _ => False
/-- behind a statement -/
inductive PX (X : Cx) (B : Addr → Prop) (env : Env) (M : List Addr) (σ : St) (s : Shared) (fl : Fl) (fr' : Fm) (σ' : St) (f : Flow) : Shared → Prop
  | mk (h' : Heap) (tk : Nat) (M' : List Addr) (I : Inv X B M' σ' h') (R : ER X B env fr' M' σ' h') (K : Kp X (Own env) M σ s.heap M' σ' h') (r : FlR X B M' σ' h' f fl) : PX X B env M σ s fl fr' σ' f { s with heap := h', toks := tk }
end Mine
namespace Mine
open PySem PySem.W PyProof.Rows

section
variable {X : Cx} {C : Addr → Prop} {M M' M₂ : List Addr} {σ σ' σ₂ : St} {h h' h₂ : Heap} {B : Addr → Prop} {env : Env} {fr : Fm}

theorem Kp.ext (k : ∀ a o, h.get? a = some o → h'.get? a = some o) : Kp X C M σ h M σ h' :=
  ⟨fun a o _ _ _ e => k a o e, fun a o e => ⟨o, k a o e⟩, fun _ _ => rfl, fun _ _ e l => (by rw [List.getElem?_eq_none l] at e; cases e), fun _ x e _ => ⟨x, e⟩⟩

theorem TabOk.ext {t : Tb} (k : ∀ a o, h.get? a = some o → h'.get? a = some o) (x : TabOk h t) : TabOk h' t :=
  x.elim (fun e => .inl (k _ _ e)) fun ⟨c', e, r⟩ => .inr ⟨c', k _ _ e, r.keeps k⟩
theorem TabOk.data {t : Tb} (x : TabOk h t) : ∃ o vs, h.get? t.P = some o ∧ o.data = .fields vs ∧ o.cls = .none :=
  x.elim (fun e => ⟨_, _, e, rfl, rfl⟩) fun ⟨_, e, _⟩ => ⟨_, _, e, rfl, rfl⟩

theorem Inv.ext (k : ∀ a o, h.get? a = some o → h'.get? a = some o) (I : Inv X B M σ h) : Inv X B M σ h' where
  len := I.len
  nd := I.nd
  ob := fun i a x b e e' => (I.ob i a x b e e').mono (fun a o _ e => k a o e) (fun _ _ _ q => q) (fun o e => k a o e)
  nB := I.nB
  base := fun a o e => k a o (I.base a o e)
  new := I.new
  tab := fun t ht => (I.tab t ht).ext k
  tabB := I.tabB
  exB := fun a b => let ⟨o, e⟩ := I.exB a b; ⟨o, k a o e⟩

/-- live objects are no locals, no cells, no tables -/
theorem Inv.liveB (I : Inv X B M σ h) {a : Addr} (l : Live M σ a) : ¬ B a := let ⟨_, _, e, _⟩ := l; I.nB a (List.mem_of_getElem? e)
theorem ER.nlive (R : ER X B env fr M σ h) (I : Inv X B M σ h) : ¬ Live M σ env.locals := fun l => I.liveB l R.lB
theorem ER.ntab (R : ER X B env fr M σ h) (I : Inv X B M σ h) : ∀ t ∈ X.tabs, env.locals ≠ t.P := fun t ht q => by
  obtain ⟨m, ⟨o, es, ep, e, d, _⟩, _⟩ := R.ns
  obtain ⟨o', vs, e', d', _⟩ := (I.tab t ht).data
  rw [← q, e] at e'; cases e'; rw [d] at d'; cases d'
theorem ER.cnlive (R : ER X B env fr M σ h) (I : Inv X B M σ h) {x : Str} {c : Addr} (e : env.cells.lookup x = some c) : ¬ Live M σ c := fun l => I.liveB l (R.cello x c e).2.1
theorem ER.cntab (R : ER X B env fr M σ h) (I : Inv X B M σ h) {x : Str} {c : Addr} (e : env.cells.lookup x = some c) : ∀ t ∈ X.tabs, c ≠ t.P := fun t ht q => by
  obtain ⟨⟨ov, o, e1, d⟩, _⟩ := R.cello x c e
  obtain ⟨o', vs, e', d', _⟩ := (I.tab t ht).data
  rw [← q, e1] at e'; cases e'; rw [d] at d'; cases d'
theorem ER.cnloc (R : ER X B env fr M σ h) {x : Str} {c : Addr} (e : env.cells.lookup x = some c) : c ≠ env.locals := fun q => by
  obtain ⟨⟨ov, o, e1, d⟩, _⟩ := R.cello x c e
  obtain ⟨m, ⟨o', es, ep, e', d', _⟩, _⟩ := R.ns
  rw [← q, e1] at e'; cases e'; rw [d] at d'; cases d'

theorem CloR.keep {g : Str} {d : FnD} (x : CloR X env h g d) (kc : ∀ c ov, env.cells.lookup g = some c → h.IsCell c ov → h'.IsCell c ov)
    (kf : ∀ a o, h.get? a = some o → (∃ fd, o.data = .func fd) → h'.get? a = some o) (kr : ∀ a o vs, h.get? a = some o → o.data = .fields vs → (∃ q t, vs[1]? = some (.str q t)) → h'.get? a = some o) : CloR X env h' g d := by
  obtain ⟨c, a, o, name, qual, params, cl, doc, pm, c', ctv, e1, e2, e3, e4, ⟨cc, oo, vs, t, q1, q2, q3, q4⟩, e6, e7, e8, e9, e10, e11⟩ := x
  exact ⟨c, a, o, name, qual, params, cl, doc, pm, c', ctv, e1, kc _ _ e1 e2, kf _ _ e3 ⟨_, e4⟩, e4, ⟨cc, oo, vs, t, q1, kr _ _ _ q2 q3 ⟨_, _, q4⟩, q3, q4⟩, e6, e7, e8, e9, e10, e11⟩

theorem OR.data {a : Addr} {x : F} {bad : Addr → Prop} (r : OR X h bad a x) : ∃ o, h.get? a = some o ∧ ((∃ its n, o.data = .seq its n) ∨ ∃ es ep, o.data = .dict es ep) := by
  cases x with
  | lst xs => obtain ⟨vs, n, e, r⟩ := r; exact ⟨_, e, .inl ⟨_, _, rfl⟩⟩
  | dct kvs => obtain ⟨es, ⟨o, q, ep, e, hc, d, _⟩, _⟩ := r; exact ⟨o, e, .inr ⟨_, _, d⟩⟩
  | _ => exact r.elim
theorem Inv.liveData (I : Inv X B M σ h) {a : Addr} (l : Live M σ a) : ∃ o, h.get? a = some o ∧ ((∃ its n, o.data = .seq its n) ∨ ∃ es ep, o.data = .dict es ep) :=
  let ⟨k, x, e, e'⟩ := l; (I.ob k a x true e e').data

/-- a function object, a code object lasts -/
theorem Kp.func (I : Inv X B M σ h) (K : Kp X C M σ h M' σ' h') (hC : ∀ a o, h.get? a = some o → C a → (∃ es ep, o.data = .dict es ep) ∨ ∃ v, o.data = .cell v) :
    ∀ a o, h.get? a = some o → (∃ fd, o.data = .func fd) → h'.get? a = some o := fun a o e ⟨fd, d⟩ => by
  refine K.keep a o (fun l => ?_) (fun t ht q => ?_) (fun c => ?_) e
  · obtain ⟨o', e', r⟩ := I.liveData l
    rw [e] at e'; cases e'; rw [d] at r; rcases r with ⟨_, _, r⟩ | ⟨_, _, r⟩ <;> cases r
  · obtain ⟨o', vs, e', d', _⟩ := (I.tab t ht).data
    rw [← q, e] at e'; cases e'; rw [d] at d'; cases d'
  · rcases hC a o e c with ⟨_, _, r⟩ | ⟨_, r⟩ <;> rw [d] at r <;> cases r
theorem Kp.code (I : Inv X B M σ h) (K : Kp X C M σ h M' σ' h') (hC : ∀ a o, h.get? a = some o → C a → (∃ es ep, o.data = .dict es ep) ∨ ∃ v, o.data = .cell v) :
    ∀ a o vs, h.get? a = some o → o.data = .fields vs → (∃ q t, vs[1]? = some (.str q t)) → h'.get? a = some o := fun a o vs e d ⟨s, t, hs⟩ => by
  refine K.keep a o (fun l => ?_) (fun t ht q => ?_) (fun c => ?_) e
  · obtain ⟨o', e', r⟩ := I.liveData l
    rw [e] at e'; cases e'; rw [d] at r; rcases r with ⟨_, _, r⟩ | ⟨_, _, r⟩ <;> cases r
  · rcases I.tab t ht with e' | ⟨c', e', _⟩
    · rw [← q, e] at e'; cases e'; cases d; simp at hs
    · rw [← q, e] at e'; cases e'; cases d; simp [rawInt] at hs
  · rcases hC a o e c with ⟨_, _, r⟩ | ⟨_, r⟩ <;> rw [d] at r <;> cases r

/-- a frame lasts, where nothing of its own is changed -/
theorem ER.kp (R : ER X B env fr M σ h) (I : Inv X B M σ h) (K : Kp X C M σ h M' σ' h') (hCB : ∀ a, C a → B a) (hC : ∀ a o, h.get? a = some o → C a → (∃ es ep, o.data = .dict es ep) ∨ ∃ v, o.data = .cell v)
    (hl : ∀ m, h.Ns env.locals m → h'.Ns env.locals m) (hc : ∀ x c, env.cells.lookup x = some c → ¬ C c) : ER X B env fr M' σ' h' := by
  have kc : ∀ x c ov, env.cells.lookup x = some c → h.IsCell c ov → h'.IsCell c ov := fun x c ov e ⟨o, e1, d⟩ =>
    ⟨o, K.keep c o (R.cnlive I e) (R.cntab I e) (hc x c e) e1, d⟩
  exact {
    kind := R.kind, glob := R.glob, blt := R.blt, kl := R.kl, kg := R.kg, kc := R.kc, kf := R.kf
    ns := let ⟨m, n, r⟩ := R.ns; ⟨m, hl m n, fun x a e => let ⟨v, e1, q⟩ := r x a e; ⟨v, e1, q.kp I K hCB⟩⟩
    cell := R.cell
    cello := fun x c e => let ⟨⟨ov, q⟩, r⟩ := R.cello x c e; ⟨⟨ov, kc x c ov e q⟩, r⟩
    celv := fun x a c e e' => let ⟨v, q, r⟩ := R.celv x a c e e'; ⟨v, kc x c _ e' q, r.kp I K hCB⟩
    inj := R.inj
    lB := R.lB
    lnew := R.lnew
    clo := fun g d e => ⟨(R.clo g d e).1.keep (fun c ov e1 q => kc g c ov e1 q) (K.func I hC) (K.code I hC), (R.clo g d e).2⟩
    nst := R.nst }
theorem ER.kp0 (R : ER X B env fr M σ h) (I : Inv X B M σ h) (K : Kp X (fun _ => False) M σ h M' σ' h') : ER X B env fr M' σ' h' :=
  R.kp I K (fun _ f => f.elim) (fun _ _ _ f => f.elim) (fun m ⟨o, es, ep, e, r⟩ => ⟨o, es, ep, K.keep _ o (R.nlive I) (R.ntab I) (fun f => f.elim) e, r⟩) (fun _ _ _ f => f)
theorem ER.ext (R : ER X B env fr M σ h) (I : Inv X B M σ h) (k : ∀ a o, h.get? a = some o → h'.get? a = some o) : ER X B env fr M σ h' := R.kp0 I (Kp.ext k)

theorem Kp.of0 (K : Kp X (fun _ => False) M σ h M' σ' h') : Kp X C M σ h M' σ' h' := K.weaken fun _ _ _ f => f.elim

/-! ### the store's own changes -/
/-- it is changed no more -/
theorem fz_ok (I : Inv X B M σ h) {a : A} {v : Value} {x : F} (r : AR X B M σ h v a) (e : a.fz σ = some (x, σ')) : Inv X B M σ' h ∧ Kp X C M σ h M σ' h ∧ FRx X h (Bad B M σ') v x := by
  cases a with
  | v y => cases e; exact ⟨I, .refl, r⟩
  | r k =>
    obtain ⟨a, ea, rfl⟩ := r
    simp only [A.fz] at e
    split at e
    · rename_i y b ey
      cases e
      have hk : k < σ.length := (List.getElem?_eq_some_iff.mp ey).1
      have gt : ∀ (i : Nat) (z : F), (σ.set k (x, false))[i]? = some (z, true) → σ[i]? = some (z, true) := fun i z e2 => by
        rw [List.getElem?_set] at e2
        by_cases hik : k = i
        · rw [if_pos hik] at e2
          split at e2 <;> simp at e2
        · rwa [if_neg hik] at e2
      have lv : ∀ c, Live M (σ.set k (x, false)) c → Live M σ c := fun c ⟨i, z, e1, e2⟩ => ⟨i, z, e1, gt i z e2⟩
      have nl : ¬ Live M (σ.set k (x, false)) a := fun ⟨i, z, e1, e2⟩ => by
        have hi : i = k := (List.getElem?_inj (List.getElem?_eq_some_iff.mp e1).1 I.nd).mp (e1.trans ea.symm)
        subst hi
        rw [List.getElem?_set_self hk] at e2; simp at e2
      have bb : ∀ c o, h.get? c = some o → Bad B M (σ.set k (x, false)) c → Bad B M σ c := fun c o _ q => q.elim .inl fun l => .inr (lv c l)
      have o0 := (I.ob k a x b ea ey).mono (bad' := Bad B M (σ.set k (x, false))) (fun _ _ _ e => e) bb (fun _ e => e)
      have K : Kp X C M σ h M (σ.set k (x, false)) h := ⟨fun _ _ _ _ _ e => e, fun _ o e => ⟨o, e⟩, fun _ _ => rfl, fun i c e l => (by rw [List.getElem?_eq_none l] at e; cases e),
        fun i z e1 _ => ⟨z, gt i z e1⟩⟩
      refine ⟨⟨by rw [I.len, List.length_set], I.nd, fun i c z b' e1 e2 => ?_, I.nB, I.base, I.new, I.tab, I.tabB, I.exB⟩, K, o0.fr fun q => q.elim (I.nB a (List.mem_of_getElem? ea)) nl⟩
      rw [List.getElem?_set] at e2
      by_cases hik : k = i
      · subst hik
        rw [if_pos rfl, if_pos hk] at e2
        cases e2
        rw [ea] at e1; cases e1
        exact o0
      · rw [if_neg hik] at e2
        exact (I.ob i c z b' e1 e2).mono (fun _ _ _ e => e) bb (fun _ e => e)
    · cases e

/-- a new one -/
theorem new_ok (I : Inv X B M σ h) {x : F} {a : Addr} (gn : h.get? a = none) (k : ∀ b o, h.get? b = some o → h'.get? b = some o)
    (r : ∀ bad' : Addr → Prop, (∀ c o, h.get? c = some o → bad' c → Bad B M σ c) → OR X h' bad' a x) : Inv X B (M ++ [a]) (σ ++ [(x, true)]) h' ∧ Kp X C M σ h (M ++ [a]) (σ ++ [(x, true)]) h' ∧
    AR X B (M ++ [a]) (σ ++ [(x, true)]) h' (.ref a) (.r σ.length) := by
  have nM : a ∉ M := fun q => by
    obtain ⟨i, hi, e⟩ := List.mem_iff_getElem.mp q
    have h2 : i < σ.length := I.len ▸ hi
    obtain ⟨o', e'⟩ := (I.ob i _ σ[i].1 σ[i].2 (List.getElem?_eq_getElem hi) (List.getElem?_eq_getElem h2)).get
    rw [e, gn] at e'; cases e'
  have z0 : ∀ {i : Nat} {c : Addr}, M.length ≤ i → (M ++ [a])[i]? = some c → i = M.length ∧ c = a := fun {i c} hi e1 => by
    rw [List.getElem?_append_right hi] at e1
    have h0 : i - M.length = 0 := by
      have := (List.getElem?_eq_some_iff.mp e1).1; simp at this; lia
    rw [h0] at e1; simp at e1
    exact ⟨by lia, e1.symm⟩
  have lv : ∀ c, c ≠ a → Live (M ++ [a]) (σ ++ [(x, true)]) c → Live M σ c := fun c nc ⟨i, z, e1, e2⟩ => by
    rcases Nat.lt_or_ge i M.length with hi | hi
    · rw [List.getElem?_append_left hi] at e1
      rw [List.getElem?_append_left (I.len ▸ hi)] at e2
      exact ⟨i, z, e1, e2⟩
    · exact absurd (z0 hi e1).2 nc
  have bb : ∀ c o', h.get? c = some o' → Bad B (M ++ [a]) (σ ++ [(x, true)]) c → Bad B M σ c := fun c o' e q => q.elim .inl fun l => .inr (lv c (fun q => by rw [q, gn] at e; cases e) l)
  refine ⟨⟨by simp [I.len], ?_, ?_, ?_, fun a o e => k a o (I.base a o e), ?_, fun t ht => (I.tab t ht).ext k, I.tabB, fun a b => let ⟨o, e⟩ := I.exB a b; ⟨o, k a o e⟩⟩, ?_, ⟨_, ?_, rfl⟩⟩
  · rw [List.nodup_append]
    exact ⟨I.nd, by simp, fun c hc b hb => by simp at hb; subst hb; exact fun q => nM (q ▸ hc)⟩
  · intro i c z b e1 e2
    rcases Nat.lt_or_ge i M.length with hi | hi
    · rw [List.getElem?_append_left hi] at e1
      rw [List.getElem?_append_left (I.len ▸ hi)] at e2
      exact (I.ob i c z b e1 e2).mono (fun a o _ e => k a o e) bb (fun o e => k _ o e)
    · obtain ⟨h0, rfl⟩ := z0 hi e1
      rw [h0, I.len] at e2
      simp at e2
      obtain ⟨rfl, rfl⟩ := e2
      exact r _ bb
  · intro c hc q
    rcases List.mem_append.mp hc with hc | hc
    · exact I.nB c hc q
    · simp at hc; subst hc; obtain ⟨o, e⟩ := I.exB _ q; rw [gn] at e; cases e
  · intro c hc
    rcases List.mem_append.mp hc with hc | hc
    · exact I.new c hc
    · simp at hc; subst hc
      cases q : X.base.get? c with
      | none => rfl
      | some o => have := I.base _ _ q; rw [gn] at this; cases this
  · refine ⟨fun a o _ _ _ e => k a o e, fun a o e => ⟨o, k a o e⟩, fun i hi => List.getElem?_append_left hi, fun i c e1 hi => (z0 hi e1).2 ▸ gn, fun i z e2 hi => ?_⟩
    rw [List.getElem?_append_left (I.len ▸ hi)] at e2; exact ⟨z, e2⟩
  · rw [← I.len]; simp

/-- one is changed -/
theorem upd_ok (I : Inv X B M σ h) {k : Nat} {a : Addr} {x y : F} (ea : M[k]? = some a) (ex : σ[k]? = some (x, true)) (hs : Heap.SameBut a h h')
    (r : (∀ vs xs, FRsx X h (Bad B M σ) vs xs → FRsx X h' (Bad B M (σ.set k (y, true))) vs xs) → (∀ v x, FRx X h (Bad B M σ) v x → FRx X h' (Bad B M (σ.set k (y, true))) v x) → OR X h' (Bad B M (σ.set k (y, true))) a y) :
    Inv X B M (σ.set k (y, true)) h' ∧ Kp X C M σ h M (σ.set k (y, true)) h' := by
  have hk : k < σ.length := (List.getElem?_eq_some_iff.mp ex).1
  have la : Live M σ a := ⟨k, x, ea, ex⟩
  have gt : ∀ (i : Nat) (z : F), (σ.set k (y, true))[i]? = some (z, true) → ∃ u, σ[i]? = some (u, true) := fun i z e2 => by
    rw [List.getElem?_set] at e2
    by_cases hik : k = i
    · exact ⟨x, hik ▸ ex⟩
    · rw [if_neg hik] at e2; exact ⟨z, e2⟩
  have lv : ∀ c, Live M (σ.set k (y, true)) c → Live M σ c := fun c ⟨i, z, e1, e2⟩ => let ⟨u, e3⟩ := gt i z e2; ⟨i, u, e1, e3⟩
  have bb : ∀ c o, h.get? c = some o → Bad B M (σ.set k (y, true)) c → Bad B M σ c := fun c o _ q => q.elim .inl fun l => .inr (lv c l)
  have kk : ∀ c o, ¬ Bad B M σ c → h.get? c = some o → h'.get? c = some o := fun c o n e => (hs.2 c (fun q => n (.inr (q ▸ la)))).trans e
  have o1 := r (fun _ _ r => r.mono kk bb) (fun _ _ r => r.mono kk bb)
  have ne : ∀ c o, h.get? c = some o → c ≠ a → h'.get? c = some o := fun c o e n => (hs.2 c n).trans e
  refine ⟨⟨by rw [I.len, List.length_set], I.nd, fun i c z b e1 e2 => ?_, I.nB, fun c o e => ne c o (I.base c o e) ?_, I.new, fun t ht => ?_, I.tabB, fun c b => ?_⟩, ?_⟩
  · rw [List.getElem?_set] at e2
    by_cases hik : k = i
    · subst hik
      rw [if_pos rfl, if_pos hk] at e2
      cases e2
      rw [ea] at e1; cases e1
      exact o1
    · rw [if_neg hik] at e2
      have nca : c ≠ a := fun q => hik ((List.getElem?_inj (List.getElem?_eq_some_iff.mp ea).1 I.nd).mp (ea.trans (q ▸ e1.symm)))
      exact (I.ob i c z b e1 e2).mono kk bb (fun o e => ne c o e nca)
  · exact fun q => by rw [q, I.new a (List.mem_of_getElem? ea)] at e; cases e
  · have nP : t.P ≠ a := fun q => I.liveB la (q ▸ I.tabB t ht)
    rcases I.tab t ht with e | ⟨c', e, c, o, vs, tt, q1, q2, q3, q4⟩
    · exact .inl (ne _ _ e nP)
    · cases q1
      refine .inr ⟨c', ne _ _ e nP, _, o, vs, tt, rfl, ne _ _ q2 ?_, q3, q4⟩
      intro q; subst q
      obtain ⟨o', e', r⟩ := I.liveData la
      rw [q2] at e'; cases e'; rw [q3] at r; rcases r with ⟨_, _, r⟩ | ⟨_, _, r⟩ <;> cases r
  · obtain ⟨o, e⟩ := I.exB c b
    exact ⟨o, ne c o e fun q => I.liveB la (q ▸ b)⟩
  · refine ⟨fun c o n _ _ e => ne c o e fun q => n (q ▸ la), fun c o e => ?_, fun _ _ => rfl, fun i c e l => (by rw [List.getElem?_eq_none l] at e; cases e), fun i z e1 _ => gt i z e1⟩
    by_cases hc : c = a
    · subst hc; exact o1.get
    · exact ⟨o, ne c o e hc⟩
end
end Mine
namespace Mine
open PySem PySem.W PyProof.Rows PySem.Spec
section
variable {prog : Program} {w : World} {A : Around} {E : Value → Shared → Prop} {s : Shared}

set_option maxHeartbeats 2000000 in
theorem tuple_ltAt (l b : Addr) (n n2 : Nat) (dd dd2 : Option Addr) (sl sl2 : Array (Option Value)) (i j k m : Int) (t1 t2 t3 t4 : Tok) :
    Meets (Builtin.«tuple.__lt__» ⟨[.ref l, .ref b], []⟩)
      (fun _ R s => s.heap.get? l = some { cls := .type "tuple", dict := dd, data := .seq #[.int i t1, .int j t2] n, slots := sl } ∧ s.heap.get? b = some { cls := .type "tuple", dict := dd2, data := .seq #[.int k t3, .int m t4] n2, slots := sl2 } ∧
        R (.ok (.ret (.bool (pairLt i j k m)))) s) :=
  .of_wp fun prog w A R s h => by
    obtain ⟨hp, g, d, tk, os⟩ := s; obtain ⟨hl, hb, h⟩ := h
    have f2 := AutoSeq1.sub_tuple_tuple
    have e1 : ∀ (i k : Int) (t u : Tok) (Q : Bool → Shared → Prop) (E : Value → Shared → Prop) (s : Shared), Q (i == k) s → wpAny (model prog w) A.in1 (eqBool (.int i t) (.int k u)) Q E s := fun i k t u Q E s q => wpAny_eqBool_int q
    have e2 : ∀ (i k : Int) (t u : Tok) (Q : Value → Shared → Prop) (E : Value → Shared → Prop) (s : Shared), Q (.bool (decide (i < k))) s → wpAny (model prog w) A.in1 (richCompare .Lt (.int i t) (.int k u)) Q E s := fun i k t u Q E s q => wpAny_lt_int q
    by_cases hik : i = k
    · have e3 : ∀ (Q : Bool → Shared → Prop) (E : Value → Shared → Prop) (s : Shared), Q true s → wpAny (model prog w) A.in1 (eqBool (.int i t1) (.int k t3)) Q E s := fun Q E s q => e1 _ _ _ _ _ _ _ (by rw [show (i == k) = true from by simpa using hik]; exact q)
      by_cases hjm : j = m
      · have e4 : ∀ (Q : Bool → Shared → Prop) (E : Value → Shared → Prop) (s : Shared), Q true s → wpAny (model prog w) A.in1 (eqBool (.int j t2) (.int m t4)) Q E s := fun Q E s q => e1 _ _ _ _ _ _ _ (by rw [show (j == m) = true from by simpa using hjm]; exact q)
        wp_walk using wpAny_loadPart' hl, wpAny_loadPart' hb, e3, e4
        simpa [pairLt, hik, hjm, Builtin.Tuple.tupleCompareSizes] using h
      · have e4 : ∀ (Q : Bool → Shared → Prop) (E : Value → Shared → Prop) (s : Shared), Q false s → wpAny (model prog w) A.in1 (eqBool (.int j t2) (.int m t4)) Q E s := fun Q E s q => e1 _ _ _ _ _ _ _ (by rw [show (j == m) = false from by simpa using hjm]; exact q)
        wp_walk using wpAny_loadPart' hl, wpAny_loadPart' hb, e3, e4, e2
        simpa [pairLt, hik, hjm] using h
    · have e3 : ∀ (Q : Bool → Shared → Prop) (E : Value → Shared → Prop) (s : Shared), Q false s → wpAny (model prog w) A.in1 (eqBool (.int i t1) (.int k t3)) Q E s := fun Q E s q => e1 _ _ _ _ _ _ _ (by rw [show (i == k) = false from by simpa using hik]; exact q)
      wp_walk using wpAny_loadPart' hl, wpAny_loadPart' hb, e3, e2
      simpa [pairLt, hik] using h

theorem tup_lt {a b : Addr} {i j k m : Int} {t1 t2 t3 t4 : Tok} (ha : s.heap.IsTuple a #[.int i t1, .int j t2]) (hb : s.heap.IsTuple b #[.int k t3, .int m t4]) (hu : A.units < cLine) {Q : Value → Shared → Prop}
    (h : Q (.bool (pairLt i j k m)) s) : wpAny (model prog w) A (compareOp .Lt (.ref a) (.ref b)) Q E s := by
  obtain ⟨⟨cls, dd, data, sl⟩, ho, hc, n, hd⟩ := id ha
  obtain ⟨⟨cls2, dd2, data2, sl2⟩, ho2, hc2, n2, hd2⟩ := id hb
  simp only at hc hd hc2 hd2
  subst hc hd hc2 hd2
  show wpAny _ _ (richCompare .Lt _ _) _ _ _
  exact richCompare_meets_room (op := .Lt) ⟨_, ho, rfl⟩ ⟨_, ho2, rfl⟩ F.slot_tuple_lt F.entry_tuple_lt (F.args_tuple_lt_2 _ _) (tuple_ltAt a b n n2 dd dd2 sl sl2 i j k m t1 t2 t3 t4)
    ⟨ho, ho2, show Value.bool (pairLt i j k m) ≠ Value.notImplemented ∧ Q (.bool (pairLt i j k m)) s from ⟨(fun x => nomatch x), h⟩⟩ hu
end
end Mine
namespace Mine
open PySem PySem.W PyProof.Rows PySem.Spec

/-! ## what a step of the machine does beside the store -/
/-- all but L lasts, and L's names -/
structure Ex (L : Addr) (h h' : Heap) : Prop where
  keep : ∀ a o, a ≠ L → h.get? a = some o → h'.get? a = some o
  ns : ∀ m, h.Ns L m → h'.Ns L m
theorem Ex.of {L : Addr} {h h' : Heap} (k : ∀ a o, h.get? a = some o → h'.get? a = some o) : Ex L h h' := ⟨fun a o _ e => k a o e, fun _ n => n.keeps k⟩
theorem Ex.trans {L : Addr} {h h' h₂ : Heap} (x : Ex L h h') (y : Ex L h' h₂) : Ex L h h₂ := ⟨fun a o n e => y.keep a o n (x.keep a o n e), fun m n => y.ns m (x.ns m n)⟩

section
variable {X : Cx} {M : List Addr} {σ : St} {h h' : Heap} {B : Addr → Prop} {env : Env} {fr : Fm}
theorem ex_ok (I : Inv X B M σ h) (R : ER X B env fr M σ h) (x : Ex env.locals h h') : Inv X B M σ h' ∧ ER X B env fr M σ h' ∧ Kp X (fun a => a = env.locals) M σ h M σ h' := by
  obtain ⟨m, n, _⟩ := R.ns
  obtain ⟨oL, es, ep, eL, dL, _⟩ := id n
  obtain ⟨oL', _, _, eL', _⟩ := x.ns m n
  have K : Kp X (fun a => a = env.locals) M σ h M σ h' := ⟨fun a o _ _ c e => x.keep a o c e, fun a o e => by
      by_cases ha : a = env.locals
      · subst ha; exact ⟨_, eL'⟩
      · exact ⟨o, x.keep a o ha e⟩, fun _ _ => rfl, fun i c e l => (by rw [List.getElem?_eq_none l] at e; cases e), fun _ x e _ => ⟨x, e⟩⟩
  have kk := K.badKeep I (fun a (q : a = env.locals) => q ▸ R.lB)
  refine ⟨⟨I.len, I.nd, fun i a x' b e e' => ?_, I.nB, fun a o e => x.keep a o (fun q => by rw [q, R.lnew] at e; cases e) (I.base a o e), I.new, fun t ht => ?_, I.tabB, fun a b => let ⟨o, e⟩ := I.exB a b; K.ex a o e⟩, ?_, K⟩
  · have ne : a ≠ env.locals := fun q => I.nB a (List.mem_of_getElem? e) (q ▸ R.lB)
    exact (I.ob i a x' b e e').mono kk K.badBack (fun o e => x.keep a o ne e)
  · have ne : t.P ≠ env.locals := (R.ntab I t ht).symm
    rcases I.tab t ht with e | ⟨c', e, c, o, vs, tt, q1, q2, q3, q4⟩
    · exact .inl (x.keep _ _ ne e)
    · cases q1
      refine .inr ⟨c', x.keep _ _ ne e, _, o, vs, tt, rfl, x.keep _ _ (fun q => ?_) q2, q3, q4⟩
      rw [q, eL] at q2; cases q2; rw [dL] at q3; cases q3
  · exact R.kp I K (fun a q => q ▸ R.lB) (fun a o e q => .inl (by subst q; rw [eL] at e; cases e; exact ⟨_, _, dL⟩)) x.ns (fun y c e q => R.cnloc e q)
theorem nbad (I : Inv X B M σ h) {a : Addr} (e : h.get? a = none) : ¬ Bad B M σ a := fun q => q.elim (fun b => by obtain ⟨o, e'⟩ := I.exB a b; rw [e] at e'; cases e')
  fun l => by obtain ⟨o, e', _⟩ := I.liveData l; rw [e] at e'; cases e'
theorem size_none (h : Heap) : h.get? h.objs.size = none := by
  cases q : h.get? h.objs.size with
  | none => rfl
  | some o => exact absurd (Heap.lt_size q) (Nat.lt_irrefl _)
theorem get_none_ge {h : Heap} {a : Addr} (e : h.objs.size ≤ a) : h.get? a = none := by
  cases q : h.get? a with
  | none => rfl
  | some o => exact absurd (Heap.lt_size q) (Nat.not_lt.mpr e)

/-- behind a step that changes nothing but makes things -/
theorem PE.ex (I : Inv X B M σ h) (R : ER X B env fr M σ h) {s : Shared} (hs : s.heap = h) (x : Ex env.locals h h') {tk : Nat} {v : Value} {a : A} (r : AR X B M σ h' v a) : PE X B env fr M σ s a σ v { s with heap := h', toks := tk } := by
  subst hs
  obtain ⟨I', R', K⟩ := ex_ok I R x
  exact ⟨h', tk, M, I', R', K, r⟩
theorem PE.same {s : Shared} (I : Inv X B M σ s.heap) (R : ER X B env fr M σ s.heap) {tk : Nat} {v : Value} {a : A} (r : AR X B M σ s.heap v a) : PE X B env fr M σ s a σ v { s with toks := tk } :=
  ⟨s.heap, tk, M, I, R, .refl, r⟩
end

theorem Kp.le {X : Cx} {C : Addr → Prop} {M M' : List Addr} {σ σ' : St} {h h' : Heap} (K : Kp X C M σ h M' σ' h') : M.length ≤ M'.length := by
  rcases Nat.lt_or_ge M'.length M.length with q | q
  · have := K.pre M'.length q
    rw [List.getElem?_eq_none (Nat.le_refl _), List.getElem?_eq_getElem q] at this; cases this
  · exact q
theorem Kp.tr {X : Cx} {C : Addr → Prop} {M M' M₂ : List Addr} {σ σ' σ₂ : St} {h h' h₂ : Heap} (K : Kp X C M σ h M' σ' h') (K' : Kp X C M' σ' h' M₂ σ₂ h₂) : Kp X C M σ h M₂ σ₂ h₂ := K.trans K' K.le

theorem PE.tr {X : Cx} {B : Addr → Prop} {env : Env} {fr : Fm} {M M' : List Addr} {σ σ' σ₂ : St} {s : Shared} {h' : Heap} {tk : Nat} {a : A} {v : Value} {s' : Shared}
    (K : Kp X (fun a => a = env.locals) M σ s.heap M' σ' h') (p : PE X B env fr M' σ' { s with heap := h', toks := tk } a σ₂ v s') : PE X B env fr M σ s a σ₂ v s' := by
  obtain ⟨h₂, tk₂, M₂, I₂, R₂, K₂, r₂⟩ := p
  exact ⟨h₂, tk₂, M₂, I₂, R₂, K.tr K₂, r₂⟩

/-- all objects but L, as a ledger -/
noncomputable def others (L : Addr) (h : Heap) : List (Addr × Obj) := (List.range h.objs.size).filterMap fun a => if a = L then none else (h.get? a).map (a, ·)
theorem mem_others {L : Addr} {h : Heap} {a : Addr} {o : Obj} (n : a ≠ L) (e : h.get? a = some o) : (a, o) ∈ others L h := by
  refine List.mem_filterMap.mpr ⟨a, List.mem_range.mpr (Heap.lt_size e), ?_⟩
  rw [if_neg n, e]; rfl
theorem others_mem {L : Addr} {h : Heap} {p : Addr × Obj} (m : p ∈ others L h) : h.get? p.1 = some p.2 ∧ p.1 ≠ L := by
  obtain ⟨a, _, e⟩ := List.mem_filterMap.mp m
  split at e
  · cases e
  · rename_i n
    simp only [Option.map_eq_some_iff] at e
    obtain ⟨o, e, rfl⟩ := e
    exact ⟨e, n⟩
noncomputable def emptyHeap : Heap := { objs := #[] }
theorem none_empty (a : Addr) : emptyHeap.get? a = none := by
  cases q : emptyHeap.get? a with
  | none => rfl
  | some o => exact absurd (Heap.lt_size q) (Nat.not_lt_zero _)
theorem frOf {L : Addr} {h : Heap} {m : Str → Option Value} (n : h.Ns L m) : Fr emptyHeap L h m := ⟨n, fun b o e => (by rw [none_empty] at e; cases e), Nat.zero_le _⟩
theorem newsOf (L : Addr) (h : Heap) : News emptyHeap L h (others L h) := fun p m => ⟨(others_mem m).1, (others_mem m).2, none_empty _⟩
theorem exOf {L : Addr} {h h' : Heap} {m : Str → Option Value} (n : h.Ns L m) (F : Fr emptyHeap L h' m) {news : List (Addr × Obj)} (N : News emptyHeap L h' news) (sub : ∀ p ∈ others L h, p ∈ news) : Ex L h h' :=
  ⟨fun a o ne e => (N (a, o) (sub _ (mem_others ne e))).1, fun m' n' => by
    obtain ⟨o, es, ep, e, d, k, r⟩ := n
    obtain ⟨o', es', ep', e', d', k', r'⟩ := n'
    rw [e] at e'; cases e'; rw [d] at d'; cases d'
    have : m = m' := funext fun x => (r x).symm.trans (r' x)
    exact this ▸ F.ns⟩


end Mine
namespace Mine
open PySem PySem.W PyProof.Rows PySem.Spec

section
variable {X : Cx} {A : Around} {E : Value → Shared → Prop} {s : Shared} {B : Addr → Prop} {M : List Addr} {σ : St} {env : Env} {fr : Fm}

theorem small_lt {a : Int} (h : small a = true) : a.natAbs < 2 ^ 62 := of_decide_eq_true h
theorem mulOk {a b : Int} (h : small a = true) : IntMulOk a b := IntMulOk.of_left (PyProof.Rows.intBits_le (Nat.lt_of_lt_of_le (small_lt h) (by decide)))

theorem frs_ext {h h' : Heap} (I : Inv X B M σ h) (x : Ex env.locals h h') (R : ER X B env fr M σ h) {vs : List Value} {xs : List F} (r : FRsx X h (Bad B M σ) vs xs) : FRsx X h' (Bad B M σ) vs xs :=
  r.mono (fun a o n e => x.keep a o (fun q => n (.inl (q ▸ R.lB))) e) (fun _ _ _ q => q)

/-- a new list of frozen items -/
theorem fr_list {h h' : Heap} (I : Inv X B M σ h) (R : ER X B env fr M σ h) (x : Ex env.locals h h') {a : Addr} {vs : List Value} {xs : List F} (gn : h.get? a = none) (e : h'.IsList a (List.toArray vs))
    (r : FRsx X h (Bad B M σ) vs xs) : FRx X h' (Bad B M σ) (.ref a) (.lst xs) := .lst e (nbad I gn) (frs_ext I x R r)
theorem fr_tup {h h' : Heap} (I : Inv X B M σ h) (R : ER X B env fr M σ h) (x : Ex env.locals h h') {a : Addr} {vs : List Value} {xs : List F} (gn : h.get? a = none) (e : h'.IsTuple a (List.toArray vs))
    (r : FRsx X h (Bad B M σ) vs xs) : FRx X h' (Bad B M σ) (.ref a) (.tup xs) := .tup e (nbad I gn) (frs_ext I x R r)

theorem binop_ok (I : Inv X B M σ s.heap) (R : ER X B env fr M σ s.heap) {op : Operator} {v1 v2 : Value} {x y z : F} (r1 : Sh X s.heap (Bad B M σ) v1 x) (r2 : Sh X s.heap (Bad B M σ) v2 y)
    (e : BinR op x y z) {Q : Value → Shared → Prop}
    (hQ : ∀ v h' tk, Ex env.locals s.heap h' → FRx X h' (Bad B M σ) v z → Q v { s with heap := h', toks := tk }) : wpAny (model X.prog X.w) A (binaryOp op v1 v2) Q E s := by
  have x0 : Ex env.locals s.heap s.heap := .of fun _ _ e => e
  induction e with
  | add => obtain ⟨t, rfl⟩ := r1; obtain ⟨u, rfl⟩ := r2; exact PyProof.Rows.add_int (hQ _ s.heap _ x0 (.int _ _))
  | sub => obtain ⟨t, rfl⟩ := r1; obtain ⟨u, rfl⟩ := r2; exact PyProof.Rows.sub_int (hQ _ s.heap _ x0 (.int _ _))
  | mul h => obtain ⟨t, rfl⟩ := r1; obtain ⟨u, rfl⟩ := r2; exact PyProof.Rows.mul_int (hQ _ s.heap _ x0 (.int _ _)) (mulOk h)
  | fdiv h1 h2 => obtain ⟨t, rfl⟩ := r1; obtain ⟨u, rfl⟩ := r2; exact PyProof.Rows.floordiv_int h1 (hQ _ s.heap _ x0 (.int _ _)) (.inl (PyProof.noPylong_small (by lia)))
  | mod h1 h2 => obtain ⟨t, rfl⟩ := r1; obtain ⟨u, rfl⟩ := r2; exact PyProof.Rows.mod_int h1 (hQ _ s.heap _ x0 (.int _ _))
  | pow h1 h2 h3 => obtain ⟨t, rfl⟩ := r1; obtain ⟨u, rfl⟩ := r2; exact PyProof.Rows.pow_int_small h1 (by lia) (Nat.lt_of_lt_of_le (small_lt h3) (by decide)) (hQ _ s.heap _ x0 (.int _ _))
  | shl h1 h2 h3 => obtain ⟨t, rfl⟩ := r1; obtain ⟨u, rfl⟩ := r2; exact PyProof.Rows.lshift_int_small h1 (by lia) (Nat.lt_of_lt_of_le (small_lt h3) (by decide)) (hQ _ s.heap _ x0 (.int _ _))
  | shr h => obtain ⟨t, rfl⟩ := r1; obtain ⟨u, rfl⟩ := r2; exact PyProof.Rows.rshift_int h (hQ _ s.heap _ x0 (.int _ _))
  | xor => obtain ⟨t, rfl⟩ := r1; obtain ⟨u, rfl⟩ := r2; exact PyProof.Rows.xor_int (hQ _ s.heap _ x0 (.int _ _))
  | cat hz =>
    obtain ⟨a, vs, rfl, l1, f1⟩ := r1; obtain ⟨b, us, rfl, l2, f2⟩ := r2
    obtain ⟨m, n, _⟩ := R.ns
    have h1 := f1.length; have h2 := f2.length
    refine add_arrays (frOf n) (newsOf _ _) l1 l2 (fun h' F' N' => ?_) (by simp only [List.size_toArray]; show _ ≤ 16777216; lia)
    have ex := exOf n F' N' fun p hp => .tail _ hp
    exact hQ _ h' _ ex (fr_list I R ex (size_none _) ⟨_, (N' _ (.head _)).1, rfl, _, rfl⟩ (by simpa using f1.append f2))

theorem unop_ok {op : UnaryOp} {v : Value} {x z : F} {bad : Addr → Prop} (r : FRx X s.heap bad v x) (e : UnR op x z) {Q : Value → Shared → Prop}
    (hQ : ∀ v tk, FRx X s.heap bad v z → Q v { s with toks := tk }) : wpAny (model X.prog X.w) A (unaryOp op v) Q E s := by
  induction e with
  | neg => cases r; exact PyProof.Rows.neg_int (hQ _ _ (.int _ _))
  | inv => cases r; exact PyProof.Rows.invert_int (hQ _ _ (.int _ _))

theorem dget_lookup {prog : Program} {w : World} {h : Heap} {bad : Addr → Prop} {k : Int} : ∀ {es : List (Int × Value)} {kvs : List (Int × F)}, es.map (·.1) = kvs.map (·.1) → FRs prog w h bad (es.map (·.2)) (kvs.map (·.2)) →
    (∀ y, dget k kvs = some y → ∃ v, valueAt es k = some v ∧ FR prog w h bad v y) ∧ (dget k kvs = none → valueAt es k = none)
  | [], [], _, _ => ⟨fun _ e => (by cases e), fun _ => rfl⟩
  | [], _ :: _, q, _ => by simp at q
  | _ :: _, [], q, _ => by simp at q
  | (a, v) :: es, (b, y) :: kvs, q, r => by
    simp only [List.map_cons, List.cons.injEq] at q
    obtain ⟨rfl, q⟩ := q
    cases r with
    | cons r1 r2 =>
      have ih := dget_lookup q r2 (k := k)
      unfold dget valueAt
      rw [List.find?_cons]
      by_cases hk : k = a
      · subst hk
        rw [if_pos rfl]
        simp only [decide_true, Option.map_some]
        exact ⟨fun _ e => (by cases e; exact ⟨_, rfl, r1⟩), fun e => (by cases e)⟩
      · rw [if_neg hk]
        rw [decide_eq_false (show ¬ a = k from fun q => hk q.symm)]
        exact ih

theorem valueAt_isSome {prog : Program} {w : World} {h : Heap} {bad : Addr → Prop} {k : Int} {es : List (Int × Value)} {kvs : List (Int × F)} (q : es.map (·.1) = kvs.map (·.1)) (f : FRs prog w h bad (es.map (·.2)) (kvs.map (·.2))) :
    (valueAt es k).isSome = (dget k kvs).isSome := by
  have dl := dget_lookup q f (k := k)
  cases hd : dget k kvs with
  | none => rw [dl.2 hd]; rfl
  | some y => obtain ⟨v, e, _⟩ := dl.1 y hd; rw [e]; rfl

noncomputable def isI (a : Int) : Value → Bool
  | .int i _ => i == a
  | _ => false
theorem isI_at {a : Int} {t : Tok} {us : List Value} {ns : List Int} (i : IntsAre us ns) {y : Value} (hy : y ∈ us.toArray) : SeqAt.EqAt A s y (.int a t) (isI a y) := by
  simp only [List.mem_toArray] at hy
  induction i with
  | nil => cases hy
  | cons n t' _ ih => cases hy with
    | head => exact (MeetsSeq.EqGives.int n a t' t).at _ _
    | tail _ hy => exact ih hy
theorem isI_any {a : Int} {us : List Value} {ns : List Int} (i : IntsAre us ns) : us.toArray.any (isI a) = ns.contains a := by
  simp only [List.any_toArray]
  induction i with
  | nil => rfl
  | cons n t' _ ih =>
    simp only [List.any_cons, List.contains_cons, ih, isI]
    congr 1
    exact Bool.eq_iff_iff.mpr ⟨fun q => by simp at q; simp [q], fun q => by simp at q; simp [q]⟩

theorem cmp_ok (hu : A.units + 64 < cLine) {op : CmpOp} {v1 v2 : Value} {x y : F} {b : Bool} {bad : Addr → Prop} (r1 : Sh X s.heap bad v1 x) (r2 : Sh X s.heap bad v2 y)
    (e : CmpR op x y b) {Q : Value → Shared → Prop} (hQ : ∀ tk, Q (.bool b) { s with toks := tk }) : wpAny (model X.prog X.w) A (compareOp op v1 v2) Q E s := by
  induction e with
  | eq => obtain ⟨t, rfl⟩ := r1; obtain ⟨u, rfl⟩ := r2; exact P.eq_int (hQ s.toks)
  | ne => obtain ⟨t, rfl⟩ := r1; obtain ⟨u, rfl⟩ := r2; exact P.ne_int (hQ s.toks)
  | lt => obtain ⟨t, rfl⟩ := r1; obtain ⟨u, rfl⟩ := r2; exact P.lt_int (hQ s.toks)
  | le => obtain ⟨t, rfl⟩ := r1; obtain ⟨u, rfl⟩ := r2; exact P.le_int (hQ s.toks)
  | gt => obtain ⟨t, rfl⟩ := r1; obtain ⟨u, rfl⟩ := r2; exact P.gt_int (hQ s.toks)
  | ge => obtain ⟨t, rfl⟩ := r1; obtain ⟨u, rfl⟩ := r2; exact P.ge_int (hQ s.toks)
  | plt =>
    obtain ⟨a, vs, rfl, l1, f1⟩ := r1; obtain ⟨c, us, rfl, l2, f2⟩ := r2
    cases FRs.ints (ns := [_, _]) f1 with | cons _ t1 i1 => cases i1 with | cons _ t2 i1 => cases i1 with | nil =>
    cases FRs.ints (ns := [_, _]) f2 with | cons _ t3 i2 => cases i2 with | cons _ t4 i2 => cases i2 with | nil =>
    exact tup_lt l1 l2 (by lia) (hQ s.toks)
  | lne h1 h2 =>
    obtain ⟨a, vs, rfl, l1, f1⟩ := r1; obtain ⟨c, us, rfl, l2, f2⟩ := r2
    exact ke_ne_ints l1 l2 f1.ints f2.ints hu (hQ s.toks)
  | inl =>
    obtain ⟨t, rfl⟩ := r1; obtain ⟨c, us, rfl, l2, f2⟩ := r2
    exact SeqAt.in_listAt (isI _) l2 (fun y hy => isI_at f2.ints hy) (by rw [isI_any f2.ints]; exact hQ s.toks)
  | ninl =>
    obtain ⟨t, rfl⟩ := r1; obtain ⟨c, us, rfl, l2, f2⟩ := r2
    exact SeqAt.notIn_listAt (isI _) l2 (fun y hy => isI_at f2.ints hy) (by rw [isI_any f2.ints]; exact hQ s.toks)
  | ind =>
    obtain ⟨t, rfl⟩ := r1; obtain ⟨a, es, rfl, d, ns, q, f⟩ := r2
    exact wpAny_in_of (intKind_is _ _ _ _) ns d.mapOf (by rw [valueAt_isSome q f]; exact hQ _)
  | nind =>
    obtain ⟨t, rfl⟩ := r1; obtain ⟨a, es, rfl, d, ns, q, f⟩ := r2
    exact wpAny_notIn_of (intKind_is _ _ _ _) ns d.mapOf (by rw [valueAt_isSome q f]; exact hQ _)

theorem truth_ok {v : Value} {x : F} {b : Bool} {bad : Addr → Prop} (r : Sh X s.heap bad v x) (e : TruR x b) {Q : Bool → Shared → Prop} (hQ : ∀ tk, Q b { s with toks := tk }) :
    wpAny (model X.prog X.w) A (truthy v) Q E s := by
  induction e with
  | bool => cases r; exact wpAny_truthy_bool (hQ s.toks)
  | int => obtain ⟨t, rfl⟩ := r; exact P.truthy_int (hQ s.toks)
  | lst hz =>
    obtain ⟨a, vs, rfl, l, f⟩ := r
    have hl := f.length
    refine wpAny_truthy_list l (by simp; lia) ?_
    have : (!(List.toArray vs).isEmpty) = !(List.isEmpty ‹List F›) := by
      cases f <;> simp
    rw [this]; exact hQ _

theorem mul_list_at {l : Addr} {vs : List Value} {x : Int} {u : Tok} {Q : Value → Shared → Prop} (hl : s.heap.IsList l vs.toArray) (hlo : 0 ≤ x) (hhi : x ≤ 64) (hsz : vs.length ≤ 64)
    (h : Q (.ref s.heap.objs.size) { s with heap := s.heap.push (listOf (List.replicate x.toNat vs).flatten.toArray 0) }) :
    wpAny (model X.prog X.w) A (binaryOp .Mult (.ref l) (.int x u)) Q E s := by
  obtain ⟨⟨cls, d, data, sl⟩, ho, hcl, k, hd⟩ := id hl
  simp only at hcl hd
  subst hcl hd
  have hm : vs.length * x.toNat ≤ 64 * 64 := Nat.mul_le_mul hsz (by lia)
  have hsz' : vs.toArray.size * x.toNat ≤ 4096 := by simpa using hm
  refine wpAny_binaryOp_repeat_ref (T := "list") (U := "int") (by decide) ⟨_, ho, rfl⟩ (fun s' => typeIs_int s' x u) noFill_list_mul F.fills_int_mul F.slot_int_rmul repeat_list F.slot_int_index.lookup
    (call_meets F.slot_int_rmul (typeIs_int s x u) F.entry_int_rmul (F.args_int_rmul_2 _ _) (lm_int_rmul_list_any x u l vs.toArray k d sl)
      ⟨ho, rfl, ⟨_, ho, rfl⟩, call_meets F.slot_list_mul ⟨_, ho, rfl⟩ F.entry_list_mul (F.args_list_mul_2 _ _)
        (lm_list_mul_any l vs.toArray k d sl x u (by simp [Builtin.List.listFitsIndex]; lia) (by lia) (by simp [Builtin.List.listTooLong, sizeLine]; lia))
        ⟨ho, ?_⟩⟩)
  rw [listMul_foldl_if]
  exact h
end
end Mine
namespace Mine
open PySem PySem.W PyProof.Rows PySem.Spec

/-! ## what is shown of the interpreter, by its fuel -/
section
variable (X : Cx)
/-- behind something without a value -/
inductive PS (B : Addr → Prop) (env : Env) (fr : Fm) (M : List Addr) (σ : St) (s : Shared) (σ' : St) (R : List Addr → Heap → Prop) : Shared → Prop
  | mk (h' : Heap) (tk : Nat) (M' : List Addr) (I : Inv X B M' σ' h') (R' : ER X B env fr M' σ' h') (K : Kp X (fun a => a = env.locals) M σ s.heap M' σ' h') (r : R M' h') : PS B env fr M σ s σ' R { s with heap := h', toks := tk }

noncomputable def SEval (n : Nat) : Prop := ∀ {A : Around} {B : Addr → Prop} {env : Env} {fr : Fm} {M : List Addr} {σ : St} {s : Shared} {e : Expr} {a : Mine.A} {σ' : St} {Q : Value → Shared → Prop} {E : Value → Shared → Prop},
  Room A n → Inv X B M σ s.heap → ER X B env fr M σ s.heap → (lev n).ev fr σ e a σ' → (∀ v s', PE X B env fr M σ s a σ' v s' → Q v s') → wpAny (model X.prog X.w) A (eval e env) Q E s
noncomputable def STest (n : Nat) : Prop := ∀ {A : Around} {B : Addr → Prop} {env : Env} {fr : Fm} {M : List Addr} {σ : St} {s : Shared} {e : Expr} {b : Bool} {σ' : St} {Q : Bool → Shared → Prop} {E : Value → Shared → Prop},
  Room A n → Inv X B M σ s.heap → ER X B env fr M σ s.heap → (lev n).test fr σ e b σ' → (∀ s', PS X B env fr M σ s σ' (fun _ _ => True) s' → Q b s') → wpAny (model X.prog X.w) A (isTrue e env (eval e env)) Q E s
noncomputable def SAll (n : Nat) : Prop := ∀ {A : Around} {B : Addr → Prop} {env : Env} {fr : Fm} {M : List Addr} {σ : St} {s : Shared} {op : BoolOp} {es : List Expr} {b : Bool} {σ' : St} {Q : Bool → Shared → Prop} {E : Value → Shared → Prop},
  Room A n → Inv X B M σ s.heap → ER X B env fr M σ s.heap → AllR (lev n) fr op es σ b σ' → (∀ s', PS X B env fr M σ s σ' (fun _ _ => True) s' → Q b s') → wpAny (model X.prog X.w) A (allTrue op es env) Q E s
noncomputable def SIfs (n : Nat) : Prop := ∀ {A : Around} {B : Addr → Prop} {env : Env} {fr : Fm} {M : List Addr} {σ : St} {s : Shared} {es : List Expr} {b : Bool} {σ' : St} {Q : Bool → Shared → Prop} {E : Value → Shared → Prop},
  Room A n → Inv X B M σ s.heap → ER X B env fr M σ s.heap → AllR (lev n) fr .And es σ b σ' → (∀ s', PS X B env fr M σ s σ' (fun _ _ => True) s' → Q b s') →
    wpAny (model X.prog X.w) A (forIn es true fun c r => if r = true then do let ok ← isTrue c env (eval c env); pure (ForInStep.yield ok) else pure (ForInStep.yield r)) Q E s
noncomputable def SPart (n : Nat) : Prop := ∀ {A : Around} {B : Addr → Prop} {env : Env} {fr : Fm} {M : List Addr} {σ : St} {s : Shared} {e : Option Expr} {i : Option Int} {σ' : St} {Q : Value → Shared → Prop} {E : Value → Shared → Prop},
  Room A n → Inv X B M σ s.heap → ER X B env fr M σ s.heap → PartR (lev n) fr σ e i σ' → (∀ v s', IsPart v i → PS X B env fr M σ s σ' (fun _ _ => True) s' → Q v s') → wpAny (model X.prog X.w) A (evalPart e env) Q E s
noncomputable def SList (n : Nat) : Prop := ∀ {A : Around} {B : Addr → Prop} {env : Env} {fr : Fm} {M : List Addr} {σ : St} {s : Shared} {es : List Expr} {xs : List F} {σ' : St} {pos : Pos} {Q : List Value → Shared → Prop} {E : Value → Shared → Prop},
  Room A n → Inv X B M σ s.heap → ER X B env fr M σ s.heap → ListR (lev n) fr es σ xs σ' → (∀ vs s', PS X B env fr M σ s σ' (fun M' h' => FRsx X h' (Bad B M' σ') vs xs) s' → Q vs s') →
    wpAny (model X.prog X.w) A (spliced (backTo pos (starEach es env))) Q E s
inductive ARs (B : Addr → Prop) (M : List Addr) (σ : St) (h : Heap) : List Value → List Mine.A → Prop
  | nil : ARs B M σ h [] []
  | cons {v a vs as} : AR X B M σ h v a → ARs B M σ h vs as → ARs B M σ h (v :: vs) (a :: as)
noncomputable def SArgs (n : Nat) : Prop := ∀ {A : Around} {B : Addr → Prop} {env : Env} {fr : Fm} {M : List Addr} {σ : St} {s : Shared} {es : List Expr} {as : List Mine.A} {σ' : St} {pos : Pos} {Q : List Value → Shared → Prop} {E : Value → Shared → Prop},
  Room A n → Inv X B M σ s.heap → ER X B env fr M σ s.heap → ArgsR (lev n) fr es σ as σ' → (∀ vs s', PS X B env fr M σ s σ' (fun M' h' => ARs X B M' σ' h' vs as) s' → Q vs s') →
    wpAny (model X.prog X.w) A (spliced (backTo pos (starEach es env))) Q E s

end

section
variable {X : Cx} {n : Nat}

theorem sub_any {A : Around} {prog : Program} {w : World} {E : Value → Shared → Prop} {s : Shared} {value slice : Expr} {o i : Value} {T id : String} {Q : Value → Shared → Prop} (hT : s.TypeIs o T)
    (hl : typeLookup (.type T) "__getitem__" = pure (some (.builtin id))) (h : wpAny (model prog w) A (getItem o i) Q E s) :
    wpAny (model prog w) A (subscriptTail value slice o i) Q E s := by
  unfold subscriptTail
  refine wpAny_bind ?_
  rw [getitemInPython_of_ne hT.not_modules]
  refine wpAny_bind (wpAny_specialOf hT hl ?_)
  have fin : wpAny (model prog w) A (subscripted slice false o i) (fun r s₃ => wpAny (model prog w) A (letTemporaryGo value o r >>= fun _ => pure r) Q E s₃) E s := by
    have z : wpAny (model prog w) A (getItem o i) (fun r s₃ => wpAny (model prog w) A (letTemporaryGo value o r >>= fun _ => pure r) Q E s₃) E s :=
      wpAny_mono h (fun r s₃ h₃ => wpAny_bind (wpAny_letTemporaryGo (wpAny_pure h₃))) fun _ _ x => x
    unfold subscripted
    split
    · exact wpAny_operating z
    · cases ‹false = true›
    · exact wpAny_operating z
  exact wpAny_pure (wpAny_bind fin)

theorem ev_Constant_int {A : Around} {B : Addr → Prop} {env : Env} {fr : Fm} {M : List Addr} {σ : St} {s : Shared} {i : Int} {k : Nat} {p : Pos} {Q : Value → Shared → Prop} {E : Value → Shared → Prop}
 (I : Inv X B M σ s.heap) (R : ER X B env fr M σ s.heap) (hQ : ∀ v s', PE X B env fr M σ s (.v (.int i)) σ v s' → Q v s') : wpAny (model X.prog X.w) A (eval (.Constant (.int i) k p) env) Q E s :=
  wpAny_Constant_int (hQ _ _ (PE.same I R (.int _ _)))

theorem ld_name {A : Around} {B : Addr → Prop} {env : Env} {fr : Fm} {M : List Addr} {σ : St} {s : Shared} {x : Str} {a : Mine.A} {Q : Value → Shared → Prop} {E : Value → Shared → Prop}
    (R : ER X B env fr M σ s.heap) (e : fr.get x = some a) (hQ : ∀ v, AR X B M σ s.heap v a → Q v s) (hn : (x == ("__classdict__" : Str)) = false) : wpAny (model X.prog X.w) A (loadName env x) Q E s := by
  unfold Fm.get at e
  split at e
  · rename_i hk
    obtain ⟨m, ns, r⟩ := R.ns
    obtain ⟨v, em, ra⟩ := r x a e
    exact wpAny_loadName_local R.kind (R.kl x hk) ns em (hQ v ra)
  · rename_i hk
    obtain ⟨c, ec⟩ := R.cell x (.inl hk)
    obtain ⟨v, ev, ra⟩ := R.celv x a c e ec
    exact wpAny_loadName_cell R.kind (R.kc x hk) ec ev (hQ v ra)
  · rename_i hk
    obtain ⟨c, ec⟩ := R.cell x (.inr hk)
    obtain ⟨v, ev, ra⟩ := R.celv x a c e ec
    rcases R.kf x hk with hf | hf
    · exact wpAny_loadName_free R.kind hf ec ev (hQ v ra) hn
    · exact wpAny_loadName_cell R.kind hf ec ev (hQ v ra)
  · cases e
end
end Mine
namespace Mine
open PySem PySem.W PyProof.Rows PySem.Spec

section
variable {X : Cx} {M : List Addr} {σ : St} {h h' : Heap} {B : Addr → Prop} {env : Env} {fr : Fm}
/-- an object that was kept apart joins the store -/
theorem adopt_ok {a : Addr} (I : Inv X (fun c => B c ∨ c = a) M σ h) (ha : X.base.get? a = none) (nb : ¬ B a) (hs : Heap.SameBut a h h') {x : F}
    (hd : ∃ o es ep, h.get? a = some o ∧ o.data = .dict es ep)
    (r : (∀ vs xs, FRsx X h (Bad (fun c => B c ∨ c = a) M σ) vs xs → FRsx X h' (Bad B (M ++ [a]) (σ ++ [(x, true)])) vs xs) → OR X h' (Bad B (M ++ [a]) (σ ++ [(x, true)])) a x) :
    Inv X B (M ++ [a]) (σ ++ [(x, true)]) h' := by
  have nM : a ∉ M := fun q => I.nB a q (.inr rfl)
  have z0 : ∀ {i : Nat} {c : Addr}, M.length ≤ i → (M ++ [a])[i]? = some c → i = M.length ∧ c = a := fun {i c} hi e1 => by
    rw [List.getElem?_append_right hi] at e1
    have h0 : i - M.length = 0 := by
      have := (List.getElem?_eq_some_iff.mp e1).1; simp at this; lia
    rw [h0] at e1; simp at e1
    exact ⟨by lia, e1.symm⟩
  have lv : ∀ c, c ≠ a → Live (M ++ [a]) (σ ++ [(x, true)]) c → Live M σ c := fun c nc ⟨i, z, e1, e2⟩ => by
    rcases Nat.lt_or_ge i M.length with hi | hi
    · rw [List.getElem?_append_left hi] at e1
      rw [List.getElem?_append_left (I.len ▸ hi)] at e2
      exact ⟨i, z, e1, e2⟩
    · exact absurd (z0 hi e1).2 nc
  have bb : ∀ c o', h.get? c = some o' → Bad B (M ++ [a]) (σ ++ [(x, true)]) c → Bad (fun c => B c ∨ c = a) M σ c := fun c o' e q => q.elim (fun b => .inl (.inl b)) fun l => by
    by_cases hc : c = a
    · exact .inl (.inr hc)
    · exact .inr (lv c hc l)
  have kk : ∀ c o, ¬ Bad (fun c => B c ∨ c = a) M σ c → h.get? c = some o → h'.get? c = some o := fun c o n e => (hs.2 c (fun q => n (.inl (.inr q)))).trans e
  have ne : ∀ c o, h.get? c = some o → c ≠ a → h'.get? c = some o := fun c o e n => (hs.2 c n).trans e
  have o1 := r (fun _ _ r => r.mono kk bb)
  refine ⟨by simp [I.len], ?_, ?_, ?_, fun c o e => ne c o (I.base c o e) (fun q => by rw [q, ha] at e; cases e), ?_, fun t ht => ?_, fun t ht => (I.tabB t ht).elim id fun q => ?_, fun c b => ?_⟩
  · rw [List.nodup_append]
    exact ⟨I.nd, by simp, fun c hc b hb => by simp at hb; subst hb; exact fun q => nM (q ▸ hc)⟩
  · intro i c z b e1 e2
    rcases Nat.lt_or_ge i M.length with hi | hi
    · rw [List.getElem?_append_left hi] at e1
      rw [List.getElem?_append_left (I.len ▸ hi)] at e2
      exact (I.ob i c z b e1 e2).mono kk bb (fun o e => ne _ o e (fun q => nM (q ▸ List.mem_of_getElem? e1)))
    · obtain ⟨h0, rfl⟩ := z0 hi e1
      rw [h0, I.len] at e2
      simp at e2
      obtain ⟨rfl, rfl⟩ := e2
      exact o1
  · intro c hc q
    rcases List.mem_append.mp hc with hc | hc
    · exact I.nB c hc (.inl q)
    · simp at hc; exact nb (hc ▸ q)
  · intro c hc
    rcases List.mem_append.mp hc with hc | hc
    · exact I.new c hc
    · simp at hc; exact hc ▸ ha
  · obtain ⟨o0, es, ep, e0, d0⟩ := hd
    have nP : t.P ≠ a := fun q => by
      obtain ⟨o', vs, e', d', _⟩ := (I.tab t ht).data
      rw [q, e0] at e'; cases e'; rw [d0] at d'; cases d'
    rcases I.tab t ht with e | ⟨c', e, c, o, vs, tt, q1, q2, q3, q4⟩
    · exact .inl (ne _ _ e nP)
    · cases q1
      refine .inr ⟨c', ne _ _ e nP, _, o, vs, tt, rfl, ne _ _ q2 ?_, q3, q4⟩
      intro q; subst q
      rw [e0] at q2; cases q2; rw [d0] at q3; cases q3
  · obtain ⟨o0, es, ep, e0, d0⟩ := hd
    obtain ⟨o', vs, e', d', _⟩ := (I.tab t ht).data
    rw [q, e0] at e'; cases e'; rw [d0] at d'; cases d'
  · obtain ⟨o, e⟩ := I.exB c (.inl b)
    exact ⟨o, ne c o e fun q => nb (q ▸ b)⟩

theorem adopt_fr {a : Addr} (I : Inv X (fun c => B c ∨ c = a) M σ h) (hs : Heap.SameBut a h h') {x : F} {v : Value} {y : F} (r : FRx X h (Bad (fun c => B c ∨ c = a) M σ) v y) : FRx X h' (Bad B (M ++ [a]) (σ ++ [(x, true)])) v y := by
  have z0 : ∀ {i : Nat} {c : Addr}, M.length ≤ i → (M ++ [a])[i]? = some c → c = a := fun {i c} hi e1 => by
    rw [List.getElem?_append_right hi] at e1
    have h0 : i - M.length = 0 := by
      have := (List.getElem?_eq_some_iff.mp e1).1; simp at this; lia
    rw [h0] at e1; simp at e1
    exact e1.symm
  refine r.mono (fun c o n e => (hs.2 c (fun q => n (.inl (.inr q)))).trans e) (fun c o e q => q.elim (fun b => .inl (.inl b)) fun ⟨i, z, e1, e2⟩ => ?_)
  by_cases hc : c = a
  · exact .inl (.inr hc)
  · rcases Nat.lt_or_ge i M.length with hi | hi
    · rw [List.getElem?_append_left hi] at e1
      rw [List.getElem?_append_left (I.len ▸ hi)] at e2
      exact .inr ⟨i, z, e1, e2⟩
    · exact absurd (z0 hi e1) hc

/-- a frame, by what lasts of it -/
theorem ER.map {B' : Addr → Prop} {M' : List Addr} {σ' : St} (R : ER X B env fr M σ h) (f : ∀ v x, FRx X h (Bad B M σ) v x → FRx X h' (Bad B' M' σ') v x) (pre : ∀ (k : Nat) (a : Addr), M[k]? = some a → M'[k]? = some a)
    (hl : ∀ m, h.Ns env.locals m → h'.Ns env.locals m) (hc : ∀ x c ov, env.cells.lookup x = some c → h.IsCell c ov → h'.IsCell c ov)
    (hf : ∀ a o, h.get? a = some o → (∃ fd, o.data = .func fd) → h'.get? a = some o) (hr : ∀ a o vs, h.get? a = some o → o.data = .fields vs → (∃ q t, vs[1]? = some (.str q t)) → h'.get? a = some o)
    (lB : B' env.locals) (cB : ∀ x c, env.cells.lookup x = some c → B' c) : ER X B' env fr M' σ' h' := by
  have g : ∀ v x, AR X B M σ h v x → AR X B' M' σ' h' v x := fun v x r => by
    cases x with
    | v x => exact f _ _ r
    | r k => obtain ⟨a, e, q⟩ := r; exact ⟨a, pre k a e, q⟩
  exact { R with
    ns := let ⟨m, n, r⟩ := R.ns; ⟨m, hl m n, fun x a e => let ⟨v, e1, q⟩ := r x a e; ⟨v, e1, g _ _ q⟩⟩
    cello := fun x c e => let ⟨⟨ov, a⟩, _, d⟩ := R.cello x c e; ⟨⟨ov, hc x c ov e a⟩, cB x c e, d⟩
    celv := fun x a c e e' => let ⟨v, q, r⟩ := R.celv x a c e e'; ⟨v, hc x c _ e' q, g _ _ r⟩
    lB := lB
    clo := fun y d e => ⟨(R.clo y d e).1.keep (fun c ov e1 q => hc y c ov e1 q) hf hr, (R.clo y d e).2⟩ }

/-- what is kept apart besides -/
theorem Inv.more (I : Inv X B M σ h) {S : Addr → Prop} (hM : ∀ a ∈ M, ¬ S a) (hx : ∀ a, S a → ∃ o, h.get? a = some o)
    (r : ∀ v x, FRx X h (Bad B M σ) v x → FRx X h (Bad (fun c => B c ∨ S c) M σ) v x) (rs : ∀ v x, FRsx X h (Bad B M σ) v x → FRsx X h (Bad (fun c => B c ∨ S c) M σ) v x) : Inv X (fun c => B c ∨ S c) M σ h where
  len := I.len
  nd := I.nd
  ob := fun k a x b e e' => by
    have := I.ob k a x b e e'
    cases x with
    | lst xs => obtain ⟨vs, n, e, q⟩ := this; exact ⟨vs, n, e, rs _ _ q⟩
    | dct kvs => obtain ⟨es, d, q, c, q'⟩ := this; exact ⟨es, d, q, c, rs _ _ q'⟩
    | _ => exact this.elim
  nB := fun a ha q => q.elim (I.nB a ha) (hM a ha)
  base := I.base
  new := I.new
  tab := I.tab
  tabB := fun t ht => .inl (I.tabB t ht)
  exB := fun a q => q.elim (I.exB a) (hx a)
theorem Inv.less {S : Addr → Prop} (I : Inv X (fun c => B c ∨ S c) M σ h) (tb : ∀ t ∈ X.tabs, B t.P) : Inv X B M σ h where
  len := I.len
  nd := I.nd
  ob := fun k a x b e e' => (I.ob k a x b e e').mono (fun _ _ _ e => e) (fun _ _ _ q => q.elim (fun b => .inl (.inl b)) .inr) (fun _ e => e)
  nB := fun a ha q => I.nB a ha (.inl q)
  base := I.base
  new := I.new
  tab := I.tab
  tabB := tb
  exB := fun a q => I.exB a (.inl q)
theorem FR.less {S : Addr → Prop} {v : Value} {x : F} (r : FRx X h (Bad (fun c => B c ∨ S c) M σ) v x) : FRx X h (Bad B M σ) v x :=
  r.mono (fun _ _ _ e => e) (fun _ _ _ q => q.elim (fun b => .inl (.inl b)) .inr)
theorem FRs.less {S : Addr → Prop} {v : List Value} {x : List F} (r : FRsx X h (Bad (fun c => B c ∨ S c) M σ) v x) : FRsx X h (Bad B M σ) v x :=
  r.mono (fun _ _ _ e => e) (fun _ _ _ q => q.elim (fun b => .inl (.inl b)) .inr)
theorem AR.less {S : Addr → Prop} {v : Value} {x : Mine.A} (r : AR X (fun c => B c ∨ S c) M σ h v x) : AR X B M σ h v x := by
  cases x with
  | v x => exact FR.less r
  | r k => exact r
theorem AR.more {S : Addr → Prop} (f : ∀ v x, FRx X h (Bad B M σ) v x → FRx X h (Bad (fun c => B c ∨ S c) M σ) v x) {v : Value} {x : Mine.A} (r : AR X B M σ h v x) : AR X (fun c => B c ∨ S c) M σ h v x := by
  cases x with
  | v x => exact f _ _ r
  | r k => exact r
theorem ER.more {S : Addr → Prop} (R : ER X B env fr M σ h) (f : ∀ v x, FRx X h (Bad B M σ) v x → FRx X h (Bad (fun c => B c ∨ S c) M σ) v x) : ER X (fun c => B c ∨ S c) env fr M σ h :=
  { R with
    ns := let ⟨m, n, r⟩ := R.ns; ⟨m, n, fun x a e => let ⟨v, e1, q⟩ := r x a e; ⟨v, e1, q.more f⟩⟩
    cello := fun x c e => let ⟨a, b, c⟩ := R.cello x c e; ⟨a, .inl b, c⟩
    celv := fun x a c e e' => let ⟨v, q, r⟩ := R.celv x a c e e'; ⟨v, q, r.more f⟩
    lB := .inl R.lB }
theorem ER.less {S : Addr → Prop} (R : ER X (fun c => B c ∨ S c) env fr M σ h) (lB : B env.locals) (cB : ∀ x c, env.cells.lookup x = some c → B c) : ER X B env fr M σ h :=
  { R with
    ns := let ⟨m, n, r⟩ := R.ns; ⟨m, n, fun x a e => let ⟨v, e1, q⟩ := r x a e; ⟨v, e1, q.less⟩⟩
    cello := fun x c e => let ⟨a, _, d⟩ := R.cello x c e; ⟨a, cB x c e, d⟩
    celv := fun x a c e e' => let ⟨v, q, r⟩ := R.celv x a c e e'; ⟨v, q, r.less⟩
    lB := lB }
theorem ER.cB (R : ER X B env fr M σ h) : ∀ x c, env.cells.lookup x = some c → B c := fun x c e => (R.cello x c e).2.1
/-- what is new in h' is nothing that was laid before -/
theorem FR.fresh {S : Addr → Prop} (k : ∀ a o, h.get? a = some o → h'.get? a = some o) (hS : ∀ a, S a → h.get? a = Option.none) {v : Value} {x : F} (r : FRx X h (Bad B M σ) v x) : FRx X h' (Bad (fun c => B c ∨ S c) M σ) v x :=
  r.mono (fun a o _ e => k a o e) (fun a o e q => q.elim (fun q => q.elim .inl fun s => by rw [hS a s] at e; cases e) .inr)
theorem FRs.fresh {S : Addr → Prop} (k : ∀ a o, h.get? a = some o → h'.get? a = some o) (hS : ∀ a, S a → h.get? a = Option.none) {v : List Value} {x : List F} (r : FRsx X h (Bad B M σ) v x) : FRsx X h' (Bad (fun c => B c ∨ S c) M σ) v x :=
  r.mono (fun a o _ e => k a o e) (fun a o e q => q.elim (fun q => q.elim .inl fun s => by rw [hS a s] at e; cases e) .inr)
theorem AR.fresh {S : Addr → Prop} (k : ∀ a o, h.get? a = some o → h'.get? a = some o) (hS : ∀ a, S a → h.get? a = Option.none) {v : Value} {x : Mine.A} (r : AR X B M σ h v x) : AR X (fun c => B c ∨ S c) M σ h' v x := by
  cases x with
  | v x => exact FR.fresh k hS r
  | r k => exact r
theorem Inv.fresh {S : Addr → Prop} (I : Inv X B M σ h) (k : ∀ a o, h.get? a = some o → h'.get? a = some o) (hS : ∀ a, S a → h.get? a = Option.none) (hx : ∀ a, S a → ∃ o, h'.get? a = some o) : Inv X (fun c => B c ∨ S c) M σ h' where
  len := I.len
  nd := I.nd
  ob := fun i a x b e e' => (I.ob i a x b e e').mono (fun a o _ e => k a o e) (fun a o e q => q.elim (fun q => q.elim .inl fun s => by rw [hS a s] at e; cases e) .inr) (fun o e => k a o e)
  nB := fun a ha q => q.elim (I.nB a ha) fun s => by
    obtain ⟨i, hi, e⟩ := List.mem_iff_getElem.mp ha
    have h2 : i < σ.length := I.len ▸ hi
    obtain ⟨o', e'⟩ := (I.ob i _ σ[i].1 σ[i].2 (List.getElem?_eq_getElem hi) (List.getElem?_eq_getElem h2)).get
    rw [e, hS a s] at e'; cases e'
  base := fun a o e => k a o (I.base a o e)
  new := I.new
  tab := fun t ht => (I.tab t ht).ext k
  tabB := fun t ht => .inl (I.tabB t ht)
  exB := fun a q => q.elim (fun b => let ⟨o, e⟩ := I.exB a b; ⟨o, k a o e⟩) (hx a)
theorem ER.fresh {S : Addr → Prop} (R : ER X B env fr M σ h) (I : Inv X B M σ h) (k : ∀ a o, h.get? a = some o → h'.get? a = some o) (hS : ∀ a, S a → h.get? a = Option.none) : ER X (fun c => B c ∨ S c) env fr M σ h' :=
  { R.ext I k with
    ns := let ⟨m, n, r⟩ := R.ns; ⟨m, n.keeps k, fun x a e => let ⟨v, e1, q⟩ := r x a e; ⟨v, e1, q.fresh k hS⟩⟩
    cello := fun x c e => let ⟨⟨ov, a⟩, b, c⟩ := R.cello x c e; ⟨⟨ov, a.keeps k⟩, .inl b, c⟩
    celv := fun x a c e e' => let ⟨v, q, r⟩ := R.celv x a c e e'; ⟨v, q.keeps k, r.fresh k hS⟩
    lB := .inl R.lB }
end

theorem stored_dset {prog : Program} {w : World} {h : Heap} {bad : Addr → Prop} {k : Int} {v : Value} {y : F} (ry : FR prog w h bad v y) : ∀ {es : List (Int × Value)} {kvs : List (Int × F)}, es.map (·.1) = kvs.map (·.1) → (es.map (·.1)).Nodup →
    FRs prog w h bad (es.map (·.2)) (kvs.map (·.2)) → (stored es k v).map (·.1) = (dset k y kvs).map (·.1) ∧ FRs prog w h bad ((stored es k v).map (·.2)) ((dset k y kvs).map (·.2))
  | [], [], _, _, _ => by simp [stored, dset]; exact .cons ry .nil
  | [], _ :: _, q, _, _ => by simp at q
  | _ :: _, [], q, _, _ => by simp at q
  | (a, u) :: es, (b, z) :: kvs, q, nd, r => by
    simp only [List.map_cons, List.cons.injEq] at q
    obtain ⟨rfl, q⟩ := q
    simp only [List.map_cons, List.nodup_cons] at nd
    cases r with
    | cons r1 r2 =>
      have ih := stored_dset ry q nd.2 r2 (k := k)
      unfold dset
      by_cases hk : k = a
      · subst hk
        rw [if_pos rfl]
        have hm : es.map (fun kv => if kv.1 = k then (kv.1, v) else kv) = es := by
          have : ∀ kv ∈ es, (if kv.1 = k then (kv.1, v) else kv) = kv := fun kv hkv => if_neg fun e => nd.1 (List.mem_map.mpr ⟨kv, hkv, e⟩)
          rw [List.map_congr_left this]; simp
        have hst : stored ((k, u) :: es) k v = (k, v) :: es := by
          unfold stored
          simp only [List.any_cons, decide_true, Bool.true_or, if_true, List.map_cons, hm]
        rw [hst]
        exact ⟨by simp [q], .cons ry r2⟩
      · rw [if_neg hk]
        have hst : stored ((a, u) :: es) k v = (a, u) :: stored es k v := by
          unfold stored
          have hd : decide (a = k) = false := decide_eq_false fun e => hk e.symm
          simp only [List.any_cons, hd, Bool.false_or, List.map_cons]
          split
          · rw [if_neg (show ¬ a = k from fun e => hk e.symm)]
          · rfl
        rw [hst]
        exact ⟨by simp [ih.1], .cons r1 ih.2⟩
end Mine
namespace Mine
open PySem PySem.W PyProof.Rows PySem.Spec

section
variable {X : Cx} {n : Nat} {A : Around} {B : Addr → Prop} {env : Env} {fr : Fm} {M : List Addr} {σ : St} {s : Shared} {a : Mine.A} {σ' : St} {Q : Value → Shared → Prop} {E : Value → Shared → Prop}

theorem frs_rep {prog : Program} {w : World} {h : Heap} {bad : Addr → Prop} {vs : List Value} {xs : List F} (f : FRs prog w h bad vs xs) : ∀ k : Nat, FRs prog w h bad (List.replicate k vs).flatten (List.replicate k xs).flatten
  | 0 => .nil
  | k + 1 => by simp only [List.replicate_succ, List.flatten_cons]; exact f.append (frs_rep f k)
theorem ER.kpL {X : Cx} {M M' : List Addr} {σ σ' : St} {h h' : Heap} {B : Addr → Prop} {env : Env} {fr : Fm} (R : ER X B env fr M σ h) (I : Inv X B M σ h) (K : Kp X (fun a => a = env.locals) M σ h M' σ' h')
    (hl : ∀ m, h.Ns env.locals m → h'.Ns env.locals m) : ER X B env fr M' σ' h' :=
  R.kp I K (fun a q => q ▸ R.lB) (fun a o e q => .inl (by subst q; obtain ⟨m, ⟨o', es, ep, e', d, _⟩, _⟩ := R.ns; rw [e] at e'; cases e'; exact ⟨_, _, d⟩)) hl (fun y c e q => R.cnloc e q)
theorem no_set {op : CmpOp} {r : Expr} (e : plainE r = true) : behindInMarks op r = false := by
  unfold behindInMarks
  split
  · cases e
  · rfl
theorem no_star {r : Expr} (e : plainE r = true) : ∀ (v : Expr) (p : Pos), r ≠ .Starred v p := fun v p q => by
  subst q; cases e
theorem starEach_plain {r : Expr} {rest : List Expr} (h : ∀ (v : Expr) (p : Pos), r ≠ .Starred v p) : starEach (r :: rest) env = (false, eval r env) :: starEach rest env := by
  cases r <;> first | rfl | exact absurd rfl (h _ _)
theorem nameOk_at {x : Str} (h : nameOk x = true) : (x == ("__debug__" : Str)) = false ∧ (x == ("__classdict__" : Str)) = false := by
  simpa [nameOk] using h

theorem PE.endx {h' h₂ : Heap} {tk : Nat} {M' : List Addr} {v : Value} (K : Kp X (fun a => a = env.locals) M σ s.heap M' σ' h') (I : Inv X B M' σ' h') (R : ER X B env fr M' σ' h') (x : Ex env.locals h' h₂)
    (r : AR X B M' σ' h₂ v a) : PE X B env fr M σ s a σ' v { s with heap := h₂, toks := tk } := by
  obtain ⟨I', R', K'⟩ := ex_ok I R x
  exact ⟨h₂, tk, M', I', R', K.tr K', r⟩
theorem Ex.refl {L : Addr} {h : Heap} : Ex L h h := .of fun _ _ e => e
theorem PE.end0 {h' : Heap} {tk : Nat} {M' : List Addr} {v : Value} (K : Kp X (fun a => a = env.locals) M σ s.heap M' σ' h') (I : Inv X B M' σ' h') (R : ER X B env fr M' σ' h')
    (r : AR X B M' σ' h' v a) : PE X B env fr M σ s a σ' v { s with heap := h', toks := tk } := ⟨h', tk, M', I, R, K, r⟩

theorem ev_Name {x : Str} {p : Pos} (hn : nameOk x = true) (hg : fr.get x = some a) (I : Inv X B M σ s.heap) (R : ER X B env fr M σ s.heap) (hQ : ∀ v s', PE X B env fr M σ s a σ v s' → Q v s') :
    wpAny (model X.prog X.w) A (eval (.Name x p) env) Q E s :=
  wpAny_Name (ld_name R hg (fun v r => hQ v s ⟨s.heap, s.toks, M, I, R, .refl, r⟩) (nameOk_at hn).2) (nameOk_at hn).1
theorem ev_lim (ok : X.Ok) {p : Pos} (hk : fr.kind (Str.ofString "_DIV_LIMIT") = some .globalImplicit) (I : Inv X B M σ s.heap) (R : ER X B env fr M σ s.heap) (hQ : ∀ v s', PE X B env fr M σ s (.v (.int 4000)) σ v s' → Q v s') :
    wpAny (model X.prog X.w) A (eval (.Name (Str.ofString "_DIV_LIMIT") p) env) Q E s := by
  obtain ⟨t, ht⟩ := ok.lim
  refine Calls.Name_function_global R.kind (R.kg _ hk) (Calls.loadGlobal_global (mg := X.mg) (R.glob ▸ ok.g.keeps I.base) ht ?_) (by kernel_rfl)
  exact hQ _ s ⟨s.heap, s.toks, M, I, R, .refl, .int _ _⟩

theorem ev_BinOp (hE : SEval X n) {l r : Expr} {op : Operator} {p : Pos} (rm : Room A (n + 1)) {σ1 : St} {a1 a2 : Mine.A} {x y z : F} (e1 : (lev n).ev fr σ l a1 σ1) (e2 : (lev n).ev fr σ1 r a2 σ') (ex : a1.get σ' = some x) (ey : a2.get σ' = some y) (ez : BinR op x y z)
    (I : Inv X B M σ s.heap) (R : ER X B env fr M σ s.heap) (hQ : ∀ v s', PE X B env fr M σ s (.v z) σ' v s' → Q v s') : wpAny (model X.prog X.w) A (eval (.BinOp l op r p) env) Q E s := by
  refine wpAny_BinOp (hE rm.down I R e1 fun v1 s1 p1 => ?_)
  obtain ⟨h1, tk1, M1, I1, R1, K1, r1⟩ := p1
  refine hE rm.down I1 R1 e2 fun v2 s2 p2 => ?_
  obtain ⟨h2, tk2, M2, I2, R2, K2, r2⟩ := p2
  exact binop_ok I2 R2 (I2.read (r1.kp I1 K2 (fun a q => q ▸ R1.lB)) ex) (I2.read r2 ey) ez fun v h' tk ex fr => hQ _ _ (PE.endx (K1.tr K2) I2 R2 ex fr)

theorem ev_rep (hE : SEval X n) {l r : Expr} {p : Pos} (rm : Room A (n + 1)) {σ1 : St} {a1 : Mine.A} {xs : List F} {i : Int} (e1 : (lev n).ev fr σ l a1 σ1) (e2 : (lev n).ev fr σ1 r (.v (.int i)) σ') (ex : a1.get σ' = some (.lst xs)) (h0 : 0 ≤ i) (h1' : i ≤ 64) (h2' : xs.length ≤ 64)
    (I : Inv X B M σ s.heap) (R : ER X B env fr M σ s.heap) (hQ : ∀ v s', PE X B env fr M σ s (.r σ'.length) (σ' ++ [(.lst (List.replicate i.toNat xs).flatten, true)]) v s' → Q v s') : wpAny (model X.prog X.w) A (eval (.BinOp l .Mult r p) env) Q E s := by
  refine wpAny_BinOp (hE rm.down I R e1 fun v1 s1 p1 => ?_)
  obtain ⟨h1, tk1, M1, I1, R1, K1, r1⟩ := p1
  refine hE rm.down I1 R1 e2 fun v2 s2 p2 => ?_
  obtain ⟨h2, tk2, M2, I2, R2, K2, r2⟩ := p2
  obtain ⟨a, vs, rfl, hl, f⟩ := I2.read (r1.kp I1 K2 (fun a q => q ▸ R1.lB)) ex
  cases r2
  have hlen := f.length
  refine mul_list_at hl h0 h1' (by lia) (hQ _ _ ?_)
  obtain ⟨I3, K3, r3⟩ := new_ok (C := fun a => a = env.locals) I2 (h' := h2.push (listOf (List.replicate i.toNat vs).flatten.toArray 0)) (x := .lst (List.replicate i.toNat xs).flatten) (size_none h2) (fun _ _ e => Heap.get?_push_of_some _ e)
    (fun bad' hb' => ⟨_, 0, Heap.get?_push_size _ rfl, (frs_rep f i.toNat).mono (fun _ _ _ e => Heap.get?_push_of_some _ e) hb'⟩)
  exact ⟨_, _, _, I3, R2.kpL I2 K3 (fun m n => n.keeps fun _ _ e => Heap.get?_push_of_some _ e), (K1.tr K2).tr K3, r3⟩
end
end Mine

namespace Mine
open PySem PySem.W PyProof.Rows PySem.Spec
section
variable {X : Cx} {n : Nat} {A : Around} {B : Addr → Prop} {env : Env} {fr : Fm} {M : List Addr} {σ : St} {s : Shared} {a : Mine.A} {σ' : St} {Q : Value → Shared → Prop} {E : Value → Shared → Prop}

theorem ev_UnaryOp (hE : SEval X n) {e : Expr} {op : UnaryOp} {p : Pos} (rm : Room A (n + 1)) {x z : F} (e1 : (lev n).ev fr σ e (.v x) σ') (ez : UnR op x z)
    (I : Inv X B M σ s.heap) (R : ER X B env fr M σ s.heap) (hQ : ∀ v s', PE X B env fr M σ s (.v z) σ' v s' → Q v s') : wpAny (model X.prog X.w) A (eval (.UnaryOp op e p) env) Q E s := by
  refine wpAny_UnaryOp (hE rm.down I R e1 fun v1 s1 p1 => ?_)
  obtain ⟨h1, tk1, M1, I1, R1, K1, r1⟩ := p1
  exact unop_ok (show FRx X h1 (Bad B M1 _) v1 x from r1) ez fun v tk fr => hQ _ _ (PE.end0 K1 I1 R1 fr)

theorem ev_BoolOp (hE : SEval X n) {l r : Expr} {op : BoolOp} {p : Pos} (rm : Room A (n + 1)) {σ1 : St} {b : Bool} (e1 : (lev n).ev fr σ l (.v (.bool b)) σ1) (e2 : (short op b = true ∧ a = .v (.bool b) ∧ σ' = σ1) ∨ (short op b = false ∧ (lev n).ev fr σ1 r a σ'))
    (I : Inv X B M σ s.heap) (R : ER X B env fr M σ s.heap) (hQ : ∀ v s', PE X B env fr M σ s a σ' v s' → Q v s') : wpAny (model X.prog X.w) A (eval (.BoolOp op [l, r] p) env) Q E s := by
  have fin : ∀ {h1 : Heap} {tk1 : Nat} {M1 : List Addr} {v1 : Value}, Inv X B M1 σ1 h1 → ER X B env fr M1 σ1 h1 → Kp X (fun a => a = env.locals) M σ s.heap M1 σ1 h1 → AR X B M1 σ1 h1 v1 (.v (.bool b)) →
      v1 = .bool b ∧ (short op b = true → Q (.bool b) { s with heap := h1, toks := tk1 }) ∧ (short op b = false → wpAny (model X.prog X.w) A (eval r env) Q E { s with heap := h1, toks := tk1 }) := fun I1 R1 K1 r1 => by
    cases r1
    refine ⟨rfl, fun q => ?_, fun q => ?_⟩
    · rcases e2 with ⟨_, rfl, rfl⟩ | ⟨q', _⟩
      · exact hQ _ _ (PE.end0 K1 I1 R1 (.bool _))
      · rw [q] at q'; cases q'
    · rcases e2 with ⟨q', _⟩ | ⟨_, e2⟩
      · rw [q] at q'; cases q'
      · exact hE rm.down I1 R1 e2 fun v s' p => hQ _ _ (PE.tr K1 p)
  cases op with
  | And =>
    refine wpAny_And2 (hE rm.down I R e1 fun v1 s1 p1 => ?_)
    obtain ⟨h1, tk1, M1, I1, R1, K1, r1⟩ := p1
    obtain ⟨rfl, f1, f2⟩ := fin (tk1 := tk1) I1 R1 K1 r1
    refine wpAny_truthy_bool ?_
    cases b with
    | false => exact f1 rfl
    | true => exact f2 rfl
  | Or =>
    refine wpAny_Or2 (hE rm.down I R e1 fun v1 s1 p1 => ?_)
    obtain ⟨h1, tk1, M1, I1, R1, K1, r1⟩ := p1
    obtain ⟨rfl, f1, f2⟩ := fin (tk1 := tk1) I1 R1 K1 r1
    refine wpAny_truthy_bool ?_
    cases b with
    | true => exact f1 rfl
    | false => exact f2 rfl

theorem ev_IfExp (hE : SEval X n) (hT : STest X n) {t b o : Expr} {p : Pos} (rm : Room A (n + 1)) {σ1 : St} {c : Bool} (e1 : (lev n).test fr σ t c σ1) (e2 : (lev n).ev fr σ1 (if c = true then b else o) a σ')
    (I : Inv X B M σ s.heap) (R : ER X B env fr M σ s.heap) (hQ : ∀ v s', PE X B env fr M σ s a σ' v s' → Q v s') : wpAny (model X.prog X.w) A (eval (.IfExp t b o p) env) Q E s := by
  refine wpAny_IfExp (hT rm.down I R e1 fun s1 p1 => ?_)
  obtain ⟨h1, tk1, M1, I1, R1, K1, _⟩ := p1
  cases c <;> exact hE rm.down I1 R1 e2 fun v s' p => hQ _ _ (PE.tr (tk := tk1) K1 p)

theorem ev_Compare (hE : SEval X n) {l r : Expr} {op : CmpOp} {p : Pos} (rm : Room A (n + 1)) {σ1 : St} {a1 a2 : Mine.A} {x y : F} {z : Bool} (hr : plainE r = true) (e1 : (lev n).ev fr σ l a1 σ1) (e2 : (lev n).ev fr σ1 r a2 σ') (ex : a1.get σ' = some x) (ey : a2.get σ' = some y) (ez : CmpR op x y z)
    (I : Inv X B M σ s.heap) (R : ER X B env fr M σ s.heap) (hQ : ∀ v s', PE X B env fr M σ s (.v (.bool z)) σ' v s' → Q v s') : wpAny (model X.prog X.w) A (eval (.Compare l [op] [r] p) env) Q E s := by
  refine wpAny_Compare1 (hE rm.down I R e1 fun v1 s1 p1 => ?_) (no_set hr)
  obtain ⟨h1, tk1, M1, I1, R1, K1, r1⟩ := p1
  refine hE rm.down I1 R1 e2 fun v2 s2 p2 => ?_
  obtain ⟨h2, tk2, M2, I2, R2, K2, r2⟩ := p2
  exact cmp_ok rm.units1 (I2.read (r1.kp I1 K2 (fun a q => q ▸ R1.lB)) ex) (I2.read r2 ey) ez fun tk => hQ _ _ (PE.end0 (K1.tr K2) I2 R2 (.bool _))

theorem ev_List0 {p : Pos}
    (I : Inv X B M σ s.heap) (R : ER X B env fr M σ s.heap) (hQ : ∀ v s', PE X B env fr M σ s (.r σ.length) (σ ++ [(.lst [], true)]) v s' → Q v s') : wpAny (model X.prog X.w) A (eval (.List [] p) env) Q E s := by
  refine List_ (Calls.spliced_nil (wpAny_newList (hQ _ _ ?_)))
  have k : ∀ b o, s.heap.get? b = some o → (s.heap.push (listOf (List.toArray []) 0)).get? b = some o := fun _ _ e => Heap.get?_push_of_some _ e
  obtain ⟨I3, K3, r3⟩ := new_ok (C := fun a => a = env.locals) I (h' := s.heap.push (listOf (List.toArray []) 0)) (x := .lst []) (size_none _) k (fun bad' hb' => ⟨[], 0, Heap.get?_push_size _ rfl, .nil⟩)
  exact ⟨_, s.toks, _, I3, R.kpL I K3 (fun m n => n.keeps k), K3, r3⟩

theorem ev_List (hL : SList X n) {es : List Expr} {p : Pos} (rm : Room A (n + 1)) {xs : List F} (ex : ListR (lev n) fr es σ xs σ') (hz : xs.length ≤ 4096)
    (I : Inv X B M σ s.heap) (R : ER X B env fr M σ s.heap) (hQ : ∀ v s', PE X B env fr M σ s (.v (.lst xs)) σ' v s' → Q v s') : wpAny (model X.prog X.w) A (eval (.List es p) env) Q E s := by
  refine List_ (hL rm.down I R ex fun vs s' p' => ?_)
  obtain ⟨h1, tk1, M1, I1, R1, K1, f⟩ := p'
  have hl := f.length
  have x : Ex env.locals h1 (h1.push (listOf vs.toArray 0)) := .of fun _ _ e => Heap.get?_push_of_some _ e
  exact wpAny_newList (hQ _ _ (PE.endx K1 I1 R1 x (fr_list I1 R1 x (size_none _) ⟨_, Heap.get?_push_size _ rfl, rfl, _, rfl⟩ f))) (by show _ ≤ 16777216; lia)

theorem ev_Tuple (hL : SList X n) {es : List Expr} {k : Nat} {p : Pos} (rm : Room A (n + 1)) {xs : List F} (ex : ListR (lev n) fr es σ xs σ') (hz : xs.length ≤ 4096)
    (I : Inv X B M σ s.heap) (R : ER X B env fr M σ s.heap) (hQ : ∀ v s', PE X B env fr M σ s (.v (.tup xs)) σ' v s' → Q v s') : wpAny (model X.prog X.w) A (eval (.Tuple es k p) env) Q E s := by
  refine Tuple_ (hL rm.down I R ex fun vs s' p' => ?_)
  obtain ⟨h1, tk1, M1, I1, R1, K1, f⟩ := p'
  have hl := f.length
  have x : Ex env.locals h1 (h1.push ({ cls := .type "tuple", data := .seq vs.toArray } : Obj)) := .of fun _ _ e => Heap.get?_push_of_some _ e
  exact wpAny_newTuple (hQ _ _ (PE.endx K1 I1 R1 x (fr_tup I1 R1 x (size_none _) ⟨_, Heap.get?_push_size _ rfl, rfl, _, rfl⟩ f))) (by show _ ≤ 16777216; lia)

theorem ev_Dict0 {p : Pos} (hm : sysModules < s.heap.objs.size)
    (I : Inv X B M σ s.heap) (R : ER X B env fr M σ s.heap) (hQ : ∀ v s', PE X B env fr M σ s (.r σ.length) (σ ++ [(.dct [], true)]) v s' → Q v s') : wpAny (model X.prog X.w) A (eval (.Dict [] [] p) env) Q E s := by
  refine wpAny_Dict_empty (hQ _ _ ?_)
  have k : ∀ b o, s.heap.get? b = some o → (s.heap.push ({ cls := .type "dict", data := .dict #[] } : Obj)).get? b = some o := fun _ _ e => Heap.get?_push_of_some _ e
  obtain ⟨I3, K3, r3⟩ := new_ok (C := fun a => a = env.locals) I (h' := s.heap.push ({ cls := .type "dict", data := .dict #[] } : Obj)) (x := .dct []) (size_none _) k
    (fun bad' hb' => ⟨[], Heap.DictOf.new s.heap, (beq_eq_false_iff_ne).mpr (Nat.ne_of_gt hm), rfl, .nil⟩)
  exact ⟨_, s.toks, _, I3, R.kpL I K3 (fun m n => n.keeps k), K3, r3⟩

theorem ev_Dict1 (hE : SEval X n) {k x : Expr} {p : Pos} (rm : Room A (n + 1)) (hm : sysModules < s.heap.objs.size) {i : Int} {σ1 σ2 σ3 : St} {a2 : Mine.A} {y : F} (e1 : (lev n).ev fr σ k (.v (.int i)) σ1) (e2 : (lev n).ev fr σ1 x a2 σ2) (e3 : a2.fz σ2 = some (y, σ3))
    (I : Inv X B M σ s.heap) (R : ER X B env fr M σ s.heap) (hQ : ∀ v s', PE X B env fr M σ s (.r σ3.length) (σ3 ++ [(.dct [(i, y)], true)]) v s' → Q v s') : wpAny (model X.prog X.w) A (eval (.Dict [some k] [x] p) env) Q E s := by
  refine wpAny_Dict_walk (knd := intKind X.prog X.w) rfl rfl (by simp) (by simp) (pairTrees_cons_walk ?_)
  have k0 : ∀ b o, s.heap.get? b = some o → (s.heap.push ({ cls := .type "dict", data := .dict #[] } : Obj)).get? b = some o := fun _ _ e => Heap.get?_push_of_some _ e
  have hS : ∀ a, (fun c => c = s.heap.objs.size) a → s.heap.get? a = none := fun a q => by rw [show a = _ from q]; exact size_none _
  have I0 := I.fresh k0 hS (fun a q => ⟨({ cls := .type "dict", data := .dict #[] } : Obj), by rw [show a = _ from q]; exact Heap.get?_push_size _ rfl⟩)
  have R0 := R.fresh I k0 hS
  refine hE rm.down I0 R0 e1 fun v1 s1 p1 => ?_
  obtain ⟨h1, tk1, M1, I1, R1, K1, r1⟩ := p1
  refine hE rm.down I1 R1 e2 fun v2 s2 p2 => ?_
  obtain ⟨h2, tk2, M2, I2, R2, K2, r2⟩ := p2
  refine pairTrees_nil_walk ?_
  obtain ⟨I3, K3, r3⟩ := fz_ok (C := fun a => a = env.locals) I2 r2 e3
  have R3 := R2.kpL I2 K3 (fun _ n => n)
  have K := (K1.tr K2).tr K3
  cases r1
  have hLs : s.heap.objs.size ≠ env.locals := fun q => by
    obtain ⟨m, ⟨o, _, _, e', _⟩, _⟩ := R.ns
    rw [← q, size_none] at e'; cases e'
  have nl : ¬ Live M σ s.heap.objs.size := fun l => by
    obtain ⟨o, e', _⟩ := I.liveData l; rw [size_none] at e'; cases e'
  have nt : ∀ t ∈ X.tabs, s.heap.objs.size ≠ t.P := fun t ht q => by
    obtain ⟨o, vs, e', _⟩ := (I.tab t ht).data; rw [← q, size_none] at e'; cases e'
  have gd : h2.get? s.heap.objs.size = some ({ cls := .type "dict", data := .dict #[] } : Obj) := K.keep _ _ nl nt hLs (Heap.get?_push_size _ rfl)
  have dd : h2.DictOf (intKind X.prog X.w) s.heap.objs.size [] := DictOf.at (Heap.DictOf.new s.heap) fun o e => by
    rw [Heap.get?_push_size _ rfl] at e; cases e; exact gd
  refine ⟨[(i, v2)], ⟨intKind_is _ _ _ _, rfl, trivial⟩, dd, fun h' hd' hs' => hQ _ _ ?_⟩
  have hd1 : h'.DictOf (intKind X.prog X.w) s.heap.objs.size [(i, v2)] := hd'
  have nb : ¬ B s.heap.objs.size := fun b => by obtain ⟨o, e'⟩ := I.exB _ b; rw [size_none] at e'; cases e'
  have hb : X.base.get? s.heap.objs.size = none := by
    cases q : X.base.get? s.heap.objs.size with
    | none => rfl
    | some o => have := I.base _ _ q; rw [size_none] at this; cases this
  have I4 := adopt_ok I3 hb nb hs' (x := .dct [(i, y)]) ⟨_, _, _, gd, rfl⟩ (fun tr => ⟨[(i, v2)], hd1, (beq_eq_false_iff_ne).mpr (Nat.ne_of_gt hm), rfl, tr [v2] [y] (.cons r3 .nil)⟩)
  have gn : ∀ c o, s.heap.get? c = some o → c ≠ s.heap.objs.size := fun c o e q => by rw [q, size_none] at e; cases e
  have K4 : Kp X (fun a => a = env.locals) M σ s.heap (M2 ++ [s.heap.objs.size]) (σ3 ++ [(.dct [(i, y)], true)]) h' := by
    refine ⟨fun c o n t cc e => (hs'.2 c (gn c o e)).trans (K.keep c o n t cc (k0 c o e)), fun c o e => ?_, fun j hj => ?_, fun j c e hj => ?_, fun j z e hj => ?_⟩
    · obtain ⟨o', e'⟩ := K.ex c o (k0 c o e); exact ⟨o', (hs'.2 c (gn c o e)).trans e'⟩
    · rw [List.getElem?_append_left (Nat.lt_of_lt_of_le hj K.le)]; exact K.pre j hj
    · rcases Nat.lt_or_ge j M2.length with hj2 | hj2
      · rw [List.getElem?_append_left hj2] at e
        have := K.new j c e hj
        cases q : s.heap.get? c with
        | none => rfl
        | some o => have q' := k0 c o q; rw [show (s.heap.push _).get? c = none from this] at q'; cases q'
      · rw [List.getElem?_append_right hj2] at e
        have h0 : j - M2.length = 0 := by
          have := (List.getElem?_eq_some_iff.mp e).1; simp at this; lia
        rw [h0] at e; simp at e; subst e; exact size_none _
    · rw [List.getElem?_append_left (I3.len ▸ Nat.lt_of_lt_of_le hj K.le)] at e; exact K.liv j z e hj
  have nd : ∀ c o, h2.get? c = some o → (∀ es ep, o.data ≠ .dict es ep) → h'.get? c = some o := fun c o e n => (hs'.2 c (fun q => by
    rw [q, gd] at e; cases e; exact n _ _ rfl)).trans e
  have R4 : ER X B env fr (M2 ++ [s.heap.objs.size]) (σ3 ++ [(.dct [(i, y)], true)]) h' :=
    R3.map (fun _ _ r => adopt_fr I3 hs' r) (fun j c e => by rw [List.getElem?_append_left (List.getElem?_eq_some_iff.mp e).1]; exact e) (fun m n => n.sameBut hs' hLs.symm)
      (fun x c ov _ ⟨o, e, d⟩ => ⟨o, nd c o e (fun _ _ q => by rw [d] at q; cases q), d⟩) (fun a o e ⟨fd, d⟩ => nd a o e (fun _ _ q => by rw [d] at q; cases q))
      (fun a o vs e d _ => nd a o e (fun _ _ q => by rw [d] at q; cases q)) R.lB R.cB
  exact ⟨h', _, _, I4, R4, K4, ⟨_, by rw [← I3.len]; simp, rfl⟩⟩
end
end Mine
namespace Mine
open PySem PySem.W PyProof.Rows PySem.Spec
section
variable {X : Cx} {n : Nat} {A : Around} {B : Addr → Prop} {env : Env} {fr : Fm} {M : List Addr} {σ : St} {s : Shared} {a : Mine.A} {σ' : St} {Q : Value → Shared → Prop} {E : Value → Shared → Prop}

theorem max_toNat (x : Int) : (max 0 x).toNat = x.toNat := by
  rcases Int.le_total 0 x with h | h
  · rw [Int.max_eq_right h]
  · rw [Int.max_eq_left h, Int.toNat_of_nonpos h]; rfl
theorem slice_clip {n : Nat} {i : Int} : clipAt n i = clip n i := by
  unfold clipAt clip
  rw [max_toNat]
  split
  · rw [Int.min_eq_left (by lia)]
  · rcases Int.le_total i n with h | h
    · rw [Int.min_eq_left h, Nat.min_eq_left (Int.toNat_le.2 h)]
    · rw [Int.min_eq_right h, Nat.min_eq_right ((Int.le_toNat (by lia)).2 h)]; rfl

theorem slice_rule {o : Value} {value : Expr} {lo hi : Option Expr} {q p : Pos} {Q : Value → Shared → Prop} (h : wpAny (model X.prog X.w) A (eval value env) (fun o s₁ => wpAny (model X.prog X.w) A (evalPart lo env) (fun vl s₂ => wpAny (model X.prog X.w) A (evalPart hi env) (fun vu s₃ =>
      ∃ l items l' h', o = .ref l ∧ s₃.heap.IsList l items ∧ items.size ≤ sizeLine ∧ IsPart vl l' ∧ IsPart vu h' ∧
        Q (.ref (s₃.heap.objs.size + 1)) { s₃ with heap := (s₃.heap.push { cls := .type "slice", data := .fields #[vl, vu, .none] }).push { cls := .type "list", data := .seq (slicePick items l' h' none) } }) E s₂) E s₁) E s) :
    wpAny (model X.prog X.w) A (eval (.Subscript value (.Slice lo hi none q) p) env) Q E s := by
  refine Subscript_ (wpAny_mono h (fun o s₁ h₁ => wpAny_Slice (wpAny_mono h₁ (fun vl s₂ h₂ => wpAny_mono h₂ (fun vu s₃ h₃ => ?_) fun _ _ e => e) fun _ _ e => e)) fun _ _ e => e)
  obtain ⟨l, items, l', h', rfl, hl, hsz, pl, pu, hQ⟩ := h₃
  rw [evalPart_none]
  refine wpAny_pure (sub_any (hl.push _).typeIs list_getitem_lookup (wpAny_getItem_list_slice (hl.push _) (Heap.IsSliceOf.new ..) pl pu .none (by simp) ?_ hsz))
  rw [Heap.size_push]
  exact hQ

theorem ev_Slice (hE : SEval X n) (hP : SPart X n) {o : Expr} {lo hi : Option Expr} {q p : Pos} (rm : Room A (n + 1)) {σ1 σ2 : St} {a1 : Mine.A} {l h : Option Int} {xs : List F}
    (e1 : (lev n).ev fr σ o a1 σ1) (e2 : PartR (lev n) fr σ1 lo l σ2) (e3 : PartR (lev n) fr σ2 hi h σ') (ex : a1.get σ' = some (.lst xs)) (hz : xs.length ≤ 4096) (I : Inv X B M σ s.heap) (R : ER X B env fr M σ s.heap) (hQ : ∀ v s', PE X B env fr M σ s (.v (.lst (slc xs l h))) σ' v s' → Q v s') :
    wpAny (model X.prog X.w) A (eval (.Subscript o (.Slice lo hi none q) p) env) Q E s := by
  refine slice_rule (o := .none) (hE rm.down I R e1 fun v1 s1 p1 => ?_)
  obtain ⟨h1, tk1, M1, I1, R1, K1, r1⟩ := p1
  refine hP rm.down I1 R1 e2 fun v2 s2 i2 p2 => ?_
  obtain ⟨h2, tk2, M2, I2, R2, K2, _⟩ := p2
  refine hP rm.down I2 R2 e3 fun v3 s3 i3 p3 => ?_
  obtain ⟨h3, tk3, M3, I3, R3, K3, _⟩ := p3
  have r1 := (r1.kp I1 K2 (fun a q => q ▸ R1.lB)).kp I2 K3 (fun a q => q ▸ R2.lB)
  obtain ⟨a, vs, rfl, hl, f⟩ := I3.read r1 ex
  have hlen := f.length
  refine ⟨a, _, l, h, rfl, hl, by simp only [List.size_toArray]; show _ ≤ 16777216; lia, i2, i3, hQ _ _ (PE.endx ((K1.tr K2).tr K3) I3 R3 (.of fun _ _ e => Heap.get?_push_of_some _ (Heap.get?_push_of_some _ e)) ?_)⟩
  refine fr_list (vs := (slicePick vs.toArray l h none).toList) I3 R3 (.of fun _ _ e => Heap.get?_push_of_some _ (Heap.get?_push_of_some _ e)) (get_none_ge (Nat.le_succ _)) ?_ ?_
  · rw [show h3.objs.size + 1 = (h3.push { cls := .type "slice", data := .fields #[v2, v3, .none] }).objs.size from (Heap.size_push ..).symm]
    exact ⟨_, Heap.get?_push_size _ rfl, rfl, 0, by simp⟩
  · rw [slicePick_plain]
    unfold slc
    simp only [List.size_toArray, hlen]
    have e1 : l.elim 0 (clipAt xs.length) = l.elim 0 (clip xs.length) := by cases l <;> simp [slice_clip]
    have e2 : h.elim xs.length (clipAt xs.length) = h.elim xs.length (clip xs.length) := by cases h <;> simp [slice_clip]
    rw [e1, e2]
    exact (f.drop _).take _

theorem ev_Item (hE : SEval X n) {o i : Expr} {p : Pos} (hns : isSlice i = false) (rm : Room A (n + 1)) {σ1 : St} {a1 : Mine.A} {k : Int} {x y : F}
    (e1 : (lev n).ev fr σ o a1 σ1) (e2 : (lev n).ev fr σ1 i (.v (.int k)) σ') (ex : a1.get σ' = some x) (ey : ItR x k y) (hk : small k = true) (I : Inv X B M σ s.heap) (R : ER X B env fr M σ s.heap) (hQ : ∀ v s', PE X B env fr M σ s (.v y) σ' v s' → Q v s') :
    wpAny (model X.prog X.w) A (eval (.Subscript o i p) env) Q E s := by
  refine Subscript_ (hE rm.down I R e1 fun v1 s1 p1 => ?_)
  obtain ⟨h1, tk1, M1, I1, R1, K1, r1⟩ := p1
  refine hE rm.down I1 R1 e2 fun v2 s2 p2 => ?_
  obtain ⟨h2, tk2, M2, I2, R2, K2, r2⟩ := p2
  have sh := I2.read (r1.kp I1 K2 (fun a q => q ▸ R1.lB)) ex
  cases r2
  have hk := small_lt hk
  have fin : ∀ {v : Value} {tk : Nat}, FRx X h2 (Bad B M2 σ') v y → Q v { s with heap := h2, toks := tk } := fun r => hQ _ _ (PE.end0 (K1.tr K2) I2 R2 r)
  induction ey with
  | lst h0 ey =>
    obtain ⟨a, vs, rfl, hl, f⟩ := sh
    obtain ⟨v, ev, rv⟩ := f.get _ ey
    exact sub_any hl.typeIs list_getitem_lookup (wpAny_getItem_list hl h0 (by lia) (by simpa using ev) (fin rv))
  | @tup xs k y h0 ey =>
    obtain ⟨a, vs, rfl, hl, f⟩ := sh
    obtain ⟨v, ev, rv⟩ := f.get _ ey
    have hlt : k.toNat < vs.length := (List.getElem?_eq_some_iff.mp ev).1
    exact sub_any (T := "tuple") (IsTup.typeIs (s := { s with heap := h2, toks := tk2 }) hl) slot_tuple_getitem.lookup (getItem_tuple hl (by lia) (by lia) (j := k.toNat) (by unfold seqIndex?; simp; lia) (by simpa using ev) (fin rv))
  | @dct xs k y ey =>
    obtain ⟨a, es, rfl, d, ns, q, f⟩ := sh
    obtain ⟨v, ev, rv⟩ := (dget_lookup q f (k := k)).1 y ey
    exact sub_any d.typeIs slot_dict_getitem.lookup (wpAny_getItem_of (intKind_is _ _ _ _) d.mapOf ev (fin rv))
end
end Mine
namespace Mine
open PySem PySem.W PyProof.Rows PySem.Spec
section
variable {X : Cx} {n : Nat}

theorem PS.tr {B : Addr → Prop} {env : Env} {fr : Fm} {M M' : List Addr} {σ σ₁ σ' : St} {s : Shared} {h' : Heap} {tk : Nat} {R : List Addr → Heap → Prop} {s' : Shared}
    (K : Kp X (fun a => a = env.locals) M σ s.heap M' σ₁ h') (p : PS X B env fr M' σ₁ { s with heap := h', toks := tk } σ' R s') : PS X B env fr M σ s σ' R s' := by
  obtain ⟨h₂, tk₂, M₂, I₂, R₂, K₂, r₂⟩ := p
  exact ⟨h₂, tk₂, M₂, I₂, R₂, K.tr K₂, r₂⟩

theorem isTrue_plain' {A : Around} {env : Env} {s : Shared} {e : Expr} {whole : Sem Value} {Q : Bool → Shared → Prop} {E : Value → Shared → Prop} (h : wpAny (model X.prog X.w) A whole (fun v s₁ => wpAny (model X.prog X.w) A (truthy v) Q E s₁) E s)
    (h1 : ∀ x p, e ≠ .UnaryOp .Not x p) (h2 : ∀ o v p, e ≠ .BoolOp o v p) (h3 : ∀ t b o p, e ≠ .IfExp t b o p) (h4 : ∀ l o c p, e ≠ .Compare l o c p) : wpAny (model X.prog X.w) A (isTrue e env whole) Q E s := by
  have : isTrue e env whole = (do
      let v ← whole
      standAt e.pos
      holding [v] (truthy v)) := by
    cases e <;> first | rfl | exact absurd rfl (h2 _ _ _) | exact absurd rfl (h3 _ _ _ _) | exact absurd rfl (h4 _ _ _ _) | skip
    rename_i op x p
    cases op <;> first | rfl | exact absurd rfl (h1 _ _)
  rw [this]
  exact wpAny_bind (wpAny_mono h (fun v s₁ h₁ => wpAny_bind (wpAny_standAt (wpAny_holding h₁))) fun _ _ x => x)

theorem step_test (hE : SEval X n) (hT : STest X n) (hA : SAll X n) : STest X (n + 1) := by
  intro A B env fr M σ s e b σ' Q E rm I R e' hQ
  replace e' : TestS (lev n) fr σ e b σ' := e'
  induction e' with
  | not e1 => exact wpAny_isTrue_Not (hT rm.down I R e1 hQ)
  | all e1 => exact hA rm.down I R e1 hQ
  | cmp hr e1 e2 ex ey ez =>
    refine wpAny_isTrue_Compare1 (hE rm.down I R e1 fun v1 s1 p1 => ?_) (no_set hr)
    obtain ⟨h1, tk1, M1, I1, R1, K1, r1⟩ := p1
    refine hE rm.down I1 R1 e2 fun v2 s2 p2 => ?_
    obtain ⟨h2, tk2, M2, I2, R2, K2, r2⟩ := p2
    exact cmp_ok rm.units1 (I2.read (r1.kp I1 K2 (fun a q => q ▸ R1.lB)) ex) (I2.read r2 ey) ez fun tk => wpAny_truthy_bool (hQ _ ⟨_, tk, M2, I2, R2, K1.tr K2, trivial⟩)
  | plain hp e1 ex ez =>
    refine isTrue_plain' ?_ (fun _ _ q => by subst q; cases hp) (fun _ _ _ q => by subst q; cases hp) (fun _ _ _ _ q => by subst q; cases hp) (fun _ _ _ _ q => by subst q; cases hp)
    refine hE rm.down I R e1 fun v1 s1 p1 => ?_
    obtain ⟨hh1, tk1, M1, I1, R1, K1, r1⟩ := p1
    exact truth_ok (I1.read r1 ex) ez fun tk => hQ _ ⟨_, tk, M1, I1, R1, K1, trivial⟩

theorem step_all (hT : STest X n) : SAll X n := by
  intro A B env fr M σ s op es b σ' Q E rm I R e hQ
  induction e generalizing M s with
  | nil => exact (show wpAny _ _ (pure (op == .And)) _ _ _ from wpAny_pure (hQ s ⟨_, s.toks, M, I, R, .refl, trivial⟩))
  | @stop x r _ _ b e1 hs =>
    show wpAny _ _ (isTrue x env (eval x env) >>= fun t => match op, t with
        | .And, false => pure false
        | .Or, true => pure true
        | _, _ => allTrue op r env) _ _ _
    refine wpAny_bind (hT rm I R e1 fun s1 p1 => ?_)
    cases op <;> cases b <;> first | (cases hs; done) | exact wpAny_pure (hQ _ p1)
  | @go x r _ _ _ c _ e1 hs _ ih =>
    show wpAny _ _ (isTrue x env (eval x env) >>= fun t => match op, t with
        | .And, false => pure false
        | .Or, true => pure true
        | _, _ => allTrue op r env) _ _ _
    refine wpAny_bind (hT rm I R e1 fun s1 p1 => ?_)
    obtain ⟨h1, tk1, M1, I1, R1, K1, _⟩ := p1
    have go := ih (s := { s with heap := h1, toks := tk1 }) I1 R1 fun s' p => hQ _ (PS.tr (tk := tk1) K1 p)
    cases op <;> cases c <;> first | (cases hs; done) | exact go

theorem ifs_false {A : Around} {env : Env} {s : Shared} {Q : Bool → Shared → Prop} {E : Value → Shared → Prop} (hQ : Q false s) : ∀ es : List Expr,
    wpAny (model X.prog X.w) A (forIn es false fun c r => if r = true then do let ok ← isTrue c env (eval c env); pure (ForInStep.yield ok) else pure (ForInStep.yield r)) Q E s
  | [] => by rw [List.forIn_nil]; exact wpAny_pure hQ
  | c :: r => by
    rw [List.forIn_cons]
    refine wpAny_bind ?_
    rw [if_neg Bool.false_ne_true]
    exact wpAny_pure (ifs_false hQ r)

theorem step_ifs (hT : STest X n) : SIfs X n := by
  intro A B env fr M σ s es b σ' Q E rm I R e hQ
  induction e generalizing M s with
  | nil =>
    rw [List.forIn_nil]
    exact wpAny_pure (hQ s ⟨_, s.toks, M, I, R, .refl, trivial⟩)
  | @stop x r _ _ b e1 hs =>
    rw [List.forIn_cons]
    refine wpAny_bind ?_
    rw [if_pos rfl]
    refine wpAny_bind (hT rm I R e1 fun s1 p1 => wpAny_pure ?_)
    cases b
    · exact ifs_false (hQ _ p1) r
    · cases hs
  | @go x r _ _ _ c _ e1 hs _ ih =>
    rw [List.forIn_cons]
    refine wpAny_bind ?_
    rw [if_pos rfl]
    refine wpAny_bind (hT rm I R e1 fun s1 p1 => wpAny_pure ?_)
    obtain ⟨h1, tk1, M1, I1, R1, K1, _⟩ := p1
    cases c
    · cases hs
    · exact ih (s := { s with heap := h1, toks := tk1 }) I1 R1 fun s' p => hQ _ (PS.tr (tk := tk1) K1 p)

theorem step_part (hE : SEval X n) : SPart X n := by
  intro A B env fr M σ s e i σ' Q E rm I R e' hQ
  induction e' with
  | none =>
    rw [evalPart_none]
    exact wpAny_pure (hQ _ s .none ⟨_, s.toks, M, I, R, .refl, trivial⟩)
  | some e1 =>
    rw [evalPart_some]
    refine hE rm I R e1 fun v1 s1 p1 => ?_
    obtain ⟨h1, tk1, M1, I1, R1, K1, r1⟩ := p1
    cases r1
    exact hQ _ _ (.int _ _) ⟨_, tk1, M1, I1, R1, K1, trivial⟩

theorem step_list (hE : SEval X n) : SList X n := by
  intro A B env fr M σ s es xs σ' pos Q E rm I R e hQ
  induction e generalizing M s Q with
  | nil => exact Calls.spliced_nil (hQ _ s ⟨_, s.toks, M, I, R, .refl, .nil⟩)
  | cons hp e1 e2 _ ih =>
    rw [starEach_plain (no_star hp)]
    refine Calls.spliced_cons (hE rm I R e1 fun v1 s1 p1 => ?_)
    obtain ⟨h1, tk1, M1, I1, R1, K1, r1⟩ := p1
    have x2 := fz_ok (C := fun a => a = env.locals) I1 r1 e2
    have R2 := R1.kpL I1 x2.2.1 (fun _ n => n)
    refine ih (s := { s with heap := h1, toks := tk1 }) x2.1 R2 fun vs s' p => hQ _ _ ?_
    obtain ⟨h3, tk3, M3, I3, R3, K3, f⟩ := p
    exact ⟨_, tk3, M3, I3, R3, (K1.tr x2.2.1).tr K3, .cons (FR.kp x2.1 K3 (fun a q => q ▸ R2.lB) x2.2.2) f⟩

theorem ARs.kp {B : Addr → Prop} {M M' : List Addr} {σ σ' : St} {h h' : Heap} {C : Addr → Prop} (I : Inv X B M σ h) (K : Kp X C M σ h M' σ' h') (hC : ∀ a, C a → B a) : ∀ {vs : List Value} {as : List Mine.A}, ARs X B M σ h vs as → ARs X B M' σ' h' vs as
  | _, _, .nil => .nil
  | _, _, .cons a r => .cons (a.kp I K hC) (ARs.kp I K hC r)

theorem step_args (hE : SEval X n) : SArgs X n := by
  intro A B env fr M σ s es as σ' pos Q E rm I R e hQ
  induction e generalizing M s Q with
  | nil => exact Calls.spliced_nil (hQ _ s ⟨_, s.toks, M, I, R, .refl, .nil⟩)
  | cons hp e1 _ ih =>
    rw [starEach_plain (no_star hp)]
    refine Calls.spliced_cons (hE rm I R e1 fun v1 s1 p1 => ?_)
    obtain ⟨h1, tk1, M1, I1, R1, K1, r1⟩ := p1
    refine ih (s := { s with heap := h1, toks := tk1 }) I1 R1 fun vs s' p => hQ _ _ ?_
    obtain ⟨h3, tk3, M3, I3, R3, K3, f⟩ := p
    exact ⟨_, tk3, M3, I3, R3, K1.tr K3, .cons (r1.kp I1 K3 (fun a q => q ▸ R1.lB)) f⟩
end
end Mine
namespace Mine
open PySem PySem.W PyProof.Rows PySem.Spec
section
variable {X : Cx} {n : Nat}

/-- the numbers of the store that a call is handed, in order -/
theorem pack_spec {σ : St} : ∀ {as : List Mine.A} {m : Nat} {as' : List Mine.A} {τ : St} {b : List Nat}, pack σ as m = some (as', τ, b) →
    b.Nodup ∧ τ.length = b.length ∧ (∀ (j k : Nat), b[j]? = some k → τ[j]? = σ[k]? ∧ k < σ.length) ∧
    ∀ {B B' : Addr → Prop} {M Mc : List Addr} {τ₀ : St} {h : Heap} {vs : List Value}, (∀ v x, FRx X h (Bad B M σ) v x → FRx X h (Bad B' Mc τ₀) v x) → (∀ (j k : Nat) (a : Addr), b[j]? = some k → M[k]? = some a → Mc[m + j]? = some a) →
      ARs X B M σ h vs as → ARs X B' Mc τ₀ h vs as'
  | [], m, as', τ, b, e => by
    simp only [pack] at e
    cases e
    exact ⟨.nil, rfl, fun j k e => by simp at e, fun _ _ r => by cases r; exact .nil⟩
  | .v x :: r, m, as', τ, b, e => by
    simp only [pack, Option.map_eq_some_iff] at e
    obtain ⟨⟨as1, τ1, b1⟩, e1, e⟩ := e
    cases e
    obtain ⟨h1, h2, h3, h4⟩ := pack_spec e1
    exact ⟨h1, h2, h3, fun f g q => by
      cases q with
      | cons q1 q2 => exact .cons (f _ _ q1) (h4 f g q2)⟩
  | .r k :: r, m, as', τ, b, e => by
    simp only [pack] at e
    split at e
    · rename_i c as1 τ1 b1 ec e1
      split at e
      · cases e
      · rename_i hk
        cases e
        obtain ⟨h1, h2, h3, h4⟩ := pack_spec e1
        refine ⟨List.nodup_cons.mpr ⟨hk, h1⟩, by simp [h2], fun j i e => ?_, fun f g q => ?_⟩
        · cases j with
          | zero => simp at e; subst e; exact ⟨by simpa using ec.symm, (List.getElem?_eq_some_iff.mp ec).1⟩
          | succ j => simpa using h3 j i (by simpa using e)
        · cases q with
          | cons q1 q2 =>
            obtain ⟨a, ea, rfl⟩ := q1
            refine .cons ⟨a, by simpa using g 0 k a rfl ea, rfl⟩ (h4 f (fun j i a e e' => ?_) q2)
            have := g (j + 1) i a (by simpa using e) e'
            rwa [show m + (j + 1) = m + 1 + j from by lia] at this
    · cases e

theorem unpack_spec : ∀ {b : List Nat} {σ τ σ' : St}, unpack σ τ b = some σ' → b.Nodup → (∀ (k : Nat), k ∈ b → k < σ.length) → σ'.length = σ.length ∧ (∀ (j k : Nat), b[j]? = some k → σ'[k]? = τ[j]?) ∧ ∀ (k : Nat), k ∉ b → σ'[k]? = σ[k]?
  | [], σ, τ, σ', e, _, _ => by
    simp only [unpack] at e; cases e
    exact ⟨rfl, fun j k e => by simp at e, fun _ _ => rfl⟩
  | k :: b, σ, [], σ', e, _, _ => by simp [unpack] at e
  | k :: b, σ, c :: τ, σ', e, nd, hl => by
    simp only [unpack] at e
    rw [List.nodup_cons] at nd
    obtain ⟨h1, h2, h3⟩ := unpack_spec e nd.2 (fun i hi => by rw [List.length_set]; exact hl i (.tail _ hi))
    refine ⟨by rw [h1, List.length_set], fun j i e => ?_, fun i hi => ?_⟩
    · cases j with
      | zero =>
        simp at e; subst e
        rw [h3 k nd.1, List.getElem?_set_self (hl k (.head _))]; rfl
      | succ j => simpa using h2 j i (by simpa using e)
    · rw [h3 i (fun q => hi (.tail _ q)), List.getElem?_set_ne (fun q => hi (by subst q; exact List.mem_cons_self))]

/-- the callee's view of the store -/
theorem call_view {B : Addr → Prop} {M : List Addr} {σ : St} {h : Heap} {as as' : List Mine.A} {τ : St} {b : List Nat} {vs : List Value} (I : Inv X B M σ h) (r : ARs X B M σ h vs as) (e : pack σ as 0 = some (as', τ, b)) :
    ∃ (Bc : Addr → Prop) (Mc : List Addr), Inv X Bc Mc τ h ∧ ARs X Bc Mc τ h vs as' ∧
      ∀ {h' : Heap} {Mc' : List Addr} {τ' : St} {v : Value} {a' : Mine.A} {σ' : St} {a : Mine.A}, Inv X Bc Mc' τ' h' → Kp X (fun _ => False) Mc τ h Mc' τ' h' → AR X Bc Mc' τ' h' v a' → handBack τ' b a' = some a → unpack σ τ' b = some σ' →
        Inv X B M σ' h' ∧ Kp X (fun _ => False) M σ h M σ' h' ∧ AR X B M σ' h' v a := by
  obtain ⟨nd, hl, hp, hr⟩ := pack_spec (X := X) e
  let Mc : List Addr := b.map fun k => M[k]?.getD 0
  let Bc : Addr → Prop := fun c => B c ∨ (Live M σ c ∧ c ∉ Mc)
  have hb : ∀ (j k : Nat), b[j]? = some k → ∃ a, M[k]? = some a ∧ Mc[j]? = some a := fun j k e => by
    have h1 := (hp j k e).2
    rw [← I.len] at h1
    refine ⟨M[k], List.getElem?_eq_getElem h1, ?_⟩
    simp [Mc, e, List.getElem?_eq_getElem h1]
  have hM : ∀ (j : Nat) (a : Addr), Mc[j]? = some a → ∃ k, b[j]? = some k ∧ M[k]? = some a := fun j a e => by
    simp only [Mc, List.getElem?_map, Option.map_eq_some_iff] at e
    obtain ⟨k, ek, e⟩ := e
    obtain ⟨a', e1, e2⟩ := hb j k ek
    rw [e1] at e; simp at e; subst e
    exact ⟨k, ek, e1⟩
  have mem : ∀ c, c ∈ Mc → ∃ (j k : Nat), b[j]? = some k ∧ M[k]? = some c ∧ Mc[j]? = some c := fun c hc => by
    obtain ⟨j, hj, e⟩ := List.mem_iff_getElem.mp hc
    have e' : Mc[j]? = some c := by rw [List.getElem?_eq_getElem hj, e]
    obtain ⟨k, e1, e2⟩ := hM j c e'
    exact ⟨j, k, e1, e2, e'⟩
  have idx : ∀ (k i : Nat) (c : Addr), M[k]? = some c → M[i]? = some c → k = i := fun k i c e1 e2 => (List.getElem?_inj (List.getElem?_eq_some_iff.mp e1).1 I.nd).mp (e1.trans e2.symm)
  have exM : ∀ c, c ∈ M → ∃ o, h.get? c = some o := fun c hc => by
    obtain ⟨i, hi, e⟩ := List.mem_iff_getElem.mp hc
    have h2 : i < σ.length := I.len ▸ hi
    exact e ▸ (I.ob i _ σ[i].1 σ[i].2 (List.getElem?_eq_getElem hi) (List.getElem?_eq_getElem h2)).get
  have lc : ∀ c, Live Mc τ c → Live M σ c ∧ c ∈ Mc := fun c ⟨j, x, e1, e2⟩ => by
    obtain ⟨k, e3, e4⟩ := hM j c e1
    exact ⟨⟨k, x, e4, (hp j k e3).1 ▸ e2⟩, List.mem_of_getElem? e1⟩
  have cl : ∀ c, Live M σ c → c ∈ Mc → Live Mc τ c := fun c ⟨k, x, e1, e2⟩ hc => by
    obtain ⟨j, i, e3, e4, e5⟩ := mem c hc
    have := idx k i c e1 e4; subst this
    exact ⟨j, x, e5, (hp j k e3).1.trans e2⟩
  have bad1 : ∀ c, Bad Bc Mc τ c → Bad B M σ c := fun c q => q.elim (fun q => q.elim .inl fun q => .inr q.1) fun l => .inr (lc c l).1
  have bad2 : ∀ c, Bad B M σ c → Bad Bc Mc τ c := fun c q => q.elim (fun b => .inl (.inl b)) fun l => by
    by_cases hc : c ∈ Mc
    · exact .inr (cl c l hc)
    · exact .inl (.inr ⟨l, hc⟩)
  have fr1 : ∀ v x, FRx X h (Bad B M σ) v x → FRx X h (Bad Bc Mc τ) v x := fun v x r => r.mono (fun _ _ _ e => e) (fun c _ _ q => bad1 c q)
  have or1 : ∀ c x, OR X h (Bad B M σ) c x → OR X h (Bad Bc Mc τ) c x := fun c x r => r.mono (fun _ _ _ e => e) (fun c _ _ q => bad1 c q) (fun _ e => e)
  refine ⟨Bc, Mc, ⟨by simp [Mc, hl], ?_, fun j c x bb e1 e2 => ?_, fun c hc q => ?_, I.base, fun c hc => ?_, I.tab, fun t ht => .inl (I.tabB t ht), fun c q => q.elim (I.exB c) fun q => ?_⟩, hr fr1 (fun j k c e1 e2 => ?_) r, ?_⟩
  · -- Nodup
    rw [List.Nodup, List.pairwise_iff_getElem]
    intro i j hi hj hij q
    have hj' : j < b.length := by simpa [Mc] using hj
    have hi' : i < b.length := by lia
    obtain ⟨a1, e1, e2⟩ := hb i b[i] (List.getElem?_eq_getElem hi')
    obtain ⟨a2, e3, e4⟩ := hb j b[j] (List.getElem?_eq_getElem hj')
    rw [List.getElem?_eq_getElem hi] at e2
    rw [List.getElem?_eq_getElem hj] at e4
    cases e2; cases e4
    rw [← q] at e3
    have hk := idx _ _ _ e1 e3
    have nd' := nd
    rw [List.Nodup, List.pairwise_iff_getElem] at nd'
    exact nd' i j hi' hj' hij hk
  · obtain ⟨k, e3, e4⟩ := hM j c e1
    exact or1 c x (I.ob k c x bb e4 ((hp j k e3).1 ▸ e2))
  · obtain ⟨j, k, e3, e4, e5⟩ := mem c hc
    exact q.elim (I.nB c (List.mem_of_getElem? e4)) fun q => q.2 hc
  · obtain ⟨j, k, e3, e4, e5⟩ := mem c hc
    exact I.new c (List.mem_of_getElem? e4)
  · obtain ⟨⟨k, x, e1, e2⟩, _⟩ := q
    exact exM c (List.mem_of_getElem? e1)
  · obtain ⟨a', e3, e4⟩ := hb j k e1
    rw [e2] at e3; cases e3
    rw [Nat.zero_add]; exact e4
  · intro h' Mc' τ' v a' σ' a I' K' r' ea eσ
    obtain ⟨u1, u2, u3⟩ := unpack_spec eσ nd (fun k hk => by
      obtain ⟨j, hj, e⟩ := List.mem_iff_getElem.mp hk
      exact (hp j k (by rw [List.getElem?_eq_getElem hj, e])).2)
    have hMl : Mc.length = b.length := by simp [Mc]
    have pre : ∀ (j k : Nat) (c : Addr), b[j]? = some k → M[k]? = some c → Mc'[j]? = some c := fun j k c e1 e2 => by
      obtain ⟨a', e3, e4⟩ := hb j k e1
      rw [e2] at e3; cases e3
      exact (K'.pre j (List.getElem?_eq_some_iff.mp e4).1).trans e4
    have liv : ∀ (k : Nat) (x : F), σ'[k]? = some (x, true) → ∃ y, σ[k]? = some (y, true) := fun k x e1 => by
      by_cases hk : k ∈ b
      · obtain ⟨j, hj, e⟩ := List.mem_iff_getElem.mp hk
        have ej : b[j]? = some k := by rw [List.getElem?_eq_getElem hj, e]
        rw [u2 j k ej] at e1
        obtain ⟨y, ey⟩ := K'.liv j x e1 (hMl ▸ hj)
        exact ⟨y, (hp j k ej).1 ▸ ey⟩
      · exact ⟨x, (u3 k hk) ▸ e1⟩
    have ll : ∀ c, Live M σ' c → Live M σ c := fun c ⟨k, x, e1, e2⟩ => let ⟨y, ey⟩ := liv k x e2; ⟨k, y, e1, ey⟩
    have kk : ∀ c o, ¬ Bad B M σ c → h.get? c = some o → h'.get? c = some o := fun c o nb e => K'.keep c o (fun l => nb (.inr (lc c l).1)) (fun t ht q => nb (.inl (q ▸ I.tabB t ht))) (fun f => f) e
    have bk : ∀ c o, h.get? c = some o → Bad B M σ' c → Bad B M σ c := fun c _ _ q => q.elim .inl fun l => .inr (ll c l)
    have back : ∀ c, Bad B M σ' c → Bad Bc Mc' τ' c := fun c q => q.elim (fun b => .inl (.inl b)) fun ⟨k, x, e1, e2⟩ => by
      by_cases hk : k ∈ b
      · obtain ⟨j, hj, e⟩ := List.mem_iff_getElem.mp hk
        have ej : b[j]? = some k := by rw [List.getElem?_eq_getElem hj, e]
        rw [u2 j k ej] at e2
        exact .inr ⟨j, x, pre j k c ej e1, e2⟩
      · refine .inl (.inr ⟨⟨k, x, e1, (u3 k hk) ▸ e2⟩, fun hc => ?_⟩)
        obtain ⟨j, i, e3, e4, e5⟩ := mem c hc
        have := idx k i c e1 e4; subst this
        exact hk (List.mem_of_getElem? e3)
    have fr2 : ∀ v x, FRx X h' (Bad Bc Mc' τ') v x → FRx X h' (Bad B M σ') v x := fun v x r => r.mono (fun _ _ _ e => e) (fun c _ _ q => back c q)
    have or2 : ∀ c x, OR X h' (Bad Bc Mc' τ') c x → OR X h' (Bad B M σ') c x := fun c x r => r.mono (fun _ _ _ e => e) (fun c _ _ q => back c q) (fun _ e => e)
    refine ⟨⟨by rw [I.len, u1], I.nd, fun k c x bb e1 e2 => ?_, I.nB, I'.base, I.new, I'.tab, I.tabB, fun c q => let ⟨o, e⟩ := I.exB c q; K'.ex c o e⟩, ⟨fun c o n t _ e => K'.keep c o (fun l => n (lc c l).1) t (fun f => f) e, K'.ex, fun _ _ => rfl, fun k c e l => (by rw [List.getElem?_eq_none l] at e; cases e), fun k x e _ => liv k x e⟩, ?_⟩
    · by_cases hk : k ∈ b
      · obtain ⟨j, hj, e⟩ := List.mem_iff_getElem.mp hk
        have ej : b[j]? = some k := by rw [List.getElem?_eq_getElem hj, e]
        rw [u2 j k ej] at e2
        exact or2 c x (I'.ob j c x bb (pre j k c ej e1) e2)
      · rw [u3 k hk] at e2
        refine (I.ob k c x bb e1 e2).mono kk bk (fun o e => K'.keep c o (fun l => ?_) (fun t ht q => I.nB c (List.mem_of_getElem? e1) (q ▸ I.tabB t ht)) (fun f => f) e)
        obtain ⟨j, i, e3, e4, e5⟩ := mem c (lc c l).2
        have := idx k i c e1 e4; subst this
        exact hk (List.mem_of_getElem? e3)
    · cases a' with
      | v x => simp only [handBack] at ea; cases ea; exact fr2 _ _ r'
      | r j =>
        obtain ⟨c, ec, rfl⟩ := r'
        simp only [handBack] at ea
        split at ea
        · rename_i k ek
          cases ea
          obtain ⟨a0, e3, e4⟩ := hb j k ek
          have := pre j k a0 ek e3
          rw [ec] at this; cases this
          exact ⟨_, e3, rfl⟩
        · rename_i ek
          simp only [Option.map_eq_some_iff] at ea
          obtain ⟨⟨x, bb⟩, ex, ea⟩ := ea
          cases ea
          have hj : Mc.length ≤ j := by rw [hMl]; simpa using ek
          have gn := K'.new j c ec hj
          refine (or2 c x (I'.ob j c x bb ec ex)).fr fun q => q.elim (fun q => ?_) fun ⟨k, y, e1, _⟩ => ?_
          · obtain ⟨o, e⟩ := I.exB c q; rw [gn] at e; cases e
          · obtain ⟨o, e⟩ := exM c (List.mem_of_getElem? e1); rw [gn] at e; cases e
end
end Mine
namespace Mine
open PySem PySem.W PyProof.Rows PySem.Spec

theorem nodupB_ok : ∀ {l : List Str}, nodupB l = true → l.Nodup
  | [], _ => List.nodup_nil
  | x :: r, h => by
    simp only [nodupB, Bool.and_eq_true, Bool.not_eq_true', List.contains_eq_mem, decide_eq_false_iff_not] at h
    exact List.nodup_cons.mpr ⟨h.1, nodupB_ok h.2⟩

theorem zip_pick : ∀ {ns : List Str} {vs : List Value}, ns.Nodup → ns.length = vs.length → ∀ {l : List (Str × Value)}, (∀ x v, (x, v) ∈ ns.zip vs → l.lookup x = some v) → ns.filterMap (fun n => (l.lookup n).map (n, ·)) = ns.zip vs
  | [], _, _, _, _, _ => by simp
  | x :: ns, [], _, h, _, _ => by simp at h
  | x :: ns, v :: vs, nd, h, l, hl => by
    have := hl x v (by simp)
    rw [List.filterMap_cons, this]
    simp only [Option.map_some, List.zip_cons_cons]
    rw [zip_pick (List.nodup_cons.mp nd).2 (by simpa using h) fun y u m => hl y u (by simp [m])]
theorem zip_look : ∀ {ns : List Str} {vs : List Value}, ns.Nodup → ∀ x v, (x, v) ∈ ns.zip vs → (ns.zip vs).lookup x = some v
  | [], _, _, x, v, m => by simp at m
  | n :: ns, [], _, x, v, m => by simp at m
  | n :: ns, u :: vs, nd, x, v, m => by
    simp only [List.zip_cons_cons, List.mem_cons] at m
    rw [List.zip_cons_cons, List.lookup_cons]
    rcases m with m | m
    · cases m; simp
    · have hx : x ∈ ns := (List.of_mem_zip m).1
      have : (x == n) = false := by
        simp only [beq_eq_false_iff_ne, ne_eq]
        rintro rfl
        exact (List.nodup_cons.mp nd).1 hx
      rw [this]
      exact zip_look (List.nodup_cons.mp nd).2 x v m

theorem zip_all {ns : List Str} {vs : List Value} (nd : ns.Nodup) (h : ns.length = vs.length) : ns.filter (fun n => ((ns.zip vs).lookup n).isNone) = [] := by
  rw [List.filter_eq_nil_iff]
  intro x hx q
  obtain ⟨i, hi, e⟩ := List.mem_iff_getElem.mp hx
  have : (x, vs[i]'(h ▸ hi)) ∈ ns.zip vs := by
    rw [List.mem_iff_getElem]
    exact ⟨i, by simp; lia, by simp [e]⟩
  rw [zip_look nd _ _ this] at q
  simp at q

theorem ite_pass {α : Type} {c : Prop} [inst : Decidable c] {a b r : α} (hc : ¬ c) (h : b = r) : (if c then a else b) = r := (if_neg hc).trans h
theorem bind_for {α β γ : Type} {l : List α} {i : β} {f : α → β → Sem (ForInStep β)} {k : β → Sem γ} {r : Sem γ} (hl : l = []) (h : k i = r) : (forIn l i f >>= k) = r := by subst hl; exact h
theorem nil_not {α : Type} {l : List α} (h : l = []) : ¬ ((!l.isEmpty) = true) := by subst h; exact Bool.false_ne_true
theorem filter_take_nil {α : Type} {p : α → Bool} {l : List α} {k : Nat} (h : l.filter p = []) : (l.take k).filter p = [] :=
  List.filter_eq_nil_iff.mpr fun a ha => List.filter_eq_nil_iff.mp h a (List.mem_of_mem_take ha)
theorem bind_plain {name qual : Str} {params : Arguments} {body : List Stmt} {sc : Scope} {cl : List (Str × Addr)} {doc pm : Value} {an : Option Addr} {cdv ct : Value} {vs : List Value} (nd : (params.args.map (·.arg)).Nodup) (hl : (params.args.map (·.arg)).length = vs.length) (h1 : params.posonlyargs = []) (h2 : params.vararg = none) (h3 : params.kwonlyargs = [])
    (h4 : params.kwarg = none) : bindArgs (fnX name qual params body sc cl .none .none doc pm an cdv ct) ⟨vs, []⟩ = pure ((params.args.map (·.arg)).zip vs) := by
  have hz := zip_all nd hl
  have hp := zip_pick nd hl (zip_look nd)
  obtain ⟨po, args, va, ko, kd, kw, df⟩ := params
  cases h1; cases h2; cases h3; cases h4
  refine ite_pass (c := (decide (vs.length > (args.map (·.arg)).length) && true) = true) (by rw [show (args.map (·.arg)).length = vs.length from hl, Bool.and_true, decide_eq_true_eq]; exact Nat.lt_irrefl _) ?_
  refine ite_pass (nil_not (filter_take_nil hz)) ?_
  refine bind_for (by rw [show ((none : Option (Array Value)).getD #[]).toList = [] from rfl, List.drop_nil]; exact List.zip_nil_right) ?_
  exact congrArg (pure (f := Sem)) (Eq.trans (congrArg (List.filterMap _) (List.append_nil _)) hp)

theorem setV_look {x y : Str} {a : Mine.A} {l : Vars} : (setV x a l) y = if y = x then some a else l y := rfl

theorem bindL_look {k : Str → Option NameKind} : ∀ {bs : List (Str × Value)} {m : Str → Option Value} {x : Str}, (∀ p ∈ bs, k p.1 = some .local) → bindL k bs m x = (bs.reverse.lookup x).or (m x)
  | [], m, x, _ => by simp [bindL]
  | (n, v) :: r, m, x, h => by
    unfold bindL
    rw [if_pos (h _ (List.mem_cons_self)), bindL_look (fun p hp => h p (List.mem_cons_of_mem _ hp)), List.reverse_cons, List.lookup_append, Option.or_assoc]
    congr 1
    by_cases hx : x = n
    · subst hx; simp
    · have : (x == n) = false := by simpa using hx
      rw [List.lookup_cons, this]; simp [hx]

section
variable {X : Cx} {n : Nat}

theorem enter_spec {B : Addr → Prop} {M : List Addr} {σ : St} {h : Heap} {d : FnD} {g : Option (Str × FnD)} {clo : Vars} : ∀ {ps : List Str} {as : List Mine.A} {l c : Vars} {fr : Fm}, enter d g clo ps as l c = some fr →
    ∀ {vs : List Value} {ml mc : Str → Option Value}, ARs X B M σ h vs as → (∀ x a, l x = some a → ∃ v, ml x = some v ∧ AR X B M σ h v a) → (∀ x a, c x = some a → ∃ v, mc x = some v ∧ AR X B M σ h v a) →
    fr.sc = d.sc ∧ fr.clo = g ∧ fr.nst = (if g.isNone then nestOf d.body else none) ∧ (∀ x a, fr.loc x = some a → ∃ v, bindL (fun y => d.sc.names.lookup y) (ps.zip vs) ml x = some v ∧ AR X B M σ h v a) ∧
    (∃ c' : Vars, (fr.cel = fun x => (c' x).or (clo x)) ∧ (∀ x a, c' x = some a → ∃ v, bindC (fun y => d.sc.names.lookup y) (ps.zip vs) mc x = some v ∧ AR X B M σ h v a) ∧ ((∀ x ∈ d.sc.names, x.2 ≠ .cell) → c' = c)) ∧
    (∀ p ∈ ps.zip vs, d.sc.names.lookup p.1 = some .local ∨ d.sc.names.lookup p.1 = some .cell) ∧ ps.length = vs.length
  | [], [], l, c, fr, e, vs, ml, mc, r, hl, hc => by
    cases r
    simp only [enter] at e
    cases e
    exact ⟨rfl, rfl, rfl, hl, ⟨c, rfl, hc, fun _ => rfl⟩, fun p hp => (by simp at hp), rfl⟩
  | [], _ :: _, l, c, fr, e, vs, ml, mc, r, hl, hc => by simp [enter] at e
  | _ :: _, [], l, c, fr, e, vs, ml, mc, r, hl, hc => by simp [enter] at e
  | x :: ps, a :: as, l, c, fr, e, vs, ml, mc, r, hl, hc => by
    cases r with
    | cons r1 r2 =>
      rename_i v vs
      simp only [enter] at e
      split at e
      · rename_i hk
        have := enter_spec e (ml := fun y => if y = x then some v else ml y) r2 (fun y b ey => by
          rw [setV_look] at ey
          by_cases hy : y = x
          · rw [if_pos hy] at ey; cases ey
            exact ⟨v, by simp [hy], r1⟩
          · rw [if_neg hy] at ey
            obtain ⟨u, e1, e2⟩ := hl y b ey
            exact ⟨u, by simp [hy, e1], e2⟩) hc
        refine ⟨this.1, this.2.1, this.2.2.1, ?_, ?_, ?_, by simp [this.2.2.2.2.2.2]⟩
        · intro y b ey
          simp only [List.zip_cons_cons, bindL]
          rw [if_pos hk]
          exact this.2.2.2.1 y b ey
        · simp only [List.zip_cons_cons, bindC]
          rw [if_pos hk]
          exact this.2.2.2.2.1
        · intro p hp
          simp only [List.zip_cons_cons, List.mem_cons] at hp
          rcases hp with rfl | hp
          · exact .inl hk
          · exact this.2.2.2.2.2.1 p hp
      · rename_i hk
        have hnl : ¬ List.lookup x d.sc.names = some .local := by rw [hk]; simp
        have := enter_spec e (mc := fun y => if y = x then some v else mc y) r2 hl (fun y b ey => by
          rw [setV_look] at ey
          by_cases hy : y = x
          · rw [if_pos hy] at ey; cases ey
            exact ⟨v, by simp [hy], r1⟩
          · rw [if_neg hy] at ey
            obtain ⟨u, e1, e2⟩ := hc y b ey
            exact ⟨u, by simp [hy, e1], e2⟩)
        refine ⟨this.1, this.2.1, this.2.2.1, ?_, ?_, ?_, by simp [this.2.2.2.2.2.2]⟩
        · intro y b ey
          simp only [List.zip_cons_cons, bindL]
          rw [if_neg hnl]
          exact this.2.2.2.1 y b ey
        · simp only [List.zip_cons_cons, bindC]
          rw [if_neg hnl]
          obtain ⟨c', h1, h2, h3⟩ := this.2.2.2.2.1
          exact ⟨c', h1, h2, fun q => absurd rfl (q _ (mem_of_lookup hk))⟩
        · intro p hp
          simp only [List.zip_cons_cons, List.mem_cons] at hp
          rcases hp with rfl | hp
          · exact .inr hk
          · exact this.2.2.2.2.2.1 p hp
      · cases e

theorem cellsFrom_some : ∀ {names : List (Str × NameKind)} {x : Str} {k : Nat} {acc : List (Str × Addr)}, (x, .cell) ∈ names ∨ (acc.lookup x).isSome → ((cellsFrom k names acc).lookup x).isSome
  | [], x, k, acc, h => by simpa [cellsFrom] using h
  | (y, kd) :: r, x, k, acc, h => by
    unfold cellsFrom
    split
    · rename_i hk
      refine cellsFrom_some ?_
      rcases h with h | h
      · rcases List.mem_cons.mp h with q | q
        · cases q; right; simp [List.lookup_cons]
        · exact .inl q
      · right
        rw [List.lookup_cons]
        split
        · rfl
        · exact h
    · rename_i hk
      refine cellsFrom_some ?_
      rcases h with h | h
      · rcases List.mem_cons.mp h with q | q
        · cases q; simp at hk
        · exact .inl q
      · exact .inr h

noncomputable def SExec (X : Cx) (n : Nat) : Prop := ∀ {A : Around} {B : Addr → Prop} {env : Env} {fr : Fm} {M : List Addr} {σ : St} {s : Shared} {st : Stmt} {fl : Fl} {fr' : Fm} {σ' : St} {Q : Flow → Shared → Prop} {E : Value → Shared → Prop},
  Room A n → Inv X B M σ s.heap → ER X B env fr M σ s.heap → (lev n).exec fr σ st fl fr' σ' → (∀ f s', PX X B env M σ s fl fr' σ' f s' → Q f s') → wpAny (model X.prog X.w) A (exec st env) Q E s
noncomputable def SExecs (X : Cx) (n : Nat) : Prop := ∀ {A : Around} {B : Addr → Prop} {env : Env} {fr : Fm} {M : List Addr} {σ : St} {s : Shared} {sts : List Stmt} {fl : Fl} {fr' : Fm} {σ' : St} {Q : Flow → Shared → Prop} {E : Value → Shared → Prop},
  Room A n → Inv X B M σ s.heap → ER X B env fr M σ s.heap → ExecsR (lev n) sts fr σ fl fr' σ' → (∀ f s', PX X B env M σ s fl fr' σ' f s' → Q f s') → wpAny (model X.prog X.w) A (execs sts env) Q E s

/-- a def of the top is called -/
noncomputable def SCall (X : Cx) (n : Nat) : Prop := ∀ {A : Around} {B : Addr → Prop} {M : List Addr} {σ : St} {s : Shared} {f : Addr} {d : FnD} {vs : List Value} {as : List Mine.A} {r : Mine.A} {σ' : St} {Q : Value → Shared → Prop} {E : Value → Shared → Prop},
  Room A n → Inv X B M σ s.heap → FnAt X f d → ARs X B M σ s.heap vs as → (lev n).call d none noV as σ r σ' →
  (∀ v h' tk M', Inv X B M' σ' h' → Kp X (fun _ => False) M σ s.heap M' σ' h' → AR X B M' σ' h' v r → Q v { s with heap := h', toks := tk }) → wpAny (model X.prog X.w) A (call (.ref f) vs) Q E s

noncomputable def backV (f : Flow) : Value := match f with | .ret v => v | _ => .none
/-- back from a call -/
theorem call_end {B S : Addr → Prop} {env : Env} {M : List Addr} {σ : St} {s s₁ : Shared} {fl : Fl} {fr' : Fm} {σ' : St} {f : Flow} {s' : Shared} {r : Mine.A} {Q : Value → Shared → Prop}
    (I : Inv X B M σ s.heap) (k : ∀ a o, s.heap.get? a = some o → s₁.heap.get? a = some o) (hs : ∃ h tk, s₁ = { s with heap := h, toks := tk }) (hS : ∀ a, S a → s.heap.get? a = Option.none) (own : ∀ a, Own env a → S a)
    (er : RetR fl r)
    (p : PX X (fun c => B c ∨ S c) env M σ s₁ fl fr' σ' f s')
    (hQ : ∀ v h' tk M', Inv X B M' σ' h' → Kp X (fun _ => False) M σ s.heap M' σ' h' → AR X B M' σ' h' v r → Q v { s with heap := h', toks := tk }) :
    Q (backV f) s' := by
  obtain ⟨h₀, tk₀, rfl⟩ := hs
  obtain ⟨h', tk, M', I', R', K', q⟩ := p
  have K := ((Kp.ext (X := X) (C := Own env) (M := M) (σ := σ) k).tr K').weaken (C' := fun _ => False) fun a o e c => by
    rw [hS a (own a c)] at e; cases e
  induction er with
  | ret =>
    cases f <;> simp only [FlR] at q
    exact hQ _ _ _ _ (I'.less I.tabB) K q.less
  | next =>
    cases f <;> simp only [FlR] at q
    exact hQ _ _ _ _ (I'.less I.tabB) K (.none)

theorem step_call (ok : X.Ok) (hX : SExecs X n) : SCall X (n + 1) := by
  intro A B M σ s f d vs as r σ' Q E rm I F ra e hQ
  obtain ⟨o, name, qual, params, doc, pm, an, cdv, ct, ho, hd, hps, hcd, fo, p1, p2, p3, p4, p5, p6, hn⟩ := F
  simp only [fnOk, Bool.and_eq_true, Bool.not_eq_true', List.all_eq_true, beq_iff_eq, bne_iff_ne, ne_eq] at fo
  obtain ⟨⟨⟨⟨hk, hgen⟩, hco⟩, nd⟩, nf⟩ := fo
  replace e : CallS (lev n) d none noV as σ r σ' := e
  obtain ⟨fr, fr', fl0, ef, ex, er⟩ := e
  · obtain ⟨f1, f2, f3, f4, ⟨c', f5, f6, _⟩, f7, f8⟩ := enter_spec ef (ml := fun _ => none) (mc := fun _ => none) ra (fun x a e => by cases e) (fun x a e => by cases e)
    refine wpAny_call (codeAny_call_function rm.room (I.base _ _ ho) hd hco hgen rfl (hcd.keeps I.base) ?_)
    rw [bind_plain (hps ▸ nodupB_ok nd) (hps ▸ f8) p1 p2 p3 p5]
    rw [show (fnX name qual params d.body d.sc [] .none .none doc pm an cdv ct).params.args.map (·.arg) = d.ps from hps]
    refine wpAny_pure (wpAny_newFunctionEnv_cells hk (fun p hp => (f7 p hp).imp id fun q => ⟨q, cellsFrom_some (.inl (mem_of_lookup q))⟩) fun env he s1 x1 => ?_)
    subst he
    refine ⟨(ok.nolimit.keeps I.base).keeps x1.toInCall.keep, codeAny_func ?_⟩
    let L := s.heap.objs.size
    let cs := cellsFrom (L + 1) d.sc.names []
    let S : Addr → Prop := fun c => c = L ∨ ∃ x, cs.lookup x = some c
    have hS : ∀ c, S c → s.heap.get? c = none := fun c q => by
      rcases q with rfl | ⟨x, ex⟩
      · exact size_none _
      · exact get_none_ge (Nat.le_of_lt (x1.above x c (mem_of_lookup ex)))
    have hSb : ∀ c, S c → X.base.get? c = none := fun c q => by
      cases e : X.base.get? c with
      | none => rfl
      | some o => have := I.base _ _ e; rw [hS c q] at this; cases this
    have hx : ∀ c, S c → ∃ o, s1.heap.get? c = some o := fun c q => by
      rcases q with rfl | ⟨x, ex⟩
      · obtain ⟨o, _, _, e, _⟩ := x1.toInCall.ns; exact ⟨o, e⟩
      · obtain ⟨o, e, _⟩ := x1.cell x c ex; exact ⟨o, e⟩
    have I1 : Inv X (fun c => B c ∨ S c) M σ s1.heap := I.fresh x1.toInCall.keep hS hx
    have fa : ∀ {v : Value} {a : Mine.A}, AR X B M σ s.heap v a → AR X (fun c => B c ∨ S c) M σ s1.heap v a := fun r => r.fresh x1.toInCall.keep hS
    have kk : ∀ x, fr.kind x = d.sc.names.lookup x := fun x => by unfold Fm.kind; rw [f1]
    have nfree : ∀ x, d.sc.names.lookup x ≠ some .free := fun x q => nf _ (mem_of_lookup q) rfl
    · refine hX (fr := fr) rm.deeper I1 ?_ ex fun fl s' p => call_end (S := S) (s := s) I x1.toInCall.keep x1.toInCall.same hS ?_ er p hQ
      · exact {
          kind := hk, glob := rfl, blt := rfl
          kl := fun x q => by rw [kk] at q; exact q
          kg := fun x q => by rw [kk] at q; exact q
          kc := fun x q => by rw [kk] at q; exact q
          kf := fun x q => by rw [kk] at q; exact .inl q
          ns := ⟨_, x1.toInCall.ns, fun x a ea => let ⟨v, e1, e2⟩ := f4 x a ea; ⟨v, e1, fa e2⟩⟩
          cell := fun x q => by
            rw [kk] at q
            rcases q with q | q
            · exact Option.isSome_iff_exists.mp (cellsFrom_some (.inl (mem_of_lookup q)))
            · exact absurd q (nfree x)
          cello := fun x c ec => ⟨⟨_, x1.cell x c ec⟩, .inr (.inr ⟨x, ec⟩), hSb c (.inr ⟨x, ec⟩)⟩
          celv := fun x a c ea ec => by
            rw [f5] at ea
            replace ea : c' x = some a := by simpa [noV] using ea
            obtain ⟨v, e1, e2⟩ := f6 x a ea
            exact ⟨v, e1 ▸ x1.cell x c ec, fa e2⟩
          inj := fun x y c e1 e2 => name_of_addr x1.apart (mem_of_lookup e1) (mem_of_lookup e2)
          lB := .inr (.inl rfl)
          lnew := hSb _ (.inl rfl)
          clo := fun g d q => by rw [f2] at q; cases q
          nst := fun l c g q => by
            rw [f3] at q
            obtain ⟨t, ht, e1, e2, e3, e4⟩ := hn l c g q
            exact ⟨t, ht, e1, e2, e3, e4⟩ }
      · rintro a (rfl | ⟨x, _, e⟩)
        · exact .inl rfl
        · exact .inr ⟨x, e⟩
end
end Mine
namespace Mine
open PySem PySem.W PyProof.Rows PySem.Spec
section
variable {X : Cx} {n : Nat}

theorem bindL_all {k : Str → Option NameKind} {bs : List (Str × Value)} {x : Str} (h : ∀ p ∈ bs, k p.1 = some .local) : bindL k bs (fun _ => none) x = bs.reverse.lookup x := by
  rw [bindL_look h, Option.or_none]

/-- a nested def is called -/
theorem step_clo (ok : X.Ok) (hX : SExecs X n) {A : Around} {B : Addr → Prop} {env : Env} {fr₀ : Fm} {M : List Addr} {σ : St} {s : Shared} {g : Str} {d : FnD} {vs : List Value} {as : List Mine.A} {r : Mine.A} {σ' : St} {Q : Value → Shared → Prop} {E : Value → Shared → Prop}
    {c f : Addr} {o : Obj} {name qual : Str} {params : Arguments} {cl : List (Str × Addr)} {doc pm ctv : Value} {c' : Addr}
    (rm : Room A (n + 1)) (I : Inv X B M σ s.heap) (R : ER X B env fr₀ M σ s.heap) (hclo : fr₀.clo = some (g, d))
    (e1 : env.cells.lookup g = some c) (e2 : s.heap.IsCell c (some (.ref f))) (e3 : s.heap.get? f = some o) (e4 : o.data = .func (fnX name qual params d.body d.sc cl .none .none doc pm none (.ref c') ctv))
    (e5 : s.heap.CodeRec (.ref c') qual) (e6 : params.args.map (·.arg) = d.ps) (e7 : nestOk d.sc params = true) (e8 : ∀ y c, cl.lookup y = some c → env.cells.lookup y = some c)
    (e9 : ∀ y, d.sc.names.lookup y = some .free → ∃ c, cl.lookup y = some c) (e10 : ∀ x ∈ d.sc.names, x.2 ≠ .cell) (e11 : d.sc.names.lookup g = some .free)
    (ra : ARs X B M σ s.heap vs as) (e : CallS (lev n) d (some (g, d)) fr₀.cel as σ r σ')
    (hQ : ∀ v h' tk M', Inv X B M' σ' h' → Kp X (fun _ => False) M σ s.heap M' σ' h' → AR X B M' σ' h' v r → Q v { s with heap := h', toks := tk }) : wpAny (model X.prog X.w) A (call (.ref f) vs) Q E s := by
  have e7' := e7
  simp only [nestOk, Bool.and_eq_true, Bool.not_eq_true', List.isEmpty_iff, Option.isNone_iff_eq_none, beq_iff_eq] at e7'
  obtain ⟨⟨⟨⟨⟨⟨⟨⟨⟨⟨nd, hk⟩, hgen⟩, hco⟩, p1⟩, p2⟩, p3⟩, p4⟩, p5⟩, p6⟩, p7⟩ := e7'
  obtain ⟨fr, fr', fl0, ef, ex, er⟩ := e
  · obtain ⟨f1, f2, f3, f4, ⟨c0, f5, f6, f6'⟩, f7, f8⟩ := enter_spec ef (ml := fun _ => none) (mc := fun _ => none) ra (fun x a e => by cases e) (fun x a e => by cases e)
    have f5 : fr.cel = fr₀.cel := by rw [f5, f6' e10]; funext x; rfl
    have f7 : ∀ p ∈ d.ps.zip vs, d.sc.names.lookup p.1 = some .local := fun p hp => (f7 p hp).elim id fun q => absurd rfl (e10 _ (mem_of_lookup q))
    refine wpAny_call (codeAny_call_function rm.room e3 e4 hco hgen rfl e5 ?_)
    rw [bind_plain (nodupB_ok nd) (by rw [e6]; exact f8) p1 p2 p3 p5]
    rw [show (fnX name qual params d.body d.sc cl .none .none doc pm none (.ref c') ctv).params.args.map (·.arg) = d.ps from e6]
    refine wpAny_pure (wpAny_newFunctionEnv e10 f7 (fun h1 hns hs => ?_) hk)
    have kp : ∀ a o, s.heap.get? a = some o → h1.get? a = some o := fun a o e => hs.extBut a o (Nat.ne_of_lt (Heap.lt_size e)) (Heap.get?_push_of_some _ e)
    refine ⟨(ok.nolimit.keeps I.base).keeps kp, codeAny_func ?_⟩
    let L := s.heap.objs.size
    let S : Addr → Prop := fun c => c = L
    have hS : ∀ c, S c → s.heap.get? c = none := fun c q => by
      rw [show c = L from q]; exact size_none _
    have hSb : ∀ c, S c → X.base.get? c = none := fun c q => by
      cases e : X.base.get? c with
      | none => rfl
      | some o => have := I.base _ _ e; rw [hS c q] at this; cases this
    have I1 : Inv X (fun c => B c ∨ S c) M σ h1 := I.fresh kp hS fun c q => by
      rw [show c = L from q]
      obtain ⟨o, _, _, e, _⟩ := hns; exact ⟨o, e⟩
    have fa : ∀ {v : Value} {a : Mine.A}, AR X B M σ s.heap v a → AR X (fun c => B c ∨ S c) M σ h1 v a := fun r => r.fresh kp hS
    have kk : ∀ x, fr.kind x = d.sc.names.lookup x := fun x => by unfold Fm.kind; rw [f1]
    have nce : ∀ x, d.sc.names.lookup x ≠ some .cell := fun x q => e10 _ (mem_of_lookup q) rfl
    have hcl : cl.lookup g = some c := by
      obtain ⟨c2, q⟩ := e9 g e11
      have := e8 _ _ q
      rw [e1] at this; cases this; exact q
    · refine hX (fr := fr) (s := ⟨h1, s.gens, s.drawn, s.toks + (d.ps.zip vs).length, s.os⟩) rm.deeper I1 ?_ ex fun fl s' p => call_end (S := S) (s := s) (s₁ := ⟨h1, s.gens, s.drawn, s.toks + (d.ps.zip vs).length, s.os⟩) I kp ⟨_, _, rfl⟩ hS ?_ er p hQ
      · exact {
          kind := hk, glob := rfl, blt := rfl
          kl := fun x q => by rw [kk] at q; exact q
          kg := fun x q => by rw [kk] at q; exact q
          kc := fun x q => by rw [kk] at q; exact q
          kf := fun x q => by rw [kk] at q; exact .inl q
          ns := ⟨_, hns, fun x a ea => let ⟨v, e1, e2⟩ := f4 x a ea; ⟨v, (bindL_all f7).symm.trans e1, fa e2⟩⟩
          cell := fun x q => by
            rw [kk] at q
            rcases q with q | q
            · exact absurd q (nce x)
            · exact e9 x q
          cello := fun x c ec => let ⟨⟨ov, q⟩, b, z⟩ := R.cello x c (e8 x c ec); ⟨⟨ov, q.keeps kp⟩, .inl b, z⟩
          celv := fun x a c ea ec => by
            rw [f5] at ea
            obtain ⟨v, q1, q2⟩ := R.celv x a c ea (e8 x c ec)
            exact ⟨v, q1.keeps kp, fa q2⟩
          inj := fun x y c q1 q2 => R.inj x y c (e8 x c q1) (e8 y c q2)
          lB := .inr rfl
          lnew := hSb _ rfl
          clo := fun g' d' q => by
            rw [f2] at q; cases q
            refine ⟨⟨c, f, o, name, qual, params, cl, doc, pm, c', ctv, hcl, e2.keeps kp, kp _ _ e3, e4, e5.keeps kp, e6, e7, fun _ _ q => q, e9, e10, e11⟩, ?_⟩
            rw [f5]; exact (R.clo g d hclo).2
          nst := fun l c g' q => by
            rw [f3] at q
            simp at q }
      · rintro a (rfl | ⟨x, q, e⟩)
        · rfl
        · exact absurd q (nce x)

/-- a call's arguments -/
theorem args_ok (hA : SArgs X n) {A : Around} {B : Addr → Prop} {env : Env} {fr : Fm} {M : List Addr} {σ : St} {s : Shared} {as : List Mine.A} {σ' : St} {Q : Args → Shared → Prop} {E : Value → Shared → Prop}
    {f : Value} {pos : Pos} {args : List Expr} (rm : Room A n) (I : Inv X B M σ s.heap) (R : ER X B env fr M σ s.heap) (e : ArgsR (lev n) fr args σ as σ')
    (hQ : ∀ vs s', PS X B env fr M σ s σ' (fun M' h' => ARs X B M' σ' h' vs as) s' → Q ⟨vs, []⟩ s') : wpAny (model X.prog X.w) A (evalArgs f true (backTo pos (starEach args env)) []) Q E s := by
  have hA := hA (pos := pos) (E := E) rm I R e fun vs s' p => hQ vs s' p
  cases e with
  | nil => exact evalArgs_nil3 (hQ _ _ ⟨_, s.toks, M, I, R, .refl, .nil⟩)
  | cons hp _ _ =>
    rw [starEach_plain (no_star hp)] at hA ⊢
    exact Calls.evalArgs_plain hA

theorem ev_CallG (ok : X.Ok) (hA : SArgs X n) (hC : SCall X n) {A : Around} {B : Addr → Prop} {env : Env} {fr : Fm} {M : List Addr} {σ : St} {s : Shared} {a1 : Mine.A} {σ' : St} {Q : Value → Shared → Prop} {E : Value → Shared → Prop}
    {f : Str} {d : FnD} {p pos : Pos} {args : List Expr} (rm : Room A (n + 1)) (hk : fr.kind f = some .globalImplicit) (hf : fnOf f = some d) (hd : (f == ("__debug__" : Str)) = false)
    {as as' : List Mine.A} {σ1 τ τ' : St} {b : List Nat} {a' : Mine.A} (ea : ArgsR (lev n) fr args σ as σ1) (ep : pack σ1 as 0 = some (as', τ, b)) (ec : (lev n).call d none noV as' τ a' τ') (eh : handBack τ' b a' = some a1) (eu : unpack σ1 τ' b = some σ')
    (I : Inv X B M σ s.heap) (R : ER X B env fr M σ s.heap) (hQ : ∀ v s', PE X B env fr M σ s a1 σ' v s' → Q v s') : wpAny (model X.prog X.w) A (eval (.Call (.Name f p) args [] pos) env) Q E s := by
  obtain ⟨fa, em, F⟩ := ok.fn f d hf
  have F' := F
  obtain ⟨o, name, qual, params, doc, pm, an, cdv, ct, ho, hd', _⟩ := F'
  refine wpAny_Call_NameR (Calls.Name_function_global R.kind (R.kg _ hk) (Calls.loadGlobal_global (mg := X.mg) (R.glob ▸ ok.g.keeps I.base) em ?_) hd)
  refine Calls.callWith_function (o := o) (fd := fnX name qual params d.body d.sc [] .none .none doc pm an cdv ct) ?_
  refine args_ok hA rm.down I R ea fun vs s1 p1 => ?_
  obtain ⟨h1, tk1, M1, I1, R1, K1, ra⟩ := p1
  refine ⟨⟨I1.base _ _ ho, hd'⟩, ?_⟩
  obtain ⟨Bc, Mc, Ic, rc, back⟩ := call_view I1 ra ep
  refine hC rm.down (s := { s with heap := h1, toks := tk1 }) Ic F rc ec fun v h' tk M' I' K' r' => hQ _ _ ?_
  obtain ⟨I2, K2, r2⟩ := back I' K' r' eh eu
  exact ⟨h', tk, M1, I2, R1.kp0 I1 K2, K1.tr K2.of0, r2⟩

theorem ev_CallC (ok : X.Ok) (hA : SArgs X n) (hX : ∀ m, n = m + 1 → SExecs X m) {A : Around} {B : Addr → Prop} {env : Env} {fr : Fm} {M : List Addr} {σ : St} {s : Shared} {a : Mine.A} {σ' : St} {Q : Value → Shared → Prop} {E : Value → Shared → Prop}
    {f : Str} {d : FnD} {p pos : Pos} {args : List Expr} (rm : Room A (n + 1)) (hk : fr.kind f = some .cell ∨ fr.kind f = some .free) (hf : fr.clo = some (f, d)) (hd : (f == ("__debug__" : Str)) = false) (hd' : (f == ("__classdict__" : Str)) = false)
    {as : List Mine.A} {σ1 : St} (ea : ArgsR (lev n) fr args σ as σ1) (e : (lev n).call d (some (f, d)) fr.cel as σ1 a σ')
    (I : Inv X B M σ s.heap) (R : ER X B env fr M σ s.heap) (hQ : ∀ v s', PE X B env fr M σ s a σ' v s' → Q v s') : wpAny (model X.prog X.w) A (eval (.Call (.Name f p) args [] pos) env) Q E s := by
  obtain ⟨⟨c, fa, o, name, qual, params, cl, doc, pm, c', ctv, e1, e2, e3, e4, e5, e6, e7, e8, e9, e10, e11⟩, _⟩ := R.clo f d hf
  have ld : ∀ {Q : Value → Shared → Prop}, Q (.ref fa) s → wpAny (model X.prog X.w) A (loadName env f) Q E s := fun q => by
    rcases hk with hk | hk
    · exact wpAny_loadName_cell R.kind (R.kc f hk) e1 e2 q
    · rcases R.kf f hk with hf | hf
      · exact wpAny_loadName_free R.kind hf e1 e2 q hd'
      · exact wpAny_loadName_cell R.kind hf e1 e2 q
  refine wpAny_Call_NameR (wpAny_Name (ld ?_) hd)
  refine Calls.callWith_function (o := o) (fd := fnX name qual params d.body d.sc cl .none .none doc pm none (.ref c') ctv) ?_
  refine args_ok hA rm.down I R ea fun vs s1 p1 => ?_
  obtain ⟨h1, tk1, M1, I1, R1, K1, ra⟩ := p1
  obtain ⟨⟨c2, fa2, o2, name2, qual2, params2, cl2, doc2, pm2, c2', ctv2, e1', e2', e3', e4', e5, e6, e7, e8, e9, e10, e11⟩, _⟩ := R1.clo f d hf
  rw [e1] at e1'; cases e1'
  have hc : h1.IsCell c (some (.ref fa)) := let ⟨oc, q1, q2⟩ := e2; ⟨oc, K1.keep c oc (R.cnlive I e1) (R.cntab I e1) (R.cnloc e1) q1, q2⟩
  have : fa2 = fa := by
    obtain ⟨oc, q1, q2⟩ := hc
    obtain ⟨od, q3, q4⟩ := e2'
    rw [q1] at q3; cases q3
    rw [q2] at q4; cases q4; rfl
  subst this
  have ho : o2 = o := by
    have := K1.func I (fun a o e q => .inl (by subst q; obtain ⟨m, ⟨o', es, ep, e', d, _⟩, _⟩ := R.ns; rw [e] at e'; cases e'; exact ⟨_, _, d⟩)) fa2 o e3 ⟨_, e4⟩
    rw [this] at e3'; cases e3'; rfl
  subst ho
  refine ⟨⟨e3', e4⟩, ?_⟩
  cases n with
  | zero => exact e.elim
  | succ n =>
    refine step_clo ok (hX n rfl) (s := { s with heap := h1, toks := tk1 }) rm.down I1 R1 hf e1 hc e3' e4' e5 e6 e7 e8 e9 e10 e11 ra e fun v h' tk M' I' K' r' => hQ _ _ ?_
    exact ⟨h', tk, M', I', R1.kp0 I1 K', K1.tr K'.of0, r'⟩
end
end Mine
namespace Mine
open PySem PySem.W PyProof.Rows PySem.Spec

theorem ins_perm (x : Int) : ∀ l : List Int, (insSorted x l).Perm (x :: l)
  | [] => .refl _
  | y :: r => by
    unfold insSorted
    split
    · exact .refl _
    · exact ((ins_perm x r).cons y).trans (.swap x y r)
theorem isort_perm : ∀ l : List Int, (isort l).Perm l
  | [] => .refl _
  | x :: r => (ins_perm x _).trans ((isort_perm r).cons x)
theorem ins_sorted (x : Int) : ∀ l : List Int, l.Pairwise (· ≤ ·) → (insSorted x l).Pairwise (· ≤ ·)
  | [], _ => by simp [insSorted]
  | y :: r, h => by
    unfold insSorted
    rw [List.pairwise_cons] at h
    split
    · rename_i hx
      refine List.pairwise_cons.mpr ⟨fun z hz => ?_, List.pairwise_cons.mpr h⟩
      rcases List.mem_cons.mp hz with rfl | hz
      · exact hx
      · exact Int.le_trans hx (h.1 z hz)
    · rename_i hx
      refine List.pairwise_cons.mpr ⟨fun z hz => ?_, ins_sorted x r h.2⟩
      rcases List.mem_cons.mp ((ins_perm x r).mem_iff.mp hz) with rfl | hz
      · lia
      · exact h.1 z hz
theorem isort_sorted : ∀ l : List Int, (isort l).Pairwise (· ≤ ·)
  | [] => .nil
  | x :: r => ins_sorted x _ (isort_sorted r)
theorem isort_eq {l m : List Int} (p : m.Perm l) (s : m.Pairwise (· ≤ ·)) : m = isort l :=
  List.Perm.eq_of_pairwise (le := (· ≤ ·)) (fun a b _ _ h1 h2 => Int.le_antisymm h1 h2) s (isort_sorted l) (p.trans (isort_perm l).symm)

theorem ints_len {vs : List Value} {ns : List Int} (i : IntsAre vs ns) : vs.length = ns.length := by
  induction i with
  | nil => rfl
  | cons _ _ _ ih => simp [ih]
theorem keys_are : ∀ {us : List Value} {es : List (Int × Value)}, us.length = es.length → (∀ (j : Nat) (v : Value), us[j]? = some v → ∃ k x, es[j]? = some (k, x) ∧ v.isInt k) → IntsAre us (es.map (·.1))
  | [], [], _, _ => .nil
  | [], _ :: _, h, _ => by simp at h
  | _ :: _, [], h, _ => by simp at h
  | v :: us, (k, x) :: es, h, f => by
    obtain ⟨k', x', e1, e2⟩ := f 0 v rfl
    simp at e1
    obtain ⟨rfl, rfl⟩ := e1
    cases v <;> simp [Value.isInt] at e2
    subst e2
    exact .cons _ _ (keys_are (by simpa using h) fun j u e => by simpa using f (j + 1) u (by simpa using e))

inductive Shs (X : Cx) (h : Heap) (bad : Addr → Prop) : List Value → List F → Prop
  | nil : Shs X h bad [] []
  | cons {v x vs xs} : Sh X h bad v x → Shs X h bad vs xs → Shs X h bad (v :: vs) (x :: xs)

section
variable {X : Cx} {n : Nat} {A : Around} {B : Addr → Prop} {env : Env} {fr : Fm} {M : List Addr} {σ : St} {s : Shared} {a : Mine.A} {σ' : St} {Q : Value → Shared → Prop} {E : Value → Shared → Prop}

theorem ARs.read {h : Heap} (I : Inv X B M σ h) : ∀ {vs : List Value} {as : List Mine.A} {xs : List F}, ARs X B M σ h vs as → as.mapM (·.get σ) = some xs → Shs X h (Bad B M σ) vs xs
  | _, _, xs, .nil, e => by simp at e; subst e; exact .nil
  | _, _, xs, .cons (v := v) (a := a) r q, e => by
    rw [List.mapM_cons] at e
    simp only [Option.bind_eq_bind, Option.bind_eq_some_iff, Option.pure_def, Option.some.injEq] at e
    obtain ⟨y, e1, ys, e2, rfl⟩ := e
    exact .cons (I.read r e1) (ARs.read I q e2)

theorem ld_blt (ok : X.Ok) (I : Inv X B M σ s.heap) (R : ER X B env fr M σ s.heap) {f : Str} {v : Value} {p : Pos} (hk : fr.kind f = some .globalImplicit) (hb : bltOf f = some v) (hd : (f == ("__debug__" : Str)) = false) (h : Q v s) :
    wpAny (model X.prog X.w) A (eval (.Name f p) env) Q E s := by
  obtain ⟨_, h1, h2⟩ := ok.blt f v hb
  exact Calls.Name_function_global R.kind (R.kg _ hk) (Calls.loadGlobal_builtin (R.glob ▸ ok.g.keeps I.base) h1 (R.blt ▸ ok.b.keeps I.base) h2 h) hd

theorem sorted_end (I : Inv X B M σ s.heap) {h' : Heap} {m : Str → Option Value} (ns : s.heap.Ns env.locals m) {D : Addr} {vs' : List Value} {ns' ks : List Int} {e : Nat} {news : List (Addr × Obj)} {tk : Nat}
    (F : Fr emptyHeap env.locals h' m) (N : News emptyHeap env.locals h' ((D, seqObj "list" vs'.toArray e) :: news)) (sub : ∀ p ∈ others env.locals s.heap, p ∈ news) (gn : s.heap.get? D = none) (hi : IntsAre vs' ns') (p : ns'.Perm ks) (so : ns'.Pairwise (· ≤ ·))
    (hQ : ∀ v h' tk, Ex env.locals s.heap h' → FRx X h' (Bad B M σ) v (.lst ((isort ks).map .int)) → Q v { s with heap := h', toks := tk }) : Q (.ref D) { s with heap := h', toks := tk } := by
  have ex := exOf ns F N fun p hp => .tail _ (sub p hp)
  refine hQ _ _ _ ex (.lst ⟨_, (N _ (.head _)).1, rfl, _, rfl⟩ (nbad I gn) ?_)
  rw [← isort_eq p so]
  exact FRs.ofInts hi

theorem bo_len : bltOf (Str.ofString "len") = some (.builtin "len") := by kernel_rfl
theorem bo_sum : bltOf (Str.ofString "sum") = some (.builtin "sum") := by kernel_rfl
theorem bo_sorted : bltOf (Str.ofString "sorted") = some (.builtin "sorted") := by kernel_rfl
theorem bo_divmod : bltOf (Str.ofString "divmod") = some (.builtin "divmod") := by kernel_rfl

variable {vs : List Value} {xs : List F} {z : F}
theorem lenL_ok {ys : List F} (rs : Shs X s.heap (Bad B M σ) vs [.lst ys]) (hz : ys.length ≤ 16384)
    (hQ : ∀ v h' tk, Ex env.locals s.heap h' → FRx X h' (Bad B M σ) v (.int ys.length) → Q v { s with heap := h', toks := tk }) : wpAny (model X.prog X.w) A (call (.builtin "len") vs) Q E s := by
  have x0 : Ex env.locals s.heap s.heap := .of fun _ _ e => e
  cases rs with
  | cons r1 r2 =>
    cases r2
    obtain ⟨a, us, rfl, hl, fl⟩ := r1
    have hlen := fl.length
    refine Calls.call_len_list hl ?_ ?_
    · simp only [List.size_toArray]; lia
    · have := hQ (.int us.length (s.toks + 1)) s.heap (s.toks + 1 + 1) x0 (by rw [hlen]; exact .int _ _)
      simpa using this
theorem lenD_ok {ys : List (Int × F)} (rs : Shs X s.heap (Bad B M σ) vs [.dct ys]) (hz : ys.length ≤ 16384)
    (hQ : ∀ v h' tk, Ex env.locals s.heap h' → FRx X h' (Bad B M σ) v (.int ys.length) → Q v { s with heap := h', toks := tk }) : wpAny (model X.prog X.w) A (call (.builtin "len") vs) Q E s := by
  have x0 : Ex env.locals s.heap s.heap := .of fun _ _ e => e
  cases rs with
  | cons r1 r2 =>
    cases r2
    obtain ⟨a, es, rfl, hd, lo, hk, fl⟩ := r1
    have hlen : es.length = ys.length := by simpa using congrArg List.length hk
    refine call_len_dict lo hd ?_ ?_
    · lia
    · exact hQ (.int es.length (s.toks + 1)) s.heap (s.toks + 1 + 1) x0 (by rw [hlen]; exact .int _ _)

theorem sum_ok {ks : List Int} (R : ER X B env fr M σ s.heap) (hh : A.handled = none) (rs : Shs X s.heap (Bad B M σ) vs [.lst (ks.map .int)])
    (hQ : ∀ v h' tk, Ex env.locals s.heap h' → FRx X h' (Bad B M σ) v (.int ks.sum) → Q v { s with heap := h', toks := tk }) : wpAny (model X.prog X.w) A (call (.builtin "sum") vs) Q E s := by
  obtain ⟨m, ns, _⟩ := R.ns
  cases rs with
  | cons r1 r2 =>
    cases r2
    obtain ⟨a, us, rfl, hl, fl⟩ := r1
    exact LSm.sum_ints (frOf ns) (newsOf _ _) hh hl fl.ints fun h' tk t' F N => hQ _ _ _ (exOf ns F N fun _ hp => hp) (.int _ _)

theorem sortedL_ok {ks : List Int} (I : Inv X B M σ s.heap) (R : ER X B env fr M σ s.heap) (rs : Shs X s.heap (Bad B M σ) vs [.lst (ks.map .int)]) (hz : ks.length < 64)
    (hQ : ∀ v h' tk, Ex env.locals s.heap h' → FRx X h' (Bad B M σ) v (.lst ((isort ks).map .int)) → Q v { s with heap := h', toks := tk }) : wpAny (model X.prog X.w) A (call (.builtin "sorted") vs) Q E s := by
  obtain ⟨m, ns, _⟩ := R.ns
  cases rs with
  | cons r1 r2 =>
    cases r2
    obtain ⟨a, us, rfl, hl, fl⟩ := r1
    have hi := fl.ints
    have hlen := ints_len hi
    exact sorted_N (frOf ns) (newsOf _ _) hl hi (by lia) fun h' vs' ns' e F N hi' p so => sorted_end I ns F N (fun _ hp => hp) (get_none_ge (Nat.le_succ _)) hi' p so hQ
theorem sortedD_ok {kvs : List (Int × F)} (I : Inv X B M σ s.heap) (R : ER X B env fr M σ s.heap) (hh : A.handled = none) (rs : Shs X s.heap (Bad B M σ) vs [.dct kvs]) (hlt : kvs.length < 64)
    (hQ : ∀ v h' tk, Ex env.locals s.heap h' → FRx X h' (Bad B M σ) v (.lst ((isort (kvs.map (·.1))).map .int)) → Q v { s with heap := h', toks := tk }) : wpAny (model X.prog X.w) A (call (.builtin "sorted") vs) Q E s := by
  obtain ⟨m, ns, _⟩ := R.ns
  cases rs with
  | cons r1 r2 =>
    cases r2
    obtain ⟨a, es, rfl, hd, lo, hk, fl⟩ := r1
    have hlen : es.length = kvs.length := by simpa using congrArg List.length hk
    obtain ⟨o, q, ep, ho, hdd⟩ := hd
    refine kdu_sorted (kdl_dict (knd := intKind X.prog X.w) (kvs := es) (ep := ep) lo) hh (frOf ns) (newsOf _ _) ⟨o, q, ho, hdd⟩ (kdl_size (by lia)) fun D h' tk us F N hD hul hp => ?_
    have hi : IntsAre us (es.map (·.1)) := keys_are hul fun j v e => by
      obtain ⟨k, x, e1, e2⟩ := hp j v e
      exact ⟨k, x, e1, by simpa [intKind] using e2⟩
    have gn : s.heap.get? D = none := by
      cases q : s.heap.get? D with
      | none => rfl
      | some o =>
        by_cases hL : D = env.locals
        · exact absurd hL (N _ (.head _)).2.1
        · exact absurd (hD _ (mem_others hL q)) (Nat.lt_irrefl _)
    have hD' := (N _ (.head _)).1
    refine wpAny_call_entry slot_list_sort ⟨_, hD', rfl⟩ entry_list_sort (list_sort_tree hD' hi (by lia) fun out ns' a1 a2 a3 => ⟨_, rfl, ?_⟩) (args_list_sort _)
    have ex := exOf ns F N fun p hp => .tail _ hp
    obtain ⟨e', he⟩ := sortedHeap_at (vs := us) (out := out) hD'
    have keepS : ∀ b o, b ≠ D → h'.get? b = some o → (sortedHeap h' D us out).get? b = some o := fun b o hb e => by rw [sortedHeap_old hb (Heap.lt_size e)]; exact e
    have ex2 : Ex env.locals s.heap (sortedHeap h' D us out) := ⟨fun b o nb e => keepS b o (fun q => by rw [q, gn] at e; cases e) (ex.keep b o nb e), fun m n => by
      obtain ⟨o, es, ep, e, r⟩ := ex.ns m n
      exact ⟨o, es, ep, keepS _ _ (fun q => (N _ (.head _)).2.1 q.symm) e, r⟩⟩
    refine hQ _ _ _ ex2 (.lst ⟨_, he, rfl, _, rfl⟩ (nbad I gn) ?_)
    rw [← hk, ← isort_eq a2 a3]
    exact FRs.ofInts a1

theorem divmod_ok {a b : Int} (I : Inv X B M σ s.heap) (R : ER X B env fr M σ s.heap) (rs : Shs X s.heap (Bad B M σ) vs [.int a, .int b]) (h0 : 0 < b) (h1 : b.natAbs < 1000000)
    (hQ : ∀ v h' tk, Ex env.locals s.heap h' → FRx X h' (Bad B M σ) v (.tup [.int (a.fdiv b), .int (a.fmod b)]) → Q v { s with heap := h', toks := tk }) : wpAny (model X.prog X.w) A (call (.builtin "divmod") vs) Q E s := by
  obtain ⟨m, ns, _⟩ := R.ns
  cases rs with
  | cons r1 r2 =>
    cases r2 with
    | cons r2 r3 =>
    cases r3
    obtain ⟨t, rfl⟩ := r1
    obtain ⟨t', rfl⟩ := r2
    refine divmod_N (frOf ns) (newsOf _ _) (by lia) (fun h' F N => ?_) (.inl (PyProof.noPylong_small (by lia)))
    have ex := exOf ns F N fun p hp => .tail _ hp
    exact hQ _ _ _ ex (fr_tup I R ex (size_none _) ⟨_, (N _ (.head _)).1, rfl, _, rfl⟩ (.cons (.int _ _) (.cons (.int _ _) .nil)))

theorem PS.ex {M' : List Addr} {h' h₂ : Heap} {tk : Nat} {v : Value} (I : Inv X B M' σ' h') (R : ER X B env fr M' σ' h') (K : Kp X (fun a => a = env.locals) M σ s.heap M' σ' h') (x : Ex env.locals h' h₂) (r : FRx X h₂ (Bad B M' σ') v z) :
    PE X B env fr M σ s (.v z) σ' v { s with heap := h₂, toks := tk } := PE.endx K I R x r

theorem plain_args {n : Nat} {fr : Fm} {pos : Pos} (env : Env) : ∀ {es : List Expr} {σ σ' : St} {as : List Mine.A}, ArgsR (lev n) fr es σ as σ' → (backTo pos (starEach es env)).any (·.1) = false
  | [], _, _, _, _ => rfl
  | y :: r, _, _, _, e => by
    cases e with
    | cons hp e1 e2 =>
      rw [starEach_plain (no_star hp)]
      exact plain_args env e2

theorem ev_CallB (ok : X.Ok) (hA : SArgs X n) {f : Str} {p pos : Pos} {args : List Expr} (rm : Room A (n + 1)) (hk : fr.kind f = some .globalImplicit) (hd : (f == ("__debug__" : Str)) = false)
    {as : List Mine.A} (ea : ArgsR (lev n) fr args σ as σ') (ex : as.mapM (·.get σ') = some xs) (ez : BltR f xs z)
    (I : Inv X B M σ s.heap) (R : ER X B env fr M σ s.heap) (hQ : ∀ v s', PE X B env fr M σ s (.v z) σ' v s' → Q v s') : wpAny (model X.prog X.w) A (eval (.Call (.Name f p) args [] pos) env) Q E s := by
  have go : ∀ {id : String}, bltOf f = some (.builtin id) → (∀ {B : Addr → Prop} {M : List Addr} {σ : St} {s : Shared} {vs : List Value} {Q : Value → Shared → Prop}, Inv X B M σ s.heap → ER X B env fr M σ s.heap → A.handled = none → Shs X s.heap (Bad B M σ) vs xs →
      (∀ v h' tk, Ex env.locals s.heap h' → FRx X h' (Bad B M σ) v z → Q v { s with heap := h', toks := tk }) → wpAny (model X.prog X.w) A (call (.builtin id) vs) Q E s) → wpAny (model X.prog X.w) A (eval (.Call (.Name f p) args [] pos) env) Q E s := by
    intro id hb hc
    refine wpAny_Call_NameR (ld_blt ok I R hk hb hd ?_)
    refine Calls.callWith_builtin (plain_args env ea) (args_ok hA rm.down I R ea fun vs s1 p1 => ?_)
    obtain ⟨h1, tk1, M1, I1, R1, K1, ra⟩ := p1
    exact hc (s := { s with heap := h1, toks := tk1 }) I1 R1 rm.hh (ARs.read I1 ra ex) fun v h' tk x r => hQ _ _ (PE.endx K1 I1 R1 x r)
  induction ez with
  | lenL h => exact go bo_len fun I R hh rs hQ => lenL_ok rs h hQ
  | lenD h => exact go bo_len fun I R hh rs hQ => lenD_ok rs h hQ
  | sum h => exact go bo_sum fun I R hh rs hQ => sum_ok R hh rs hQ
  | sortL h => exact go bo_sorted fun I R hh rs hQ => sortedL_ok I R rs h hQ
  | sortD h => exact go bo_sorted fun I R hh rs hQ => sortedD_ok I R hh rs h hQ
  | divmod h h' => exact go bo_divmod fun I R hh rs hQ => divmod_ok I R rs h h' hQ

theorem bo_isinstance : bltOf (Str.ofString "isinstance") = some (.builtin "isinstance") := by kernel_rfl
theorem bo_tuple : bltOf (Str.ofString "tuple") = some (.type "tuple") := by kernel_rfl
theorem bo_list : bltOf (Str.ofString "list") = some (.type "list") := by kernel_rfl
theorem nd_isinstance : (Str.ofString "isinstance" == ("__debug__" : Str)) = false := by kernel_rfl
theorem nd_tuple : (Str.ofString "tuple" == ("__debug__" : Str)) = false := by kernel_rfl
theorem nd_list : (Str.ofString "list" == ("__debug__" : Str)) = false := by kernel_rfl

theorem ev_isinstance (ok : X.Ok) (hE : SEval X n) {p p' pos : Pos} {x : Expr} (rm : Room A (n + 1)) (hk : fr.kind (Str.ofString "isinstance") = some .globalImplicit) (hk' : fr.kind (Str.ofString "tuple") = some .globalImplicit)
    {i : Int} (hp : plainE x = true) (e : (lev n).ev fr σ x (.v (.int i)) σ')
    (I : Inv X B M σ s.heap) (R : ER X B env fr M σ s.heap) (hQ : ∀ v s', PE X B env fr M σ s (.v (.bool false)) σ' v s' → Q v s') : wpAny (model X.prog X.w) A (eval (.Call (.Name (Str.ofString "isinstance") p) [x, .Name (Str.ofString "tuple") p'] [] pos) env) Q E s := by
  refine wpAny_Call_NameR (ld_blt ok I R hk bo_isinstance nd_isinstance ?_)
  have hs := no_star hp
  refine Calls.callWith_builtin (by rw [starEach_plain hs]; rfl) ?_
  rw [starEach_plain hs, starEach_plain (fun _ _ q => by cases q)]
  refine Calls.evalArgs_plain (Calls.spliced_cons (hE rm.down I R e fun v1 s1 p1 => ?_))
  obtain ⟨h1, tk1, M1, I1, R1, K1, r1⟩ := p1
  refine Calls.spliced_cons (ld_blt ok (s := { s with heap := h1, toks := tk1 }) I1 R1 hk' bo_tuple nd_tuple (Calls.spliced_nil ?_))
  cases r1
  exact IsiPair.int_tuple (hQ _ _ (PE.end0 K1 I1 R1 (.bool false)))
end
end Mine
namespace Mine
open PySem PySem.W PyProof.Rows PySem.Spec

section
variable {X : Cx} {n : Nat} {A : Around} {B : Addr → Prop} {env : Env} {fr : Fm} {M : List Addr} {σ : St} {s : Shared} {a : Mine.A} {σ' : St} {Q : Value → Shared → Prop} {E : Value → Shared → Prop}

theorem upd_R {h h' : Heap} {k : Nat} {D : Addr} {x y : F} (I : Inv X B M σ h) (R : ER X B env fr M σ h) (ea : M[k]? = some D) (ex : σ[k]? = some (x, true)) (hs : Heap.SameBut D h h')
    (r : (∀ vs xs, FRsx X h (Bad B M σ) vs xs → FRsx X h' (Bad B M (σ.set k (y, true))) vs xs) → (∀ v x, FRx X h (Bad B M σ) v x → FRx X h' (Bad B M (σ.set k (y, true))) v x) → OR X h' (Bad B M (σ.set k (y, true))) D y) :
    Inv X B M (σ.set k (y, true)) h' ∧ ER X B env fr M (σ.set k (y, true)) h' ∧ Kp X (fun a => a = env.locals) M σ h M (σ.set k (y, true)) h' := by
  obtain ⟨I', K'⟩ := upd_ok (C := fun a => a = env.locals) I ea ex hs r
  have ne : env.locals ≠ D := fun q => R.nlive I (q ▸ ⟨k, x, ea, ex⟩)
  exact ⟨I', R.kpL I K' (fun m ns => ns.sameBut hs ne), K'⟩

theorem or_list {h : Heap} {bad : Addr → Prop} {D : Addr} {xs : List F} (r : OR X h bad D (.lst xs)) : ∃ vs m, h.get? D = some (listOf (List.toArray vs) m) ∧ FRsx X h bad vs xs := r

theorem frs_dropLast {prog : Program} {w : World} {h : Heap} {bad : Addr → Prop} {vs : List Value} {xs : List F} (r : FRs prog w h bad vs xs) : FRs prog w h bad vs.dropLast xs.dropLast := by
  rw [List.dropLast_eq_take, List.dropLast_eq_take, r.length]; exact r.take _

/-- a list in the store -/
theorem list_obj {s : Shared} {D : Addr} {vs : List Value} {m : Nat} (e : s.heap.get? D = some (listOf vs.toArray m)) : s.TypeIs (.ref D) "list" ∧ ∀ a, Value.ref D = .ref a → ∃ ob, s.heap.get? a = some ob ∧ ob.dict = none :=
  ⟨⟨_, e, rfl⟩, fun a q => by cases q; exact ⟨_, e, rfl⟩⟩
theorem sh_type {h : Heap} {bad : Addr → Prop} {v : Value} {s : Shared} (hs : s.heap = h) {kvs : List (Int × F)} (r : Sh X h bad v (.dct kvs)) : s.TypeIs v "dict" ∧ ∀ a, v = .ref a → ∃ ob, s.heap.get? a = some ob ∧ ob.dict = none := by
  subst hs
  obtain ⟨a, es, rfl, ⟨o, q, ep, ho, ⟨hc, hd, _⟩, _⟩, _⟩ := r
  exact ⟨⟨o, ho, hc⟩, fun b q => by cases q; exact ⟨o, ho, hd⟩⟩

theorem ev_append (hE : SEval X n) {o : Str} {p ap q : Pos} {x : Expr} (rm : Room A (n + 1)) (hl : (ap.endLine == q.line) = true) (hp : plainE x = true)
    {k : Nat} {b : Mine.A} {σ1 σ2 σ3 : St} {x0 xs : List F} {y : F} (e1 : (lev n).ev fr σ (.Name o p) (.r k) σ1) (e2 : (Mine.A.r k).get σ1 = some (.lst x0)) (e3 : (lev n).ev fr σ1 x b σ2) (e4 : b.fz σ2 = some (y, σ3)) (ex : σ3[k]? = some (.lst xs, true)) (hsz : xs.length ≤ 4096)
    (I : Inv X B M σ s.heap) (R : ER X B env fr M σ s.heap) (hQ : ∀ v s', PE X B env fr M σ s (.v .none) (σ3.set k (.lst (xs ++ [y]), true)) v s' → Q v s') : wpAny (model X.prog X.w) A (eval (.Call (.Attribute (.Name o p) (Str.ofString "append") ap) [x] [] q) env) Q E s := by
  have hs := no_star hp
  refine wpAny_Call_method rfl (by rw [starEach_plain hs]; rfl) hl F.plainAttrs_list F.slot_list_append F.type_list_append (hE rm.down I R e1 fun v1 s1 p1 => ?_)
  obtain ⟨h1, tk1, M1, I1, R1, K1, r1⟩ := p1
  obtain ⟨D, eD, rfl⟩ := r1
  simp only [Mine.A.get, Option.map_eq_some_iff] at e2
  obtain ⟨⟨z, bb⟩, ez, hz⟩ := e2
  cases hz
  obtain ⟨vs, m, ho, fl⟩ := or_list (I1.ob k D _ bb eD ez)
  refine ⟨(list_obj (s := { s with heap := h1, toks := tk1 }) ho).1, (list_obj (s := { s with heap := h1, toks := tk1 }) ho).2, ?_⟩
  rw [starEach_plain hs]
  refine Calls.callWith_builtin rfl (Calls.evalArgs_plain (Calls.spliced_cons (hE rm.down (s := { s with heap := h1, toks := tk1 }) I1 R1 e3 fun v2 s2 p2 => ?_)))
  obtain ⟨h2, tk2, M2, I2, R2, K2, r2⟩ := p2
  refine Calls.spliced_nil ?_
  obtain ⟨I3, K3, r3⟩ := fz_ok (C := fun a => a = env.locals) I2 r2 e4
  have R3 := R2.kpL I2 K3 (fun _ n => n)
  have eD3 := (K2.pre k (List.getElem?_eq_some_iff.mp eD).1).trans eD
  obtain ⟨us, m', ho', fl'⟩ := or_list (I3.ob k D _ true eD3 ex)
  have hlen := fl'.length
  refine append_at ho' (fun h' hs' ho2 => hQ _ _ ?_) (by show us.length ≤ 16777216; lia)
  obtain ⟨I4, R4, K4⟩ := upd_R (y := .lst (xs ++ [y])) I3 R3 eD3 ex hs' fun f g => ⟨us ++ [v2], m' + 1, by simpa using ho2, (f _ _ fl').append (.cons (g _ _ r3) .nil)⟩
  exact ⟨h', tk2, M2, I4, R4, ((K1.tr K2).tr K3).tr K4, .none⟩

theorem ev_mut (hE : SEval X n) {o mt : Str} {p ap q : Pos} (rm : Room A (n + 1)) (hl : (ap.endLine == q.line) = true)
    {k : Nat} {σ1 : St} {x x' y : F} (e1 : (lev n).ev fr σ (.Name o p) (.r k) σ1) (ex : σ1[k]? = some (x, true)) (hm : MutR mt x x' y)
    (I : Inv X B M σ s.heap) (R : ER X B env fr M σ s.heap) (hQ : ∀ v s', PE X B env fr M σ s (.v y) (σ1.set k (x', true)) v s' → Q v s') : wpAny (model X.prog X.w) A (eval (.Call (.Attribute (.Name o p) mt ap) [] [] q) env) Q E s := by
  induction hm with
  | @pop xs y hsz e3 =>
    refine wpAny_Call_method rfl rfl hl F.plainAttrs_list F.slot_list_pop F.type_list_pop (hE rm.down I R e1 fun v1 s1 p1 => ?_)
    obtain ⟨h1, tk1, M1, I1, R1, K1, D, eD, rfl⟩ := p1
    obtain ⟨us, m', ho', fl'⟩ := or_list (I1.ob k D _ true eD ex)
    have hlen := fl'.length
    refine ⟨(list_obj (s := { s with heap := h1, toks := tk1 }) ho').1, (list_obj (s := { s with heap := h1, toks := tk1 }) ho').2, ?_⟩
    refine Calls.callWith_builtin rfl (evalArgs_nil3 ?_)
    have e3' : xs[us.length - 1]? = some y := by rw [hlen]; rw [← List.getLast?_eq_getElem?]; exact e3
    obtain ⟨v, ev, rv⟩ := fl'.get _ e3'
    refine Copied.pop_at ho' (y := v) (by simpa using ev) (fun h' hs' ho2 => hQ _ _ ?_) (by show us.length ≤ 16777216; lia)
    obtain ⟨I4, R4, K4⟩ := upd_R (y := .lst xs.dropLast) I1 R1 eD ex hs' fun f g => ⟨us.dropLast, m' + 1, by simpa using ho2, frs_dropLast (f _ _ fl')⟩
    exact ⟨h', tk1, M1, I4, R4, K1.tr K4, rv.kp I1 K4 (fun a q => q ▸ R1.lB)⟩
  | @reverse xs hsz =>
    refine wpAny_Call_method rfl rfl hl F.plainAttrs_list F.slot_list_reverse F.type_list_reverse (hE rm.down I R e1 fun v1 s1 p1 => ?_)
    obtain ⟨h1, tk1, M1, I1, R1, K1, D, eD, rfl⟩ := p1
    obtain ⟨us, m', ho', fl'⟩ := or_list (I1.ob k D _ true eD ex)
    have hlen := fl'.length
    refine ⟨(list_obj (s := { s with heap := h1, toks := tk1 }) ho').1, (list_obj (s := { s with heap := h1, toks := tk1 }) ho').2, ?_⟩
    have hup : (h1.update D (Obj.mapSeq fun x => x.reverse)).get? D = some (W.listOf (List.toArray us.reverse) (if us.toArray.reverse.size == us.toArray.size then m' else m' + 1)) := by
      have := IsL.update ho' (fun x => x.reverse)
      rw [show (List.toArray us.reverse) = us.toArray.reverse by simp]; exact this
    refine P.reverse_list ho' (hQ _ _ ?_) (by show us.length ≤ 16777216; lia)
    obtain ⟨I4, R4, K4⟩ := upd_R (y := .lst xs.reverse) I1 R1 eD ex (h' := h1.update D (Obj.mapSeq fun x => x.reverse)) (Heap.SameBut.update ..) fun f g => ⟨us.reverse, _, hup, (f _ _ fl').reverse⟩
    exact ⟨_, tk1, M1, I4, R4, K1.tr K4, .none⟩

theorem ev_get (hE : SEval X n) {o : Str} {p ap q : Pos} {x d : Expr} (rm : Room A (n + 1)) (hl : (ap.endLine == q.line) = true) (hp : plainE x = true) (hp' : plainE d = true)
    {a0 b : Mine.A} {σ1 σ2 : St} {kv0 kvs : List (Int × F)} {i : Int} (e1 : (lev n).ev fr σ (.Name o p) a0 σ1) (e2 : a0.get σ1 = some (.dct kv0)) (e3 : (lev n).ev fr σ1 x (.v (.int i)) σ2) (e4 : (lev n).ev fr σ2 d b σ')
    (e5 : a0.get σ' = some (.dct kvs))
    (I : Inv X B M σ s.heap) (R : ER X B env fr M σ s.heap) (hQ : ∀ v s', PE X B env fr M σ s ((dget i kvs).elim b Mine.A.v) σ' v s' → Q v s') : wpAny (model X.prog X.w) A (eval (.Call (.Attribute (.Name o p) (Str.ofString "get") ap) [x, d] [] q) env) Q E s := by
  have hs := no_star hp
  have hs' := no_star hp'
  refine wpAny_Call_method rfl (by rw [starEach_plain hs, starEach_plain hs']; rfl) hl F.plainAttrs_dict F.slot_dict_get F.type_dict_get (hE rm.down I R e1 fun v1 s1 p1 => ?_)
  obtain ⟨h1, tk1, M1, I1, R1, K1, r1⟩ := p1
  have sh := I1.read r1 e2
  obtain ⟨D, es0, rfl, d0, lo, _⟩ := sh
  refine ⟨(sh_type (s := { s with heap := h1, toks := tk1 }) rfl (I1.read r1 e2)).1, (sh_type (s := { s with heap := h1, toks := tk1 }) rfl (I1.read r1 e2)).2, ?_⟩
  rw [starEach_plain hs, starEach_plain hs']
  refine wpAny_dict_get2 (knd := intKind X.prog X.w) lo (hE rm.down (s := { s with heap := h1, toks := tk1 }) I1 R1 e3 fun v2 s2 p2 => ?_)
  obtain ⟨h2, tk2, M2, I2, R2, K2, r2⟩ := p2
  refine hE rm.down (s := { s with heap := h2, toks := tk2 }) I2 R2 e4 fun v3 s3 p3 => ?_
  obtain ⟨h3, tk3, M3, I3, R3, K3, r3⟩ := p3
  have r1 := (r1.kp I1 K2 (fun a q => q ▸ R1.lB)).kp I2 K3 (fun a q => q ▸ R2.lB)
  obtain ⟨D', es, q', dd, lo', hk, fl⟩ := I3.read r1 e5
  cases q'
  cases r2
  refine ⟨i, valueAt es, intKind_is _ _ _ _, dd.mapOf, hQ _ _ ?_⟩
  have dl := dget_lookup hk fl (k := i)
  cases hd : dget i kvs with
  | none => rw [dl.2 hd]; exact PE.end0 ((K1.tr K2).tr K3) I3 R3 r3
  | some y =>
    obtain ⟨v, ev, rv⟩ := dl.1 y hd
    rw [ev]
    exact PE.end0 ((K1.tr K2).tr K3) I3 R3 rv
end
end Mine
namespace Mine
open PySem PySem.W PyProof.Rows PySem.Spec

section
variable {X : Cx} {n : Nat} {A : Around} {B : Addr → Prop} {env : Env} {fr : Fm} {M : List Addr} {σ : St} {s : Shared} {a : Mine.A} {σ' : St} {Q : Value → Shared → Prop} {E : Value → Shared → Prop}

theorem call_items {d : Addr} {es : List (Int × Value)} (hd : s.heap.DictOf (intKind X.prog X.w) d es) (lo : (d == sysModules) = false)
    (h : Q (.ref s.heap.objs.size) { s with heap := s.heap.push { cls := .type "dict_items", data := .fields #[.ref d] } }) : wpAny (model X.prog X.w) A (call (.builtin "dict.items") [.ref d]) Q E s :=
  call_meetsIn PySem.F.slot_dict_items hd.typeIs PySem.F.entry_dict_items (PySem.F.args_dict_items_1 _) (meets_dict_items (intKind X.prog X.w) d lo) ⟨⟨es, hd⟩, h⟩

theorem items_frs {h' : Heap} {bad : Addr → Prop} : ∀ {as : List Addr} {es : List (Int × Value)} {kvs : List (Int × F)}, as.length = es.length → es.map (·.1) = kvs.map (·.1) → FRsx X h' bad (es.map (·.2)) (kvs.map (·.2)) →
    (∀ (j : Nat) (a : Addr), as[j]? = some a → ∃ key k x, es[j]? = some (k, x) ∧ (intKind X.prog X.w).is k key = true ∧ h'.get? a = some { cls := .type "tuple", data := .seq #[key, x] }) → (∀ a ∈ as, ¬ bad a) →
    FRsx X h' bad (as.map Value.ref) (kvs.map fun p => .tup [.int p.1, p.2])
  | [], [], [], _, _, _, _, _ => .nil
  | [], [], _ :: _, _, hk, _, _, _ => by simp at hk
  | [], _ :: _, _, hl, _, _, _, _ => by simp at hl
  | _ :: _, [], _, hl, _, _, _, _ => by simp at hl
  | _ :: _, _ :: _, [], _, hk, _, _, _ => by simp at hk
  | a :: as, (k, v) :: es, (k', y) :: kvs, hl, hk, f, hp, nb => by
    simp only [List.map_cons, List.cons.injEq] at hk
    obtain ⟨rfl, hk⟩ := hk
    cases f with
    | cons f1 f2 =>
      obtain ⟨key, k2, x, e1, e2, e3⟩ := hp 0 a rfl
      simp at e1
      obtain ⟨rfl, rfl⟩ := e1
      have : ∃ t, key = .int k t := by
        simp only [intKind] at e2
        cases key <;> simp [Value.isInt] at e2
        subst e2; exact ⟨_, rfl⟩
      obtain ⟨t, rfl⟩ := this
      refine .cons (.tup ⟨_, e3, rfl, 0, rfl⟩ (nb a (.head _)) (.cons (.int _ _) (.cons f1 .nil))) ?_
      exact items_frs (by simpa using hl) hk f2 (fun j b e => by simpa using hp (j + 1) b (by simpa using e)) (fun b hb => nb b (.tail _ hb))

theorem ev_listItems (ok : X.Ok) (hE : SEval X n) {o : Str} {p p0 ap q pos : Pos} (rm : Room A (n + 1)) (hk : fr.kind (Str.ofString "list") = some .globalImplicit) (hl : (ap.endLine == q.line) = true)
    {a0 : Mine.A} {kvs : List (Int × F)} (e1 : (lev n).ev fr σ (.Name o p) a0 σ') (e2 : a0.get σ' = some (.dct kvs)) (hlen : kvs.length ≤ 4096)
    (I : Inv X B M σ s.heap) (R : ER X B env fr M σ s.heap) (hQ : ∀ v s', PE X B env fr M σ s (.v (.lst (kvs.map fun p => .tup [.int p.1, p.2]))) σ' v s' → Q v s') :
    wpAny (model X.prog X.w) A (eval (.Call (.Name (Str.ofString "list") p0) [.Call (.Attribute (.Name o p) (Str.ofString "items") ap) [] [] q] [] pos) env) Q E s := by
  refine wpAny_Call_NameR (ld_blt ok I R hk bo_list nd_list ?_)
  refine PySem.callWith_type (by rfl) ?_
  refine Calls.evalArgs_plain (Calls.spliced_cons (wpAny_Call_method rfl rfl hl F.plainAttrs_dict F.slot_dict_items F.type_dict_items (hE rm.down I R e1 fun v1 s1 p1 => ?_)))
  obtain ⟨h1, tk1, M1, I1, R1, K1, r1⟩ := p1
  have sh := I1.read r1 e2
  refine ⟨(sh_type (s := { s with heap := h1, toks := tk1 }) rfl sh).1, (sh_type (s := { s with heap := h1, toks := tk1 }) rfl sh).2, ?_⟩
  obtain ⟨D, es, rfl, dd, lo, hks, fl⟩ := sh
  refine Calls.callWith_builtin rfl (evalArgs_nil3 (call_items (s := { s with heap := h1, toks := tk1 }) dd lo (Calls.spliced_nil ?_)))
  have kv : ∀ b o, h1.get? b = some o → (h1.push ({ cls := .type "dict_items", data := .fields #[.ref D] } : Obj)).get? b = some o := fun _ _ e => Heap.get?_push_of_some _ e
  obtain ⟨oo, qq, ep, ho, hdd⟩ := dd
  have hlen' : es.length = kvs.length := by simpa using congrArg List.length hks
  refine kdx_call (knd := intKind X.prog X.w) (kvs := es) (ep := ep) rm.hh ⟨_, Heap.get?_push_size _ rfl, rfl, rfl⟩ ⟨oo, qq, kv _ _ ho, hdd⟩ (kdl_size (by lia)) fun h' tk acc c as k' hS hal g hacc => hQ _ _ ?_
  have x : Ex env.locals h1 h' := .of fun b o e => k' b o (kv b o e)
  have gt : ∀ b, h1.objs.size < b → ¬ Bad B M1 σ' b := fun b hb => nbad I1 (get_none_ge (Nat.le_of_lt hb))
  have hsz : (h1.push ({ cls := .type "dict_items", data := .fields #[.ref D] } : Obj)).objs.size = h1.objs.size + 1 := Heap.size_push ..
  refine PE.endx K1 I1 R1 x (.lst (vs := as.map Value.ref) ⟨_, hS, rfl, c, ?_⟩ (gt _ (by show _ < (h1.push _).objs.size; rw [hsz]; exact Nat.lt_succ_self _)) ?_)
  · rw [← hacc]
  · refine items_frs (by rw [hal]) hks (fl.mono (fun b o _ e => k' b o (kv b o e)) (fun _ _ _ q => q)) g.pairs fun b hb => gt b ?_
    have := g.above b hb
    exact Nat.lt_trans (by show _ < (h1.push _).objs.size; rw [hsz]; exact Nat.lt_succ_self _) this
end
end Mine
namespace Mine
open PySem PySem.W PyProof.Rows PySem.Spec

section
variable {X : Cx} {n : Nat} {A : Around} {B : Addr → Prop} {env : Env} {fr fr' : Fm} {M : List Addr} {σ : St} {s : Shared} {a : Mine.A} {σ' : St} {h h' : Heap} {E : Value → Shared → Prop}

theorem ER.ownB (R : ER X B env fr M σ h) : ∀ a, Own env a → B a := fun a q => q.elim (fun q => q ▸ R.lB) fun ⟨x, _, e⟩ => (R.cello x a e).2.1
theorem ER.ownData (R : ER X B env fr M σ h) : ∀ a o, h.get? a = some o → Own env a → (∃ es ep, o.data = .dict es ep) ∨ ∃ v, o.data = .cell v := fun a o e q => by
  rcases q with rfl | ⟨x, _, ec⟩
  · obtain ⟨m, ⟨o', es, ep, e', d, _⟩, _⟩ := R.ns
    rw [e] at e'; cases e'; exact .inl ⟨_, _, d⟩
  · obtain ⟨⟨ov, o', e', d⟩, _⟩ := R.cello x a ec
    rw [e] at e'; cases e'; exact .inr ⟨_, d⟩

/-- what storing a name changes -/
noncomputable def OwnF (sc : Scope) (env : Env) (a : Addr) : Prop := a = env.locals ∨ ∃ x, sc.names.lookup x = some .cell ∧ env.kindOf x = some .cell ∧ env.cells.lookup x = some a
theorem OwnF.own {sc : Scope} {a : Addr} (q : OwnF sc env a) : Own env a := q.imp id fun ⟨x, _, k, e⟩ => ⟨x, k, e⟩
theorem ER.ownFB (R : ER X B env fr M σ h) {sc : Scope} : ∀ a, OwnF sc env a → B a := fun a q => R.ownB a q.own
theorem ER.ownFData (R : ER X B env fr M σ h) {sc : Scope} : ∀ a o, h.get? a = some o → OwnF sc env a → (∃ es ep, o.data = .dict es ep) ∨ ∃ v, o.data = .cell v := fun a o e q => R.ownData a o e q.own
theorem Kp.ofF {sc : Scope} {M' : List Addr} (K : Kp X (OwnF sc env) M σ h M' σ' h') : Kp X (Own env) M σ h M' σ' h' := K.weaken fun _ _ _ q => q.own
theorem set_sc {x : Str} (e : fr.set x a = some fr') : fr'.sc = fr.sc := by
  unfold Fm.set at e
  split at e
  · cases e; rfl
  · split at e <;> cases e; rfl
  · cases e

/-- the frame's own object is changed -/
theorem own_ok (I : Inv X B M σ h) {L : Addr} (C : Addr → Prop) (hC : C L) (hCB : ∀ a, C a → B a) (hCd : ∀ a o, h.get? a = some o → C a → (∃ es ep, o.data = .dict es ep) ∨ ∃ v, o.data = .cell v) (hb : X.base.get? L = none) (hs : Heap.SameBut L h h') (hex : ∃ o, h'.get? L = some o) (nt : ∀ t ∈ X.tabs, L ≠ t.P) :
    Inv X B M σ h' ∧ Kp X C M σ h M σ h' := by
  have kp : ∀ a o, a ≠ L → h.get? a = some o → h'.get? a = some o := fun a o ne e => hs.extBut a o ne e
  have K : Kp X C M σ h M σ h' := ⟨fun a o _ _ c e => kp a o (fun q => c (q ▸ hC)) e, fun a o e => by
      by_cases ha : a = L
      · subst ha; exact hex
      · exact ⟨o, kp a o ha e⟩, fun _ _ => rfl, fun i c e l => (by rw [List.getElem?_eq_none l] at e; cases e), fun _ x e _ => ⟨x, e⟩⟩
  have kk := K.badKeep I hCB
  refine ⟨⟨I.len, I.nd, fun i a x' b e e' => ?_, I.nB, fun a o e => kp a o (fun q => by rw [q, hb] at e; cases e) (I.base a o e), I.new, fun t ht => ?_, I.tabB, fun a b => let ⟨o, e⟩ := I.exB a b; K.ex a o e⟩, K⟩
  · have ne : a ≠ L := fun q => I.nB a (List.mem_of_getElem? e) (q ▸ hCB L hC)
    exact (I.ob i a x' b e e').mono kk K.badBack (fun o e => kp a o ne e)
  · have ne : t.P ≠ L := (nt t ht).symm
    rcases I.tab t ht with e | ⟨c', e, c, o, vs, tt, q1, q2, q3, q4⟩
    · exact .inl (kp _ _ ne e)
    · cases q1
      exact .inr ⟨c', kp _ _ ne e, _, o, vs, tt, rfl, K.code I hCd _ _ _ q2 q3 ⟨_, _, q4⟩, q3, q4⟩

theorem set_ok {x : Str} {v : Value} {Q : Unit → Shared → Prop} (I : Inv X B M σ s.heap) (R : ER X B env fr M σ s.heap) (r : AR X B M σ s.heap v a) (e : fr.set x a = some fr')
    (hQ : ∀ h' tk, Inv X B M σ h' → ER X B env fr' M σ h' → Kp X (OwnF fr.sc env) M σ s.heap M σ h' → Q () { s with heap := h', toks := tk }) : wpAny (model X.prog X.w) A (storeName env x v) Q E s := by
  have hp : (env.scope.kind == .class || (env.scope.kind == .module && env.locals != env.globals)) = false := by rw [R.kind]; rfl
  unfold Fm.set at e
  split at e
  · rename_i hk
    cases e
    obtain ⟨m, ns, rn⟩ := R.ns
    refine wpAny_storeName_local (R.kl x hk) ns (fun h' hn' hs => ?_) hp
    obtain ⟨I', K'⟩ := own_ok I (OwnF fr.sc env) (.inl rfl) R.ownFB R.ownFData R.lnew hs (let ⟨o, _, _, e, _⟩ := hn'; ⟨o, e⟩) (R.ntab I)
    refine hQ _ _ I' ?_ K'
    have kc : ∀ y c ov, env.cells.lookup y = some c → s.heap.IsCell c ov → h'.IsCell c ov := fun y c ov e q => q.sameBut hs (R.cnloc e)
    have ka : ∀ {v : Value} {a : Mine.A}, AR X B M σ s.heap v a → AR X B M σ h' v a := fun r => r.kp I K' R.ownFB
    exact {
      kind := R.kind, glob := R.glob, blt := R.blt, kl := R.kl, kg := R.kg, kc := R.kc, kf := R.kf
      ns := ⟨_, hn', fun y b ey => by
        replace ey : (if y = x then some a else fr.loc y) = some b := ey
        by_cases hy : y = x
        · rw [if_pos hy] at ey; cases ey
          exact ⟨v, if_pos hy, ka r⟩
        · rw [if_neg hy] at ey
          obtain ⟨u, e1, e2⟩ := rn y b ey
          exact ⟨u, (if_neg hy).trans e1, ka e2⟩⟩
      cell := R.cell
      cello := fun y c e => let ⟨⟨ov, q⟩, r⟩ := R.cello y c e; ⟨⟨ov, kc y c ov e q⟩, r⟩
      celv := fun y a c e e' => let ⟨v, q, r⟩ := R.celv y a c e e'; ⟨v, kc y c _ e' q, ka r⟩
      inj := R.inj, lB := R.lB, lnew := R.lnew
      clo := fun g d e => ⟨(R.clo g d e).1.keep (fun c ov e1 q => kc g c ov e1 q) (K'.func I R.ownFData) (K'.code I R.ownFData), (R.clo g d e).2⟩
      nst := R.nst }
  · rename_i hk
    split at e
    · cases e
    rename_i hg
    cases e
    obtain ⟨c, ec⟩ := R.cell x (.inl hk)
    obtain ⟨⟨ov, iv⟩, cB, cb⟩ := R.cello x c ec
    refine wpAny_storeName_cell R.kind (R.kc x hk) ec iv fun h' hc' hs => ?_
    obtain ⟨I', K'⟩ := own_ok I (OwnF fr.sc env) (.inr ⟨x, hk, R.kc x hk, ec⟩) R.ownFB R.ownFData cb hs (let ⟨o, e, _⟩ := hc'; ⟨o, e⟩) (R.cntab I ec)
    refine hQ h' s.toks I' ?_ K'
    have kc : ∀ y c' ov, y ≠ x → env.cells.lookup y = some c' → s.heap.IsCell c' ov → h'.IsCell c' ov := fun y c' ov hy e q => q.sameBut hs (fun q => hy (R.inj y x c (q ▸ e) ec))
    have ka : ∀ {v : Value} {a : Mine.A}, AR X B M σ s.heap v a → AR X B M σ h' v a := fun r => r.kp I K' R.ownFB
    obtain ⟨m, ns, rn⟩ := R.ns
    exact {
      kind := R.kind, glob := R.glob, blt := R.blt, kl := R.kl, kg := R.kg, kc := R.kc, kf := R.kf
      ns := ⟨m, ns.sameBut hs (R.cnloc ec).symm, fun y b ey => let ⟨u, e1, e2⟩ := rn y b ey; ⟨u, e1, ka e2⟩⟩
      cell := R.cell
      cello := fun y c' e => by
        obtain ⟨⟨ov, q⟩, r⟩ := R.cello y c' e
        by_cases hy : y = x
        · subst hy; rw [ec] at e; cases e; exact ⟨⟨_, hc'⟩, r⟩
        · exact ⟨⟨ov, kc y c' ov hy e q⟩, r⟩
      celv := fun y b c' e e' => by
        replace e : (if y = x then some a else fr.cel y) = some b := e
        by_cases hy : y = x
        · rw [if_pos hy] at e; cases e
          subst hy; rw [ec] at e'; cases e'
          exact ⟨v, hc', ka r⟩
        · rw [if_neg hy] at e
          obtain ⟨u, q, r⟩ := R.celv y b c' e e'
          exact ⟨u, kc y c' _ hy e' q, ka r⟩
      inj := R.inj, lB := R.lB, lnew := R.lnew
      clo := fun g d e => by
        have hgx : g ≠ x := fun q => by
          rw [show fr.clo = some (g, d) from e] at hg
          simp [q] at hg
        refine ⟨(R.clo g d e).1.keep (fun c ov e1 q => kc g c ov hgx e1 q) (K'.func I R.ownFData) (K'.code I R.ownFData), ?_⟩
        show (if g = x then some a else fr.cel g) = none
        rw [if_neg hgx]
        exact (R.clo g d e).2
      nst := R.nst }
  · cases e

theorem names_each {fr fr' : Fm} {es : List Expr} {xs : List F} (e : BindA fr es xs fr') : (assignEach es env).length = xs.length ∧ (assignEach es env).findIdx? (·.1) = none := by
  induction e with
  | nil => exact ⟨rfl, rfl⟩
  | @cons fr fr1 fr' x p es a xs _ _ ih =>
    refine ⟨congrArg (· + 1) ih.1, ?_⟩
    show ((false, assign (.Name x p) env) :: assignEach es env).findIdx? (·.1) = none
    rw [List.findIdx?_cons, ih.2]; rfl

theorem bindAll_ok {es : List Expr} {fr fr' : Fm} {xs : List F} {Q : Unit → Shared → Prop} (e : BindA fr es xs fr') : ∀ {s : Shared} {vs : List Value}, Inv X B M σ s.heap → ER X B env fr M σ s.heap → FRsx X s.heap (Bad B M σ) vs xs →
    (∀ h' tk, Inv X B M σ h' → ER X B env fr' M σ h' → Kp X (OwnF fr.sc env) M σ s.heap M σ h' → Q () { s with heap := h', toks := tk }) → wpAny (model X.prog X.w) A (assignInOrder ((assignEach es env).map (·.2)) vs) Q E s := by
  induction e with
  | nil =>
    intro s vs I R f hQ
    cases f; exact wpAny_assignInOrder_none (hQ s.heap s.toks I R .refl)
  | @cons fr fr1 fr' x p es a xs e1 _ ih =>
    intro s vs I R f hQ
    cases f with
    | cons f1 f2 =>
      refine wpAny_assignInOrder_more (wpAny_assign_Name (set_ok I R (a := .v _) f1 e1 fun h1 tk1 I1 R1 K1 => ?_))
      exact ih (s := { s with heap := h1, toks := tk1 }) I1 R1 (FRs.kp I K1 R.ownFB f2) fun h2 tk2 I2 R2 K2 => hQ _ _ I2 R2 (K1.tr (set_sc e1 ▸ K2))
end
end Mine
namespace Mine
open PySem PySem.W PyProof.Rows PySem.Spec

section
variable {X : Cx} {n : Nat} {A : Around} {B : Addr → Prop} {env : Env} {fr fr' : Fm} {M : List Addr} {σ : St} {s : Shared} {a : Mine.A} {σ' : St} {fl : Fl} {Q : Flow → Shared → Prop} {E : Value → Shared → Prop}

theorem Kp.toOwn {M' : List Addr} {h h' : Heap} (K : Kp X (fun a => a = env.locals) M σ h M' σ' h') : Kp X (Own env) M σ h M' σ' h' := K.weaken fun _ _ _ q => .inl q

theorem PX.tr {M' : List Addr} {σ₁ : St} {h' : Heap} {tk : Nat} {f : Flow} {s' : Shared} (K : Kp X (Own env) M σ s.heap M' σ₁ h') (p : PX X B env M' σ₁ { s with heap := h', toks := tk } fl fr' σ' f s') : PX X B env M σ s fl fr' σ' f s' := by
  obtain ⟨h₂, tk₂, M₂, I₂, R₂, K₂, r₂⟩ := p
  exact ⟨h₂, tk₂, M₂, I₂, R₂, K.tr K₂, r₂⟩

theorem swaps_none {e : Expr} {t : Option Expr} {l : Nat} (h : isComp e = false) (hs : ∀ a b c d, e ≠ .SetComp a b c d) : swapsWith e t l env = pure false := by
  cases e <;> first | rfl | (cases h; done) | exact absurd rfl (hs _ _ _ _)
theorem no_setc {e : Expr} (h : plainE e = true) : ∀ a b c d, e ≠ .SetComp a b c d := fun a b c d q => by
  subst q; cases h

theorem ex_Expr (hE : SEval X n) {e : Expr} {p : Pos} (rm : Room A (n + 1)) (hc : isComp e = false) (hp : plainE e = true) (e' : (lev n).ev fr σ e (.v .none) σ')
    (I : Inv X B M σ s.heap) (R : ER X B env fr M σ s.heap) (hQ : ∀ f s', PX X B env M σ s .next fr σ' f s' → Q f s') : wpAny (model X.prog X.w) A (exec (.Expr e p) env) Q E s := by
  refine wpAny_Expr (hE rm.down I R e' fun v s1 p1 => ?_) (by unfold interactive; simp [R.kind]) (swaps_none hc (no_setc hp))
  obtain ⟨h1, tk1, M1, I1, R1, K1, r1⟩ := p1
  cases r1
  exact hQ _ _ ⟨h1, tk1, M1, I1, R1, K1.toOwn, trivial⟩

theorem ex_Return (hE : SEval X n) {e : Expr} {p : Pos} (rm : Room A (n + 1)) (e' : (lev n).ev fr σ e a σ')
    (I : Inv X B M σ s.heap) (R : ER X B env fr M σ s.heap) (hQ : ∀ f s', PX X B env M σ s (.ret a) fr σ' f s' → Q f s') : wpAny (model X.prog X.w) A (exec (.Return (some e) p) env) Q E s := by
  refine wpAny_Return_some (hE rm.down I R e' fun v s1 p1 => ?_)
  obtain ⟨h1, tk1, M1, I1, R1, K1, r1⟩ := p1
  exact hQ _ _ ⟨h1, tk1, M1, I1, R1, K1.toOwn, r1⟩

theorem ex_AssignName (hE : SEval X n) {x : Str} {e : Expr} {p q : Pos} (rm : Room A (n + 1)) (hc : isComp e = false) (hp : plainE e = true) (e' : (lev n).ev fr σ e a σ') (es : fr.set x a = some fr')
    (I : Inv X B M σ s.heap) (R : ER X B env fr M σ s.heap) (hQ : ∀ f s', PX X B env M σ s .next fr' σ' f s' → Q f s') : wpAny (model X.prog X.w) A (exec (.Assign [.Name x q] e p) env) Q E s := by
  refine wpAny_Assign_Name (hE rm.down I R e' fun v s1 p1 => ?_) (swaps_none hc (no_setc hp))
  obtain ⟨h1, tk1, M1, I1, R1, K1, r1⟩ := p1
  exact set_ok (s := { s with heap := h1, toks := tk1 }) I1 R1 r1 es fun h2 tk2 I2 R2 K2 => hQ _ _ ⟨h2, tk2, M1, I2, R2, K1.toOwn.tr K2.ofF, trivial⟩

theorem assign_tuple {es : List Expr} {k : Nat} {p : Pos} {v : Value} {xs : List F} {Q : Unit → Shared → Prop} (hh : A.handled = none) (I : Inv X B M σ s.heap) (R : ER X B env fr M σ s.heap)
    {T : Addr} {vs : List Value} (hv : v = .ref T) (hT : s.heap.IsTuple T vs.toArray) (f : FRsx X s.heap (Bad B M σ) vs xs) (eb : BindA fr es xs fr')
    (hQ : ∀ h' tk, Inv X B M σ h' → ER X B env fr' M σ h' → Kp X (OwnF fr.sc env) M σ s.heap M σ h' → Q () { s with heap := h', toks := tk }) : wpAny (model X.prog X.w) A (assign (.Tuple es k p) env v) Q E s := by
  subst hv
  have h12 := names_each (env := env) eb
  refine wpAny_assign_Tuple hh hT (by rw [h12.1, ← f.length]; simp) h12.2 fun h' hx => ?_
  have kp : ∀ a o, s.heap.get? a = some o → h'.get? a = some o := fun a o e => hx a o (Nat.ne_of_lt (Heap.lt_size e)) e
  have x := ex_ok I R (.of kp)
  exact bindAll_ok eb (s := { s with heap := h' }) x.1 x.2.1 (FRs.kp I x.2.2 (fun a q => q ▸ R.lB) f) fun h2 tk2 I2 R2 K2 => hQ _ _ I2 R2 ((x.2.2.weaken fun _ _ _ q => .inl q).tr K2)

theorem ex_AssignTuple (hE : SEval X n) {es : List Expr} {k : Nat} {e : Expr} {p q : Pos} {xs : List F} (rm : Room A (n + 1)) (hc : isCall e = true) (e' : (lev n).ev fr σ e (.v (.tup xs)) σ') (eb : BindA fr es xs fr')
    (I : Inv X B M σ s.heap) (R : ER X B env fr M σ s.heap) (hQ : ∀ f s', PX X B env M σ s .next fr' σ' f s' → Q f s') : wpAny (model X.prog X.w) A (exec (.Assign [.Tuple es k q] e p) env) Q E s := by
  have hh := rm.hh
  refine wpAny_Assign_stores (hE rm.down I R e' fun v s1 p1 => ?_) (by cases e <;> first | rfl | cases hc) (by cases e <;> first | rfl | cases hc)
  obtain ⟨h1, tk1, M1, I1, R1, K1, r1⟩ := p1
  cases r1 with
  | tup hT nb f =>
    refine (show wpAny _ _ (assign (.Tuple es k q) env _) _ _ _ from assign_tuple (s := { s with heap := h1, toks := tk1 }) hh I1 R1 rfl hT f eb fun h2 tk2 I2 R2 K2 => hQ _ _ ⟨h2, tk2, M1, I2, R2, K1.toOwn.tr K2.ofF, trivial⟩)

theorem set_list {D : Addr} {vs : List Value} {m : Nat} {k : Int} {t : Tok} {v : Value} {Q : Unit → Shared → Prop} (ho : s.heap.get? D = some (W.listOf vs.toArray m)) (h0 : 0 ≤ k) (hfit : k < 2 ^ 63) (hn : k.toNat < vs.length)
    (hQ : ∀ h', Heap.SameBut D s.heap h' → (∃ m', h'.get? D = some (W.listOf (vs.set k.toNat v).toArray m')) → Q () { s with heap := h' }) : wpAny (model X.prog X.w) A (setItem (.ref D) (.int k t) v) Q E s := by
  refine ki_setAt ho h0 hfit (by simp; lia) (hQ _ (Heap.SameBut.update ..) ?_)
  have := IsL.update ho (fun x => x.setIfInBounds k.toNat v)
  rw [show (vs.set k.toNat v).toArray = vs.toArray.setIfInBounds k.toNat v by simp]
  exact ⟨_, this⟩

theorem set_item {j : Nat} {ov : Value} {i : Int} {t : Tok} {v : Value} {x x' y : F} {Q : Unit → Shared → Prop} (I : Inv X B M σ s.heap) (R : ER X B env fr M σ s.heap) (r : AR X B M σ s.heap ov (.r j)) (ry : FRx X s.heap (Bad B M σ) v y)
    (ex : σ[j]? = some (x, true)) (e : StR x i y x')
    (hQ : ∀ h' tk, Inv X B M (σ.set j (x', true)) h' → ER X B env fr M (σ.set j (x', true)) h' → Kp X (fun a => a = env.locals) M σ s.heap M (σ.set j (x', true)) h' → Q () { s with heap := h', toks := tk }) : wpAny (model X.prog X.w) A (setItem ov (.int i t) v) Q E s := by
  obtain ⟨D, eD, rfl⟩ := r
  induction e with
  | @lst xs i y h0 h1 hlt =>
    obtain ⟨us, m', ho, fl⟩ := or_list (I.ob j D _ true eD ex)
    have hlen := fl.length
    have := small_lt h1
    refine set_list ho h0 (by lia) (by lia) fun h' hs ⟨m2, ho2⟩ => ?_
    obtain ⟨I4, R4, K4⟩ := upd_R (y := .lst (xs.set i.toNat y)) I R eD ex hs fun f g => ⟨us.set i.toNat v, m2, ho2, (f _ _ fl).set _ (g _ _ ry)⟩
    exact hQ h' s.toks I4 R4 K4
  | @dct kvs i y hlt =>
    obtain ⟨es, d, lo, hk, fl⟩ := I.ob j D _ true eD ex
    have hlen := congrArg List.length hk
    rw [List.length_map, List.length_map] at hlen
    refine wpAny_setItem_pairs (knd := intKind X.prog X.w) (intKind_is _ _ _ _) d (fun h' d' hs => ?_) (kdl_size (by lia))
    obtain ⟨I4, R4, K4⟩ := upd_R (y := .dct (dset i y kvs)) I R eD ex hs fun f g => by
      obtain ⟨q1, q2⟩ := stored_dset (k := i) (g _ _ ry) hk (let ⟨_, _, _, _, _, _, _, _, nd⟩ := d; nd) (f _ _ fl)
      exact ⟨_, d', lo, q1, q2⟩
    exact hQ h' _ I4 R4 K4

theorem ex_AssignSub (hE : SEval X n) {o : Str} {i e : Expr} {p q r : Pos} {b : Mine.A} {j : Nat} {σ1 σ2 σ3 σ4 : St} {x x' y : F} {k : Int} (rm : Room A (n + 1))
    (e1 : (lev n).ev fr σ e b σ1) (e2 : b.fz σ1 = some (y, σ2)) (e3 : (lev n).ev fr σ2 (.Name o p) (.r j) σ3) (e4 : (lev n).ev fr σ3 i (.v (.int k)) σ4) (ex : σ4[j]? = some (x, true)) (e5 : StR x k y x')
    (I : Inv X B M σ s.heap) (R : ER X B env fr M σ s.heap) (hQ : ∀ f s', PX X B env M σ s .next fr (σ4.set j (x', true)) f s' → Q f s') : wpAny (model X.prog X.w) A (exec (.Assign [.Subscript (.Name o p) i q] e r) env) Q E s := by
  refine wpAny_Assign_Subscript (hE rm.down I R e1 fun v1 s1 p1 => ?_) (by cases e <;> rfl)
  obtain ⟨h1, tk1, M1, I1, R1, K1, r1⟩ := p1
  obtain ⟨I2, K2, r2⟩ := fz_ok (C := fun a => a = env.locals) I1 r1 e2
  have R2 := R1.kpL I1 K2 (fun _ n => n)
  refine hE rm.down (s := { s with heap := h1, toks := tk1 }) I2 R2 e3 fun v3 s3 p3 => ?_
  obtain ⟨h3, tk3, M3, I3, R3, K3, r3⟩ := p3
  refine hE rm.down (s := { s with heap := h3, toks := tk3 }) I3 R3 e4 fun v4 s4 p4 => ?_
  obtain ⟨h4, tk4, M4, I4, R4, K4, r4⟩ := p4
  cases r4
  have r3 := r3.kp I3 K4 (fun a q => q ▸ R3.lB)
  have r2 := FR.kp I3 K4 (fun a q => q ▸ R3.lB) (FR.kp I2 K3 (fun a q => q ▸ R2.lB) r2)
  exact set_item (s := { s with heap := h4, toks := tk4 }) I4 R4 r3 r2 ex e5 fun h5 tk5 I5 R5 K5 => hQ _ _ ⟨h5, tk5, M4, I5, R5, ((((K1.tr K2).tr K3).tr K4).tr K5).toOwn, trivial⟩

theorem ex_AugName (hE : SEval X n) {x : Str} {e : Expr} {p q : Pos} {u w : Int} (rm : Room A (n + 1)) (hn : (x == ("__classdict__" : Str)) = false) (e1 : fr.get x = some (.v (.int u))) (e2 : (lev n).ev fr σ e (.v (.int w)) σ') (e3 : fr.set x (.v (.int (u + w))) = some fr')
    (I : Inv X B M σ s.heap) (R : ER X B env fr M σ s.heap) (hQ : ∀ f s', PX X B env M σ s .next fr' σ' f s' → Q f s') : wpAny (model X.prog X.w) A (exec (.AugAssign (.Name x p) .Add e q) env) Q E s := by
  refine wpAny_AugAssign_Name (ld_name R e1 (fun v r => ?_) hn)
  cases r
  refine hE rm.down I R e2 fun v2 s2 p2 => ?_
  obtain ⟨h2, tk2, M2, I2, R2, K2, r2⟩ := p2
  cases r2
  refine AutoIntOps.iadd_0 ?_
  exact set_ok (s := { s with heap := h2, toks := tk2 + 1 }) I2 R2 (a := .v (.int (u + w))) (.int _ _) e3 fun h3 tk3 I3 R3 K3 => hQ _ _ ⟨h3, tk3, M2, I3, R3, K2.toOwn.tr K3.ofF, trivial⟩

theorem ex_AugSub (hE : SEval X n) {o i : Str} {e : Expr} {p q r t : Pos} {j : Nat} {σ1 σ2 σ3 : St} {k u w : Int} {kv kvs : List (Int × F)} (rm : Room A (n + 1))
    (e1 : (lev n).ev fr σ (.Name o p) (.r j) σ1) (e2 : (lev n).ev fr σ1 (.Name i q) (.v (.int k)) σ2) (e3 : (Mine.A.r j).get σ2 = some (.dct kv)) (e3' : dget k kv = some (.int u)) (e4 : (lev n).ev fr σ2 e (.v (.int w)) σ3) (ex : σ3[j]? = some (.dct kvs, true)) (hz : kvs.length ≤ 4096)
    (I : Inv X B M σ s.heap) (R : ER X B env fr M σ s.heap) (hQ : ∀ f s', PX X B env M σ s .next fr (σ3.set j (.dct (dset k (.int (u + w)) kvs), true)) f s' → Q f s') : wpAny (model X.prog X.w) A (exec (.AugAssign (.Subscript (.Name o p) (.Name i q) r) .Add e t) env) Q E s := by
  refine wpAny_AugAssign_Subscript (hE rm.down I R e1 fun v1 s1 p1 => ?_)
  obtain ⟨h1, tk1, M1, I1, R1, K1, r1⟩ := p1
  refine hE rm.down (s := { s with heap := h1, toks := tk1 }) I1 R1 e2 fun v2 s2 p2 => ?_
  obtain ⟨h2, tk2, M2, I2, R2, K2, r2⟩ := p2
  cases r2
  have r1 := r1.kp I1 K2 (fun a q => q ▸ R1.lB)
  obtain ⟨D, es, rfl, d, lo, hk, fl⟩ := I2.read r1 e3
  obtain ⟨v, ev, rv⟩ := (dget_lookup hk fl (k := k)).1 _ e3'
  cases rv
  refine wpAny_getItem_of (intKind_is _ _ _ _) d.mapOf ev ?_
  refine hE rm.down (s := { s with heap := h2, toks := _ }) I2 R2 e4 fun v4 s4 p4 => ?_
  obtain ⟨h4, tk4, M4, I4, R4, K4, r4⟩ := p4
  cases r4
  have r1 := r1.kp I2 K4 (fun a q => q ▸ R2.lB)
  refine AutoIntOps.iadd_0 ?_
  exact set_item (s := { s with heap := h4, toks := tk4 + 1 }) I4 R4 r1 (.int _ _) ex (.dct hz) fun h5 tk5 I5 R5 K5 => hQ _ _ ⟨h5, tk5, M4, I5, R5, (((K1.tr K2).tr K4).tr K5).toOwn, trivial⟩

theorem ex_If (hT : STest X n) (hX : SExecs X n) {t : Expr} {b o : List Stmt} {p : Pos} {σ1 : St} {c : Bool} (rm : Room A (n + 1)) (e1 : (lev n).test fr σ t c σ1) (e2 : ExecsR (lev n) (if c = true then b else o) fr σ1 fl fr' σ')
    (I : Inv X B M σ s.heap) (R : ER X B env fr M σ s.heap) (hQ : ∀ f s', PX X B env M σ s fl fr' σ' f s' → Q f s') : wpAny (model X.prog X.w) A (exec (.If t b o p) env) Q E s := by
  refine wpAny_If (hT rm.down I R e1 fun s1 p1 => ?_)
  obtain ⟨h1, tk1, M1, I1, R1, K1, _⟩ := p1
  cases c <;> exact hX rm.down (s := { s with heap := h1, toks := tk1 }) I1 R1 e2 fun f s' p => hQ _ _ (p.tr (tk := tk1) K1.toOwn)

theorem step_execs (hS : SExec X n) : SExecs X n := by
  intro A B env fr M σ s sts fl fr' σ' Q E rm I R e hQ
  induction e generalizing M s with
  | nil => exact wpAny_execs_nil (hQ _ _ ⟨_, s.toks, M, I, R, .refl, trivial⟩)
  | @stop _ _ _ _ _ _ fl e1 hn =>
    refine wpAny_execs_cons (hS rm I R e1 fun f s1 p1 => ?_)
    have p1' := hQ _ _ p1
    obtain ⟨h1, tk1, M1, I1, R1, K1, q⟩ := p1
    cases fl <;> cases f <;> first | exact q.elim | (cases hn; done) | exact p1'
  | cons e1 _ ih =>
    refine wpAny_execs_cons (hS rm I R e1 fun f s1 p1 => ?_)
    obtain ⟨h1, tk1, M1, I1, R1, K1, q⟩ := p1
    cases f <;> first | exact q.elim | exact ih (s := { s with heap := h1, toks := tk1 }) I1 R1 fun f s' p => hQ _ _ (p.tr (tk := tk1) K1)

inductive WhSt (X : Cx) (n : Nat) (B : Addr → Prop) (env : Env) (M : List Addr) (σ : St) (s : Shared) (t : Expr) (b : List Stmt) (fl : Fl) (fr' : Fm) (σ' : St) (k : Nat) : Shared → Prop
  | mk (h1 : Heap) (tk1 : Nat) (M1 : List Addr) (fr1 : Fm) (σ1 : St) (I : Inv X B M1 σ1 h1) (R : ER X B env fr1 M1 σ1 h1) (K : Kp X (Own env) M σ s.heap M1 σ1 h1) (e : WhileR (lev n) t b k fr1 σ1 fl fr' σ') : WhSt X n B env M σ s t b fl fr' σ' k { s with heap := h1, toks := tk1 }
theorem wh_tst (hT : STest X n) {t : Expr} {fr1 : Fm} {M1 : List Addr} {σ1 σ2 : St} {h1 : Heap} {tk1 : Nat} {c : Bool} {Q' : Bool → Shared → Prop} {E' : Value → Shared → Prop} (rm : Room A n) (I1 : Inv X B M1 σ1 h1) (R1 : ER X B env fr1 M1 σ1 h1) (K1 : Kp X (Own env) M σ s.heap M1 σ1 h1) (e2 : (lev n).test fr1 σ1 t c σ2)
    (hq : ∀ h2 tk2 M2, Inv X B M2 σ2 h2 → ER X B env fr1 M2 σ2 h2 → Kp X (Own env) M σ s.heap M2 σ2 h2 → Q' c { s with heap := h2, toks := tk2 }) : wpAny (model X.prog X.w) A (isTrue t env (eval t env)) Q' E' { s with heap := h1, toks := tk1 } := by
  refine hT rm (s := { s with heap := h1, toks := tk1 }) I1 R1 e2 fun s2 p2 => ?_
  obtain ⟨h2, tk2, M2, I2, R2, K2, _⟩ := p2
  exact hq h2 tk2 M2 I2 R2 (K1.tr K2.toOwn)
theorem wh_turn (hT : STest X n) (hX : SExecs X n) {t : Expr} {b : List Stmt} {fr1 fr3 : Fm} {M1 : List Addr} {σ1 σ2 σ3 : St} {h1 : Heap} {tk1 : Nat} {fl1 : Fl} {Q' : Flow → Shared → Prop} {E E' : Value → Shared → Prop} {Z : Shared → Prop} (rm : Room A n) (I1 : Inv X B M1 σ1 h1) (R1 : ER X B env fr1 M1 σ1 h1) (K1 : Kp X (Own env) M σ s.heap M1 σ1 h1) (e2 : (lev n).test fr1 σ1 t true σ2) (e3 : ExecsR (lev n) b fr1 σ2 fl1 fr3 σ3)
    (hq : ∀ f h3 tk3 M3, Inv X B M3 σ3 h3 → ER X B env fr3 M3 σ3 h3 → Kp X (Own env) M σ s.heap M3 σ3 h3 → FlR X B M3 σ3 h3 f fl1 → Q' f { s with heap := h3, toks := tk3 }) :
    wpAny (model X.prog X.w) A (isTrue t env (eval t env)) (fun c s' => if c = true then wpAny (model X.prog X.w) A (execs b env) Q' E' s' else Z s') E { s with heap := h1, toks := tk1 } := by
  refine wh_tst hT rm I1 R1 K1 e2 fun h2 tk2 M2 I2 R2 K2 => ?_
  rw [if_pos rfl]
  refine hX rm (s := { s with heap := h2, toks := tk2 }) I2 R2 e3 fun f s3 p3 => ?_
  obtain ⟨h3, tk3, M3, I3, R3, K3, q⟩ := p3
  exact hq f h3 tk3 M3 I3 R3 (K2.tr K3) q
theorem ex_While {t : Expr} {b : List Stmt} {p : Pos} {k : Nat} (hT : STest X n) (hX : SExecs X n) (rm : Room A n) (e : WhileR (lev n) t b k fr σ fl fr' σ')
    (I : Inv X B M σ s.heap) (R : ER X B env fr M σ s.heap) (hQ : ∀ f s', PX X B env M σ s fl fr' σ' f s' → Q f s') : wpAny (model X.prog X.w) A (exec (.While t b [] p) env) Q E s := by
  refine wpAny_While ?_
  refine codeAny_whileLoop (WhSt X n B env M σ s t b fl fr' σ') ?_ k
    ⟨s.heap, s.toks, M, fr, σ, I, R, .refl, e⟩
  rintro k s' ⟨h1, tk1, M1, fr1, σ1, I1, R1, K1, e1⟩
  revert I1 R1 K1 hQ
  rcases e1 with ⟨e2⟩ | ⟨e2, e3, e4⟩ | ⟨e2, e3, e4⟩ | ⟨e2, e3⟩ | ⟨e2, e3⟩
  · intro hQ I1 R1 K1
    refine wh_tst hT rm I1 R1 K1 e2 fun h2 tk2 M2 I2 R2 K2 => ?_
    rw [if_neg Bool.false_ne_true]
    exact wpAny_execs_nil (hQ _ _ ⟨h2, tk2, M2, I2, R2, K2, trivial⟩)
  · intro hQ I1 R1 K1
    refine wh_turn hT hX rm I1 R1 K1 e2 e3 fun f h3 tk3 M3 I3 R3 K3 q => ?_
    cases f <;> first | exact q.elim | exact ⟨_, Nat.lt_succ_self _, h3, tk3, M3, _, _, I3, R3, K3, e4⟩
  · intro hQ I1 R1 K1
    refine wh_turn hT hX rm I1 R1 K1 e2 e3 fun f h3 tk3 M3 I3 R3 K3 q => ?_
    cases f <;> first | exact q.elim | exact ⟨_, Nat.lt_succ_self _, h3, tk3, M3, _, _, I3, R3, K3, e4⟩
  · intro hQ I1 R1 K1
    refine wh_turn hT hX rm I1 R1 K1 e2 e3 fun f h3 tk3 M3 I3 R3 K3 q => ?_
    cases f <;> first | exact q.elim | exact hQ _ _ ⟨h3, tk3, M3, I3, R3, K3, trivial⟩
  · intro hQ I1 R1 K1
    refine wh_turn hT hX rm I1 R1 K1 e2 e3 fun f h3 tk3 M3 I3 R3 K3 q => ?_
    cases f <;> first | exact q.elim | exact hQ _ _ ⟨h3, tk3, M3, I3, R3, K3, q⟩
end
end Mine
namespace Mine
open PySem PySem.W PyProof.Rows PySem.Spec

section
variable {X : Cx} {n : Nat} {A : Around} {B : Addr → Prop} {env : Env} {fr fr' : Fm} {M : List Addr} {σ : St} {s : Shared} {a : Mine.A} {σ' : St} {fl : Fl} {Q : Flow → Shared → Prop} {E : Value → Shared → Prop}

theorem clos_loop (f : Str × NameKind → List (Str × Addr) → Sem (ForInStep (List (Str × Addr)))) (hf : ∀ x k cs, f (x, k) cs = if (k == .free) = true then (do let c ← cellOf env x; pure (.yield ((x, c) :: cs))) else pure (.yield cs)) : ∀ (names : List (Str × NameKind)) (acc : List (Str × Addr)), (∀ p ∈ names, p.2 = .free → ∃ c, env.cells.lookup p.1 = some c) →
    ∃ clos : List (Str × Addr), forIn names acc f = pure clos ∧ (∀ y c, clos.lookup y = some c → acc.lookup y = some c ∨ env.cells.lookup y = some c) ∧ (∀ y, (acc.lookup y).isSome ∨ (y, .free) ∈ names → (clos.lookup y).isSome)
  | [], acc, _ => ⟨acc, rfl, fun _ _ e => .inl e, fun y h => by simpa using h⟩
  | (x, k) :: r, acc, h => by
    by_cases hk : (k == .free) = true
    · obtain ⟨c, ec⟩ := h (x, k) (.head _) (by simpa using hk)
      obtain ⟨clos, h1, h2, h3⟩ := clos_loop f hf r ((x, c) :: acc) fun p hp => h p (.tail _ hp)
      refine ⟨clos, ?_, fun y c' e => ?_, fun y hy => h3 y ?_⟩
      · rw [List.forIn_cons, hf, if_pos hk]
        have : cellOf env x = pure c := by unfold cellOf; rw [ec]
        rw [this]
        simpa using h1
      · rcases h2 y c' e with q | q
        · rw [List.lookup_cons] at q
          split at q
          · rename_i hb; cases q; rw [beq_iff_eq.mp hb]; exact .inr ec
          · exact .inl q
        · exact .inr q
      · rw [List.lookup_cons]
        split
        · exact .inl rfl
        · rename_i hb
          rcases hy with hy | hy
          · exact .inl hy
          · rcases List.mem_cons.mp hy with q | q
            · cases q; simp at hb
            · exact .inr q
    · obtain ⟨clos, h1, h2, h3⟩ := clos_loop f hf r acc fun p hp => h p (.tail _ hp)
      refine ⟨clos, ?_, h2, fun y hy => h3 y ?_⟩
      · rw [List.forIn_cons, hf, if_neg hk]
        simpa using h1
      · rcases hy with hy | hy
        · exact .inl hy
        · rcases List.mem_cons.mp hy with q | q
          · cases q; simp at hk
          · exact .inr q

theorem clos_ok {sc : Scope} (h : ∀ p ∈ sc.names, p.2 = .free → ∃ c, env.cells.lookup p.1 = some c) :
    ∃ clos : List (Str × Addr), closureFor sc env = pure clos ∧ (∀ y c, clos.lookup y = some c → env.cells.lookup y = some c) ∧ (∀ y, sc.names.lookup y = some .free → ∃ c, clos.lookup y = some c) := by
  obtain ⟨clos, h1, h2, h3⟩ := clos_loop (env := env) (fun x r => do
      let cs := r
      if (x.2 == .free) = true then do let c ← cellOf env x.1; pure (.yield ((x.1, c) :: cs)) else pure (.yield cs)) (fun _ _ _ => rfl) sc.names [] h
  refine ⟨clos, ?_, fun y c e => (h2 y c e).elim (fun q => by simp at q) id, fun y e => Option.isSome_iff_exists.mp (h3 y (.inr (mem_of_lookup e)))⟩
  unfold closureFor
  simp only
  rw [show (forIn sc.names ([] : List (Str × Addr)) _ : Sem _) = pure clos from h1]
  rfl

theorem ann_nil : ∀ (l : List Arg), (∀ a ∈ l, a.annotation = none) → annotationsOf l env = []
  | [], _ => rfl
  | ⟨x, none, _⟩ :: r, h => ann_nil r fun a ha => h a (.tail _ ha)
  | ⟨x, some e, _⟩ :: r, h => by have := h _ (.head _); simp at this

theorem CodeRec.kp {h h' : Heap} {C : Addr → Prop} {M' : List Addr} {cv : Value} {q : Str} (I : Inv X B M σ h) (K : Kp X C M σ h M' σ' h') (hC : ∀ a o, h.get? a = some o → C a → (∃ es ep, o.data = .dict es ep) ∨ ∃ v, o.data = .cell v) (r : h.CodeRec cv q) : h'.CodeRec cv q := by
  obtain ⟨c, o, vs, t, rfl, q2, q3, q4⟩ := r
  exact ⟨c, o, vs, t, rfl, K.code I hC _ _ _ q2 q3 ⟨_, _, q4⟩, q3, q4⟩

/-- a nested def's cell is filled -/
theorem clo_store {g : Str} {f : Addr} {o : Obj} {name : Str} {params : Arguments} {b : List Stmt} {sc : Scope} {cl : List (Str × Addr)} {doc pm ctv : Value} {c' : Addr} {qual : Str} {Q : Unit → Shared → Prop} (I : Inv X B M σ s.heap) (R : ER X B env fr M σ s.heap) (hk : fr.kind g = some .cell) (hn : fr.cel g = none) (hnc : fr.clo = none)
    (ho : s.heap.get? f = some o) (hd : o.data = .func (fnX name qual params b sc cl .none .none doc pm none (.ref c') ctv)) (hcd : s.heap.CodeRec (.ref c') qual) (hok : nestOk sc params = true) (h1 : ∀ y c, cl.lookup y = some c → env.cells.lookup y = some c)
    (h2 : ∀ y, sc.names.lookup y = some .free → ∃ c, cl.lookup y = some c) (h3 : ∀ x ∈ sc.names, x.2 ≠ .cell) (h4 : sc.names.lookup g = some .free)
    (hQ : ∀ h' tk, Inv X B M σ h' → ER X B env { fr with clo := some (g, ⟨params.args.map (·.arg), b, sc⟩) } M σ h' → Kp X (Own env) M σ s.heap M σ h' → Q () { s with heap := h', toks := tk }) : wpAny (model X.prog X.w) A (storeName env g (.ref f)) Q E s := by
  obtain ⟨c, ec⟩ := R.cell g (.inl hk)
  obtain ⟨⟨ov, iv⟩, cB, cb⟩ := R.cello g c ec
  refine wpAny_storeName_cell R.kind (R.kc g hk) ec iv fun h' hc' hs => ?_
  obtain ⟨I', K'⟩ := own_ok I (Own env) (.inr ⟨g, R.kc g hk, ec⟩) R.ownB R.ownData cb hs (let ⟨o, e, _⟩ := hc'; ⟨o, e⟩) (R.cntab I ec)
  refine hQ h' s.toks I' ?_ K'
  have kc : ∀ y c' ov, y ≠ g → env.cells.lookup y = some c' → s.heap.IsCell c' ov → h'.IsCell c' ov := fun y c' ov hy e q => q.sameBut hs (fun q => hy (R.inj y g c (q ▸ e) ec))
  have ka : ∀ {v : Value} {a : Mine.A}, AR X B M σ s.heap v a → AR X B M σ h' v a := fun r => r.kp I K' R.ownB
  obtain ⟨m, ns, rn⟩ := R.ns
  exact {
    kind := R.kind, glob := R.glob, blt := R.blt, kl := R.kl, kg := R.kg, kc := R.kc, kf := R.kf
    ns := ⟨m, ns.sameBut hs (R.cnloc ec).symm, fun y b ey => let ⟨u, e1, e2⟩ := rn y b ey; ⟨u, e1, ka e2⟩⟩
    cell := R.cell
    cello := fun y c' e => by
      obtain ⟨⟨ov, q⟩, r⟩ := R.cello y c' e
      by_cases hy : y = g
      · subst hy; rw [ec] at e; cases e; exact ⟨⟨_, hc'⟩, r⟩
      · exact ⟨⟨ov, kc y c' ov hy e q⟩, r⟩
    celv := fun y b c' e e' => by
      have hy : y ≠ g := fun q => by
        subst q
        rw [show ({ fr with clo := some (y, _) } : Fm).cel y = fr.cel y from rfl, hn] at e; cases e
      obtain ⟨u, q, r⟩ := R.celv y b c' e e'
      exact ⟨u, kc y c' _ hy e' q, ka r⟩
    inj := R.inj, lB := R.lB, lnew := R.lnew
    clo := fun g' d e => by
      cases e
      exact ⟨⟨c, f, o, name, qual, params, cl, doc, pm, c', ctv, ec, hc', K'.func I R.ownData f o ho ⟨_, hd⟩, hd, CodeRec.kp I K' R.ownData hcd, rfl, hok, h1, h2, h3, h4⟩, hn⟩
    nst := R.nst }

/-- a table grows -/
theorem tab_ok (ok : X.Ok) {t : Tb} (ht : t ∈ X.tabs) (I : Inv X B M σ s.heap) (R : ER X B env fr M σ s.heap) {h' : Heap} (hx : Heap.ExtBut t.P s.heap h') (hT : TabOk h' t) (hP : s.heap.get? t.P = some (tabObj #[])) :
    Inv X B M σ h' ∧ ER X B env fr M σ h' ∧ Kp X (fun _ => False) M σ s.heap M σ h' := by
  have hex : ∃ o, h'.get? t.P = some o := hT.elim (fun e => ⟨_, e⟩) fun ⟨_, e, _⟩ => ⟨_, e⟩
  have K : Kp X (fun _ => False) M σ s.heap M σ h' := ⟨fun a o _ nt _ e => hx a o (nt t ht) e, fun a o e => by
      by_cases ha : a = t.P
      · subst ha; exact hex
      · exact ⟨o, hx a o ha e⟩, fun _ _ => rfl, fun i c e l => (by rw [List.getElem?_eq_none l] at e; cases e), fun _ x e _ => ⟨x, e⟩⟩
  have kk := K.badKeep I (fun _ f => f.elim)
  refine ⟨⟨I.len, I.nd, fun i a x' b e e' => ?_, I.nB, fun a o e => hx a o (fun q => by rw [q, (ok.tab t ht).1] at e; cases e) (I.base a o e), I.new, fun u hu => ?_, I.tabB, fun a b => let ⟨o, e⟩ := I.exB a b; K.ex a o e⟩, R.kp0 I K, K⟩
  · have ne : a ≠ t.P := fun q => I.nB a (List.mem_of_getElem? e) (q ▸ I.tabB t ht)
    exact (I.ob i a x' b e e').mono kk K.badBack (fun o e => hx a o ne e)
  · by_cases hu' : u.P = t.P
    · have : u = t := by
        rcases List.mem_iff_getElem.mp hu with ⟨i, hi, rfl⟩
        rcases List.mem_iff_getElem.mp ht with ⟨j, hj, rfl⟩
        have pw := List.pairwise_iff_getElem.mp ok.apart
        rcases Nat.lt_trichotomy i j with q | q | q
        · exact absurd hu' (pw i j hi hj q)
        · subst q; rfl
        · exact absurd hu'.symm (pw j i hj hi q)
      exact this ▸ hT
    · rcases I.tab u hu with e | ⟨c', e, c, o, vs, tt, q1, q2, q3, q4⟩
      · exact .inl (hx _ _ hu' e)
      · cases q1
        exact .inr ⟨c', hx _ _ hu' e, _, o, vs, tt, rfl, hx _ _ (fun q => by
          rw [q, hP] at q2; cases q2; cases q3; simp at q4) q2, q3, q4⟩

theorem ex_FunctionDef (ok : X.Ok) {g : Str} {ps : Arguments} {b : List Stmt} {sc : Scope} {pos : Pos} (hk : fr.kind g = some .cell) (hnc : fr.clo = none) (hn : fr.cel g = none) (hns : fr.nst = some (pos.line, pos.col, g))
    (hok : nestOk sc ps = true) (h4 : sc.names.lookup g = some .free) (hall : ∀ p ∈ sc.names, p.2 ≠ .cell ∧ (p.2 = .free → fr.kind p.1 = some .cell))
    (I : Inv X B M σ s.heap) (R : ER X B env fr M σ s.heap) (hQ : ∀ f s', PX X B env M σ s .next { fr with clo := some (g, ⟨ps.args.map (·.arg), b, sc⟩) } σ f s' → Q f s') : wpAny (model X.prog X.w) A (exec (.FunctionDef g ps b [] none [] sc none g pos) env) Q E s := by
  have hok' := hok
  simp only [nestOk, Bool.and_eq_true, Bool.not_eq_true', List.isEmpty_iff, Option.isNone_iff_eq_none, beq_iff_eq, List.all_eq_true] at hok'
  obtain ⟨⟨⟨⟨⟨⟨⟨⟨⟨⟨nd, hkk⟩, hgen⟩, hco⟩, p1⟩, p2⟩, p3⟩, p4⟩, p5⟩, p6⟩, p7⟩ := hok'
  obtain ⟨clos, hcl, c1, c2⟩ := clos_ok (env := env) (sc := sc) fun p hp hf => R.cell p.1 (.inl ((hall p hp).2 hf))
  obtain ⟨t, ht, e1, e2, e3, e4⟩ := R.nst _ _ _ hns
  obtain ⟨bm, ob, b1, b2, b3, b4, b5, b6⟩ := ok.bmain
  have hgm : mainGlobals ≠ t.P := fun q => by
    obtain ⟨o, es, ep, e, _⟩ := ok.g
    rw [q, (ok.tab t ht).1] at e; cases e
  have hbt : bm ≠ t.P := fun q => by rw [q, (ok.tab t ht).1] at b3; cases b3
  have hbg : bm ≠ mainGlobals := fun q => by
    obtain ⟨o, es, ep, e, hd, _⟩ := ok.g
    rw [q, e] at b3; cases b3; rw [hd] at b6; cases b6
  have hB : s.heap.BuiltinsAt X.mg t.P := ⟨bm, ob, b1, b2, hbg, hbt, I.base _ _ b3, b4, b5, b6⟩
  have hq : qualnameIn env g g = t.qual := by
    unfold qualnameIn
    rw [R.kc g hk, e4]; rfl
  have hG := ok.g.keeps I.base
  have hC := (ok.tab t ht).2.keeps I.base
  refine nestDef_K p6 p4 ?_ ?_
  · obtain ⟨po, a, va, ko, kd, kwa, df⟩ := ps
    simp only at p1 p2 p3 p5 p7
    subst p1; subst p2; subst p3; subst p5
    show annotationsOf (a ++ [] ++ [] ++ [] ++ []) env ++ [] = []
    simp only [List.append_nil]
    exact ann_nil a p7
  rw [hq]
  rcases I.tab t ht with hP | ⟨c', hP, hcr⟩
  · refine makeFunction_K (mg := X.mg) hcl R.glob hG e1 hC hP trivial rfl hgm hB fun c' ctv doc h' tk hx _ _ hcr hP' => ?_
    have hT : TabOk h' t := .inr ⟨c', by rw [hP', e2, e3]; rfl, hcr⟩
    obtain ⟨I1, R1, K1⟩ := tab_ok ok ht I R hx hT hP
    have kp : ∀ a o, h'.get? a = some o → (h'.push (fnMade g t.qual ps b sc clos doc ((X.mg "__name__").getD .none) c' ctv)).get? a = some o := fun _ _ e => Heap.get?_push_of_some _ e
    obtain ⟨I2, R2, K2⟩ := ex_ok I1 R1 (.of kp)
    refine clo_store (s := { s with heap := h'.push _, toks := tk }) I2 R2 hk hn hnc (Heap.get?_push_size _ rfl) rfl (hcr.keeps kp) hok c1 c2 (fun x hx => (hall x hx).1) h4 fun h3 tk3 I3 R3 K3 => hQ _ _ ⟨h3, tk3, M, I3, R3, (K1.of0.tr K2.toOwn).tr K3, trivial⟩
  · refine makeFunction_hit (mg := X.mg) (cv := .ref c') hcl R.glob hG e1 hC hP trivial ?_ hB fun ctv doc h' tk hx hsz => ?_
    · show (if (((t.line : Int) == pos.line && (t.col : Int) == pos.col) = true) then some (Value.ref c') else codeAmong pos []) = some (.ref c')
      rw [e2, e3]; simp
    · have kp : ∀ a o, s.heap.get? a = some o → (h'.push ({ cls := .type "function", data := .func (fnX g t.qual ps b sc clos .none .none doc ((X.mg "__name__").getD .none) none (.ref c') ctv) } : Obj)).get? a = some o := fun _ _ e => Heap.get?_push_of_some _ (hx _ _ e)
      obtain ⟨I2, R2, K2⟩ := ex_ok I R (.of kp)
      exact clo_store (s := { s with heap := h'.push _, toks := tk }) I2 R2 hk hn hnc (Heap.get?_push_size _ rfl) rfl (hcr.keeps kp) hok c1 c2 (fun x hx => (hall x hx).1) h4 fun h3 tk3 I3 R3 K3 => hQ _ _ ⟨h3, tk3, M, I3, R3, K2.toOwn.tr K3, trivial⟩
end
end Mine
namespace Mine
open PySem PySem.W PyProof.Rows PySem.Spec

/-- an object that an iterator writes -/
noncomputable def Wro (o : Obj) : Prop := (∃ vs : Array Value, o.data = .fields vs ∧ ∀ q t, vs[1]? ≠ some (.str q t)) ∨ ∃ its n, o.data = .seq its n

section
variable {X : Cx} {n : Nat} {A : Around} {B : Addr → Prop} {env : Env} {fr fr' : Fm} {M : List Addr} {σ : St} {s : Shared} {a : Mine.A} {σ' : St} {h h' : Heap} {E : Value → Shared → Prop}

theorem wr_ok {wr : List Addr} (I : Inv X B M σ h) (R : ER X B env fr M σ h) (hB : ∀ b ∈ wr, B b) (hb : ∀ b ∈ wr, X.base.get? b = none) (ht : ∀ b ∈ wr, ∀ t ∈ X.tabs, b ≠ t.P) (hw : ∀ b ∈ wr, ∃ o, h.get? b = some o ∧ Wro o)
    (k : ∀ b o, b ∉ wr → h.get? b = some o → h'.get? b = some o) (ex : ∀ b ∈ wr, ∃ o, h'.get? b = some o) : Inv X B M σ h' ∧ ER X B env fr M σ h' ∧ Kp X (fun a => a ∈ wr) M σ h M σ h' := by
  have K : Kp X (fun a => a ∈ wr) M σ h M σ h' := ⟨fun a o _ _ c e => k a o c e, fun a o e => by
      by_cases ha : a ∈ wr
      · exact ex a ha
      · exact ⟨o, k a o ha e⟩, fun _ _ => rfl, fun i c e l => (by rw [List.getElem?_eq_none l] at e; cases e), fun _ x e _ => ⟨x, e⟩⟩
  have kk := K.badKeep I hB
  have code : ∀ c o vs, h.get? c = some o → o.data = .fields vs → (∃ q t, vs[1]? = some (.str q t)) → h'.get? c = some o := fun c o vs e d ⟨q, t, hq⟩ => k c o (fun hc => by
    obtain ⟨o', e', w⟩ := hw c hc
    rw [e] at e'; cases e'
    rcases w with ⟨vs', d', nq⟩ | ⟨_, _, d'⟩
    · rw [d] at d'; cases d'; exact nq q t hq
    · rw [d] at d'; cases d') e
  have func : ∀ c o, h.get? c = some o → (∃ fd, o.data = .func fd) → h'.get? c = some o := fun c o e ⟨fd, d⟩ => k c o (fun hc => by
    obtain ⟨o', e', w⟩ := hw c hc
    rw [e] at e'; cases e'
    rcases w with ⟨vs', d', nq⟩ | ⟨_, _, d'⟩ <;> rw [d] at d' <;> cases d') e
  have cell : ∀ c ov, h.IsCell c ov → h'.IsCell c ov := fun c ov ⟨o, e, d⟩ => ⟨o, k c o (fun hc => by
    obtain ⟨o', e', w⟩ := hw c hc
    rw [e] at e'; cases e'
    rcases w with ⟨vs', d', nq⟩ | ⟨_, _, d'⟩ <;> rw [d] at d' <;> cases d') e, d⟩
  have nsk : ∀ m, h.Ns env.locals m → h'.Ns env.locals m := fun m ⟨o, es, ep, e, d, r⟩ => ⟨o, es, ep, k _ o (fun hc => by
    obtain ⟨o', e', w⟩ := hw _ hc
    rw [e] at e'; cases e'
    rcases w with ⟨vs', d', nq⟩ | ⟨_, _, d'⟩ <;> rw [d] at d' <;> cases d') e, d, r⟩
  refine ⟨⟨I.len, I.nd, fun i a x' b e e' => ?_, I.nB, fun a o e => k a o (fun q => by rw [hb a q] at e; cases e) (I.base a o e), I.new, fun t htt => ?_, I.tabB, fun a b => let ⟨o, e⟩ := I.exB a b; K.ex a o e⟩, ?_, K⟩
  · have ne : a ∉ wr := fun q => I.nB a (List.mem_of_getElem? e) (hB a q)
    exact (I.ob i a x' b e e').mono kk K.badBack (fun o e => k a o ne e)
  · have ne : t.P ∉ wr := fun q => ht _ q t htt rfl
    rcases I.tab t htt with e | ⟨c', e, c, o, vs, tt, q1, q2, q3, q4⟩
    · exact .inl (k _ _ ne e)
    · cases q1
      exact .inr ⟨c', k _ _ ne e, _, o, vs, tt, rfl, code _ _ _ q2 q3 ⟨_, _, q4⟩, q3, q4⟩
  · exact R.map (fun v x r => FR.kp I K hB r) (fun _ _ e => e) nsk (fun x c ov e q => cell c ov q) func code R.lB (fun x c e => (R.cello x c e).2.1)

/-- a source of a loop's items -/
structure Src2 (X : Cx) (A : Around) (t : Expr) (I : Addr) (fp wr : List Addr) (n : Nat) (P Md : Nat → Value → Heap → Prop) (St : Nat → Heap → Prop) : Prop where
  k : KTurns X.prog X.w A t I fp wr n P Md St
  ex : ∀ i h, St i h → ∀ b ∈ wr, ∃ o, h.get? b = some o ∧ Wro o

/-- a pair that an iterator makes anew -/
inductive PairIt (X : Cx) (t : Expr) (h : Heap) (bad : Addr → Prop) (h₂ : Heap) (v : Value) : F → Prop
  | mk (ht : tupleTarget t = true) (T : Addr) (v1 v2 : Value) (x1 x2 : F) (e1 : v = .ref T) (e3 : h₂.IsTuple T #[v1, v2]) (r1 : FRx X h bad v1 x1) (r2 : FRx X h bad v2 x2) : PairIt X t h bad h₂ v (.tup [x1, x2])
theorem PairIt.imp {X : Cx} {t : Expr} {h h' h₂ : Heap} {bad bad' : Addr → Prop} {v : Value} {x : F} (f : ∀ v x, FRx X h bad v x → FRx X h' bad' v x) (p : PairIt X t h bad h₂ v x) : PairIt X t h' bad' h₂ v x := by
  cases p with | mk ht T v1 v2 x1 x2 e1 e3 r1 r2 => exact ⟨ht, T, v1, v2, x1, x2, e1, e3, f _ _ r1, f _ _ r2⟩

/-- an iterator at its beginning -/
structure PIc (X : Cx) (A : Around) (B : Addr → Prop) (env : Env) (fr : Fm) (t : Expr) (items : List F) (σ' : St) (h' : Heap) (M' : List Addr) (I : Addr) (fp wr : List Addr) (P Md : Nat → Value → Heap → Prop) (St : Nat → Heap → Prop) : Prop where
  inv : Inv X (fun a => B a ∨ a ∈ wr) M' σ' h'
  er : ER X (fun a => B a ∨ a ∈ wr) env fr M' σ' h'
  src : Src2 X A t I fp wr items.length P Md St
  st : St 0 h'
  wr_B : ∀ b ∈ wr, ¬ B b
  wr_tab : ∀ b ∈ wr, ∀ t ∈ X.tabs, b ≠ t.P
  wr_base : ∀ b ∈ wr, X.base.get? b = none
  tabs : ∀ t ∈ X.tabs, B t.P
  fp_ok : ∀ b ∈ fp, b ∈ wr ∨ (¬ Bad B M' σ' b ∧ ∃ o, h'.get? b = some o)
  item : ∀ i v h₂, P i v h₂ → ∃ x, items[i]? = some x ∧ (FRx X h' (Bad (fun a => B a ∨ a ∈ wr) M' σ') v x ∨ PairIt X t h' (Bad (fun a => B a ∨ a ∈ wr) M' σ') h₂ v x)
  self : ∀ (A' : Around) (s₂ : Shared) (Q : Value → Shared → Prop) (E : Value → Shared → Prop), St 0 s₂.heap → Q (.ref I) s₂ → wpAny (model X.prog X.w) A' (pyIter (.ref I)) Q E s₂

/-- behind the making of an iterator -/
structure PIt (X : Cx) (A : Around) (B : Addr → Prop) (env : Env) (fr : Fm) (M : List Addr) (σ : St) (s : Shared) (t : Expr) (items : List F) (σ' : St) (h' : Heap) (M' : List Addr) (I : Addr) (fp wr : List Addr) (P Md : Nat → Value → Heap → Prop) (St : Nat → Heap → Prop) : Prop
    extends PIc X A B env fr t items σ' h' M' I fp wr P Md St where
  kp : Kp X (fun a => a = env.locals) M σ s.heap M' σ' h'
  wr_new : ∀ b ∈ wr, s.heap.get? b = none

inductive PI2 (X : Cx) (A : Around) (B : Addr → Prop) (env : Env) (fr : Fm) (M : List Addr) (σ : St) (s : Shared) (t : Expr) (items : List F) (σ' : St) : Value → Shared → Prop
  | mk (h' : Heap) (tk : Nat) (M' : List Addr) (I : Addr) (fp wr : List Addr) (P Md : Nat → Value → Heap → Prop) (St : Nat → Heap → Prop) (p : PIt X A B env fr M σ s t items σ' h' M' I fp wr P Md St) : PI2 X A B env fr M σ s t items σ' (.ref I) { s with heap := h', toks := tk }

noncomputable def SIter (X : Cx) (n : Nat) : Prop := ∀ {A : Around} {B : Addr → Prop} {env : Env} {fr : Fm} {M : List Addr} {σ : St} {s : Shared} {t it : Expr} {items : List F} {σ' : St} {Q : Value → Shared → Prop} {E : Value → Shared → Prop},
  Room A n → Inv X B M σ s.heap → ER X B env fr M σ s.heap → (lev n).iter fr σ t it items σ' → (∀ v s', PI2 X A B env fr M σ s t items σ' v s' → Q v s') →
    wpAny (model X.prog X.w) A (eval it env) (fun x s₁ => wpAny (model X.prog X.w) A (pyIter x) Q E s₁) E s

theorem pi_mk {t : Expr} {items : List F} {h1 : Heap} {M1 : List Addr} {I₀ : Addr} {fp wr : List Addr} {P Md : Nat → Value → Heap → Prop} {St : Nat → Heap → Prop} (I : Inv X B M1 σ' h1) (R : ER X B env fr M1 σ' h1) (K : Kp X (fun a => a = env.locals) M σ s.heap M1 σ' h1)
    (k : ∀ b o, h1.get? b = some o → h'.get? b = some o) (src : Src2 X A t I₀ fp wr items.length P Md St) (st : St 0 h') (hw : ∀ b ∈ wr, h1.get? b = none) (hfp : ∀ b ∈ fp, b ∈ wr ∨ (¬ Bad B M1 σ' b ∧ ∃ o, h'.get? b = some o))
    (item : ∀ i v h₂, P i v h₂ → ∃ x, items[i]? = some x ∧ (FRx X h1 (Bad B M1 σ') v x ∨ PairIt X t h1 (Bad B M1 σ') h₂ v x))
    (self : ∀ (A' : Around) (s₂ : Shared) (Q : Value → Shared → Prop) (E : Value → Shared → Prop), St 0 s₂.heap → Q (.ref I₀) s₂ → wpAny (model X.prog X.w) A' (pyIter (.ref I₀)) Q E s₂) :
    PIt X A B env fr M σ s t items σ' h' M1 I₀ fp wr P Md St where
  inv := I.fresh k hw fun a ha => let ⟨o, e, _⟩ := src.ex 0 h' st a ha; ⟨o, e⟩
  er := R.fresh I k hw
  kp := K.tr (Kp.ext k)
  src := src
  st := st
  wr_new := fun b hb => by
    cases e : s.heap.get? b with
    | none => rfl
    | some o => obtain ⟨o', e'⟩ := K.ex b o e; rw [hw b hb] at e'; cases e'
  wr_B := fun b hb q => by obtain ⟨o, e⟩ := I.exB b q; rw [hw b hb] at e; cases e
  wr_tab := fun b hb t ht q => by obtain ⟨o, e⟩ := I.exB t.P (I.tabB t ht); rw [← q, hw b hb] at e; cases e
  wr_base := fun b hb => by
    cases e : X.base.get? b with
    | none => rfl
    | some o => have := I.base b o e; rw [hw b hb] at this; cases this
  tabs := I.tabB
  fp_ok := hfp
  item := fun i v h₂ p => by
    obtain ⟨x, ex, r⟩ := item i v h₂ p
    exact ⟨x, ex, r.imp (FR.fresh k hw) (PairIt.imp fun _ _ r => r.fresh k hw)⟩
  self := self

/-- a turn's item is bound -/
theorem assign_item {t : Expr} {v : Value} {x : F} {Q : Unit → Shared → Prop} (hh : A.handled = none) (I : Inv X B M σ s.heap) (R : ER X B env fr M σ s.heap)
    (r : FRx X s.heap (Bad B M σ) v x ∨ PairIt X t s.heap (Bad B M σ) s.heap v x)
    (e : BindR fr t x fr') (hQ : ∀ h' tk, Inv X B M σ h' → ER X B env fr' M σ h' → Kp X (OwnF fr.sc env) M σ s.heap M σ h' → Q () { s with heap := h', toks := tk }) : wpAny (model X.prog X.w) A (assign t env v) Q E s := by
  cases e with
  | name e =>
    rcases r with r | r
    · exact wpAny_assign_Name (set_ok I R (a := .v x) r e hQ)
    · cases r; cases ‹tupleTarget _ = true›
  | tup e =>
    rcases r with r | ⟨ht, T, v1, v2, x1, x2, e1, e3, r1, r2⟩
    · cases r with
      | tup hT nb f => exact assign_tuple hh I R rfl hT f e hQ
    · exact assign_tuple (vs := [v1, v2]) hh I R e1 e3 (.cons r1 (.cons r2 .nil)) e hQ
end
end Mine
namespace Mine
open PySem PySem.W PyProof.Rows PySem.Spec

section
variable {X : Cx} {n : Nat} {A : Around} {B : Addr → Prop} {env : Env} {fr fr' : Fm} {M : List Addr} {σ : St} {s : Shared} {a : Mine.A} {σ' : St} {h h' : Heap} {E : Value → Shared → Prop} {fl : Fl}

/-- the loop's state, behind its source's making -/
structure LpI (X : Cx) (B' : Addr → Prop) (O : Addr → Prop) (env : Env) (wr : List Addr) (M' : List Addr) (σ₀ : St) (h₀ : Heap) (fr1 : Fm) (M1 : List Addr) (σ1 : St) (h1 : Heap) : Prop where
  inv : Inv X B' M1 σ1 h1
  er : ER X B' env fr1 M1 σ1 h1
  kp : Kp X (fun a => O a ∨ a ∈ wr) M' σ₀ h₀ M1 σ1 h1

theorem lp_frame {t : Expr} {items : List F} {σ₀ : St} {h₀ : Heap} {M' : List Addr} {I₀ : Addr} {fp wr : List Addr} {P Md : Nat → Value → Heap → Prop} {St' : Nat → Heap → Prop} {O : Addr → Prop}
    (p : PIc X A B env fr t items σ₀ h₀ M' I₀ fp wr P Md St') {M1 M2 : List Addr} {σ1 σ2 : St} {h1 h2 : Heap} {C : Addr → Prop} (hC : ∀ b, C b → B b)
    (K1 : Kp X O M' σ₀ h₀ M1 σ1 h1) (I1 : Inv X (fun a => B a ∨ a ∈ wr) M1 σ1 h1) (K2 : Kp X C M1 σ1 h1 M2 σ2 h2) {i : Nat} (st : St' i h1) : St' i h2 := by
  refine p.src.k.frame i h1 h2 st fun b hb o e => ?_
  have tabs := p.tabs
  by_cases hw : b ∈ wr
  · exact K2.keep b o (fun l => I1.liveB l (.inr hw)) (fun t ht q => p.wr_B b hw (q ▸ tabs t ht)) (fun c => p.wr_B b hw (hC b c)) e
  · rcases p.fp_ok b hb with q | ⟨nb, o', e'⟩
    · exact absurd q hw
    · exact K2.keep b o (fun l => nb (.inr (K1.live e' l))) (fun t ht q => nb (.inl (q ▸ tabs t ht))) (fun c => nb (.inl (hC b c))) e

/-- one turn's beginning: the item is bound -/
theorem lp_bind {t : Expr} {items : List F} {σ₀ : St} {h₀ : Heap} {M' : List Addr} {I₀ : Addr} {fp wr : List Addr} {P Md : Nat → Value → Heap → Prop} {St' : Nat → Heap → Prop} {O : Addr → Prop} (hh : A.handled = none)
    (p : PIc X A B env fr t items σ₀ h₀ M' I₀ fp wr P Md St') {fr1 : Fm} {M1 : List Addr} {σ1 : St} {h1 : Heap} (hO : ∀ a, O a → B a) (hf : ∀ a, OwnF fr1.sc env a → O a) (L : LpI X (fun a => B a ∨ a ∈ wr) O env wr M' σ₀ h₀ fr1 M1 σ1 h1) {i : Nat} (hi : i < items.length) (st : St' i h1)
    {s3 : Shared} {v : Value} (k : ∀ b o, b ∉ wr → h1.get? b = some o → s3.heap.get? b = some o) (hP : P i v s3.heap) (st3 : St' (i + 1) s3.heap)
    {fr2 : Fm} (eb : BindR fr1 t items[i] fr2) {Q : Unit → Shared → Prop}
    (hQ : ∀ h2 tk2, LpI X (fun a => B a ∨ a ∈ wr) O env wr M' σ₀ h₀ fr2 M1 σ1 h2 → St' (i + 1) h2 → Kp X (fun a => OwnF fr1.sc env a ∨ a ∈ wr) M1 σ1 h1 M1 σ1 h2 → Q () { s3 with heap := h2, toks := tk2 }) :
    wpAny (model X.prog X.w) A (assign t env v) Q E s3 := by
  have tabs : ∀ b ∈ wr, ∀ t ∈ X.tabs, b ≠ t.P := p.wr_tab
  have base : ∀ b ∈ wr, X.base.get? b = none := p.wr_base
  obtain ⟨I3, R3, K3⟩ := wr_ok L.inv L.er (fun b hb => .inr hb) base tabs (p.src.ex i _ st) k (fun b hb => let ⟨o, e, _⟩ := p.src.ex _ _ st3 b hb; ⟨o, e⟩)
  have K03 := L.kp.tr (K3.weaken (C' := fun a => O a ∨ a ∈ wr) fun _ _ _ c => .inr c)
  have CB : ∀ a, (O a ∨ a ∈ wr) → (B a ∨ a ∈ wr) := fun a c => c.imp (hO a) id
  obtain ⟨x, ex, r⟩ := p.item i v s3.heap hP
  rw [List.getElem?_eq_getElem hi] at ex
  cases ex
  refine assign_item hh I3 R3 (r.imp (fun r => FR.kp p.inv K03 CB r) (PairIt.imp fun _ _ r => FR.kp p.inv K03 CB r)) eb fun h4 tk4 I4 R4 K4 => hQ _ _ ⟨I4, R4, K03.tr (K4.weaken fun a _ _ c => .inl (hf a c))⟩ ?_ ?_
  · exact lp_frame p (fun a c => hO a (hf a c)) K03 I3 K4 st3
  · exact (K3.weaken fun _ _ _ c => .inr c).tr (K4.weaken fun _ _ _ c => .inl c)

/-- the loop is left in its midst -/
theorem lp_leave {t : Expr} {items : List F} {σ₀ : St} {h₀ : Heap} {M' : List Addr} {I₀ : Addr} {fp wr : List Addr} {P Md : Nat → Value → Heap → Prop} {St' : Nat → Heap → Prop}
    (p : PIt X A B env fr M σ s t items σ₀ h₀ M' I₀ fp wr P Md St') (R0 : ER X B env fr M σ s.heap) {fr1 : Fm} {M1 : List Addr} {σ1 : St} {h1 : Heap} (L : LpI X (fun a => B a ∨ a ∈ wr) (Own env) env wr M' σ₀ h₀ fr1 M1 σ1 h1) :
    Inv X B M1 σ1 h1 ∧ ER X B env fr1 M1 σ1 h1 ∧ Kp X (Own env) M σ s.heap M1 σ1 h1 :=
  ⟨L.inv.less p.tabs, L.er.less R0.lB (fun x c e => (R0.cello x c e).2.1), (p.kp.weaken (C' := fun a => Own env a ∨ a ∈ wr) (fun _ _ _ c => .inl (.inl c))).tr L.kp |>.weaken fun a o e c => c.elim id fun q => by rw [p.wr_new a q] at e; cases e⟩

/-- the source is at its end -/
theorem lp_done' {t : Expr} {items : List F} {σ₀ : St} {h₀ : Heap} {M' : List Addr} {I₀ : Addr} {fp wr : List Addr} {P Md : Nat → Value → Heap → Prop} {St' : Nat → Heap → Prop} {O : Addr → Prop}
    (p : PIc X A B env fr t items σ₀ h₀ M' I₀ fp wr P Md St') (hlB : B env.locals) (hcB : ∀ x c, env.cells.lookup x = some c → B c) {fr1 : Fm} {M1 : List Addr} {σ1 : St} {h1 h2 : Heap} (L : LpI X (fun a => B a ∨ a ∈ wr) O env wr M' σ₀ h₀ fr1 M1 σ1 h1) (st : St' items.length h1)
    (k : ∀ b o, b ∉ wr → h1.get? b = some o → h2.get? b = some o) :
    Inv X B M1 σ1 h2 ∧ ER X B env fr1 M1 σ1 h2 ∧ (∀ v x, FRsx X h1 (Bad (fun a => B a ∨ a ∈ wr) M1 σ1) v x → FRsx X h2 (Bad B M1 σ1) v x) := by
  have IB := L.inv.less p.tabs
  have hw := p.src.ex _ _ st
  have nfun : ∀ c o, h1.get? c = some o → c ∈ wr → (∀ fd, o.data ≠ .func fd) ∧ (∀ v, o.data ≠ .cell v) ∧ (∀ es ep, o.data ≠ .dict es ep) ∧ ∀ vs q t, o.data = .fields vs → vs[1]? ≠ some (.str q t) := fun c o e hc => by
    obtain ⟨o', e', w⟩ := hw c hc
    rw [e] at e'; cases e'
    rcases w with ⟨vs', d', nq⟩ | ⟨_, _, d'⟩
    · exact ⟨fun _ q => (by rw [d'] at q; cases q), fun _ q => (by rw [d'] at q; cases q), fun _ _ q => (by rw [d'] at q; cases q), fun vs q t e => by rw [d'] at e; cases e; exact nq q t⟩
    · exact ⟨fun _ q => (by rw [d'] at q; cases q), fun _ q => (by rw [d'] at q; cases q), fun _ _ q => (by rw [d'] at q; cases q), fun vs q t e => by rw [d'] at e; cases e⟩
  have code : ∀ c o vs, h1.get? c = some o → o.data = .fields vs → (∃ q t, vs[1]? = some (.str q t)) → h2.get? c = some o := fun c o vs e d ⟨q, t, hq⟩ => k c o (fun hc => (nfun c o e hc).2.2.2 vs q t d hq) e
  have func : ∀ c o, h1.get? c = some o → (∃ fd, o.data = .func fd) → h2.get? c = some o := fun c o e ⟨fd, d⟩ => k c o (fun hc => (nfun c o e hc).1 fd d) e
  have cell : ∀ c ov, h1.IsCell c ov → h2.IsCell c ov := fun c ov ⟨o, e, d⟩ => ⟨o, k c o (fun hc => (nfun c o e hc).2.1 _ d) e, d⟩
  have nsk : ∀ m, h1.Ns env.locals m → h2.Ns env.locals m := fun m ⟨o, es, ep, e, d, r⟩ => ⟨o, es, ep, k _ o (fun hc => (nfun _ o e hc).2.2.1 _ _ d) e, d, r⟩
  have bb : ∀ a o, ¬ Bad (fun a => B a ∨ a ∈ wr) M1 σ1 a → h1.get? a = some o → h2.get? a = some o := fun a o nb e => k a o (fun q => nb (.inl (.inr q))) e
  have fx : ∀ v x, FRx X h1 (Bad (fun a => B a ∨ a ∈ wr) M1 σ1) v x → FRx X h2 (Bad B M1 σ1) v x := fun v x r => r.mono bb (fun _ _ _ q => q.elim (fun q => .inl (.inl q)) .inr)
  refine ⟨⟨IB.len, IB.nd, fun i a x' b e e' => ?_, IB.nB, fun a o e => k a o (fun q => by rw [p.wr_base a q] at e; cases e) (IB.base a o e), IB.new, fun t ht => ?_, IB.tabB, fun a b => let ⟨o, e⟩ := IB.exB a b; ⟨o, k a o (fun q => p.wr_B a q b) e⟩⟩, ?_, fun v x r => r.mono bb (fun _ _ _ q => q.elim (fun q => .inl (.inl q)) .inr)⟩
  · have ne : a ∉ wr := fun q => L.inv.nB a (List.mem_of_getElem? e) (.inr q)
    exact (L.inv.ob i a x' b e e').mono bb (fun _ _ _ q => q.elim (fun q => .inl (.inl q)) .inr) (fun o e => k a o ne e)
  · have ne : t.P ∉ wr := fun q => p.wr_tab _ q t ht rfl
    rcases IB.tab t ht with e | ⟨c', e, c, o, vs, tt, q1, q2, q3, q4⟩
    · exact .inl (k _ _ ne e)
    · cases q1
      exact .inr ⟨c', k _ _ ne e, _, o, vs, tt, rfl, code _ _ _ q2 q3 ⟨_, _, q4⟩, q3, q4⟩
  · exact L.er.map fx (fun _ _ e => e) nsk (fun x c ov e q => cell c ov q) func code hlB hcB

/-- what lasts from before the source's making -/
theorem Kp.done {C0 O : Addr → Prop} {wr : List Addr} {M' M1 : List Addr} {σ₀ σ1 : St} {h h₀ h1 h2 : Heap} (K0 : Kp X C0 M σ h M' σ₀ h₀) (hw : ∀ b ∈ wr, h.get? b = none) (K1 : Kp X (fun a => O a ∨ a ∈ wr) M' σ₀ h₀ M1 σ1 h1)
    (k : ∀ b o, b ∉ wr → h1.get? b = some o → h2.get? b = some o) : Kp X (fun a => C0 a ∨ O a) M σ h M1 σ1 h2 := by
  have KB : Kp X (fun a => C0 a ∨ O a) M σ h M1 σ1 h1 := ((K0.weaken (C' := fun a => (C0 a ∨ O a) ∨ a ∈ wr) fun _ _ _ c => .inl (.inl c)).tr (K1.weaken fun _ _ _ c => c.imp .inr id)).weaken fun a o e c => c.elim id fun q => by rw [hw a q] at e; cases e
  exact ⟨fun a o n t c e => k a o (fun q => by rw [hw a q] at e; cases e) (KB.keep a o n t c e), fun a o e => by
      obtain ⟨o', e'⟩ := KB.ex a o e
      exact ⟨o', k a o' (fun q => by rw [hw a q] at e; cases e) e'⟩, KB.pre, KB.new, KB.liv⟩

theorem lp_done {t : Expr} {items : List F} {σ₀ : St} {h₀ : Heap} {M' : List Addr} {I₀ : Addr} {fp wr : List Addr} {P Md : Nat → Value → Heap → Prop} {St' : Nat → Heap → Prop}
    (p : PIt X A B env fr M σ s t items σ₀ h₀ M' I₀ fp wr P Md St') (R0 : ER X B env fr M σ s.heap) {fr1 : Fm} {M1 : List Addr} {σ1 : St} {h1 h2 : Heap} (L : LpI X (fun a => B a ∨ a ∈ wr) (Own env) env wr M' σ₀ h₀ fr1 M1 σ1 h1) (st : St' items.length h1)
    (k : ∀ b o, b ∉ wr → h1.get? b = some o → h2.get? b = some o) :
    Inv X B M1 σ1 h2 ∧ ER X B env fr1 M1 σ1 h2 ∧ Kp X (Own env) M σ s.heap M1 σ1 h2 := by
  obtain ⟨I, R, _⟩ := lp_done' p.toPIc R0.lB (fun x c e => (R0.cello x c e).2.1) L st k
  exact ⟨I, R, (Kp.done p.kp p.wr_new L.kp k).weaken fun _ _ _ c => c.elim (fun c => .inl c) id⟩

/-- one turn of a for, and what is behind it -/
inductive ForT (L : Lev) (t : Expr) (b : List Stmt) (x : F) (xs : List F) (fr : Fm) (σ : St) : Fl → Fm → St → Prop
  | next {fr0 fr1 fr' : Fm} {σ1 σ' : St} {fl : Fl} : BindR fr t x fr0 → ExecsR L b fr0 σ .next fr1 σ1 → ForR L t b xs fr1 σ1 fl fr' σ' → ForT L t b x xs fr σ fl fr' σ'
  | cont {fr0 fr1 fr' : Fm} {σ1 σ' : St} {fl : Fl} : BindR fr t x fr0 → ExecsR L b fr0 σ .cont fr1 σ1 → ForR L t b xs fr1 σ1 fl fr' σ' → ForT L t b x xs fr σ fl fr' σ'
  | brk {fr0 fr1 : Fm} {σ1 : St} : BindR fr t x fr0 → ExecsR L b fr0 σ .brk fr1 σ1 → ForT L t b x xs fr σ .next fr1 σ1
  | ret {fr0 fr1 : Fm} {σ1 : St} {a : Mine.A} : BindR fr t x fr0 → ExecsR L b fr0 σ (.ret a) fr1 σ1 → ForT L t b x xs fr σ (.ret a) fr1 σ1
theorem ForR.turn {L : Lev} {t : Expr} {b : List Stmt} {x : F} {xs : List F} (e : ForR L t b (x :: xs) fr σ fl fr' σ') : ForT L t b x xs fr σ fl fr' σ' := by
  cases e with
  | next a b c => exact .next a b c
  | cont a b c => exact .cont a b c
  | brk a b => exact .brk a b
  | ret a b => exact .ret a b
/-- nothing is left -/
theorem ForR.nil' {L : Lev} {t : Expr} {b : List Stmt} {G : Fl → Fm → St → Prop} (e : ForR L t b [] fr σ fl fr' σ') (h : G fl fr' σ') : G .next fr σ := by
  cases e; exact h
inductive ForSt (X : Cx) (n : Nat) (B' O : Addr → Prop) (env : Env) (wr M : List Addr) (σ : St) (h₀ : Heap) (s : Shared) (St' : Nat → Heap → Prop) (t : Expr) (b : List Stmt) (items : List F) (fl : Fl) (fr' : Fm) (σ' : St) : Nat → Shared → Prop
  | mk (i : Nat) (h1 : Heap) (tk1 : Nat) (M1 : List Addr) (fr1 : Fm) (σ1 : St) (hi : i ≤ items.length) (L : LpI X B' O env wr M σ h₀ fr1 M1 σ1 h1) (st : St' i h1) (e : ForR (lev n) t b (items.drop i) fr1 σ1 fl fr' σ') : ForSt X n B' O env wr M σ h₀ s St' t b items fl fr' σ' (items.length - i) { s with heap := h1, toks := tk1 }
theorem ex_For (hI : SIter X n) (hX : SExecs X n) {t it : Expr} {b : List Stmt} {pos : Pos} {items : List F} {σ₀ : St} {Q : Flow → Shared → Prop} (rm : Room A (n + 1))
    (e1 : (lev n).iter fr σ t it items σ₀) (hs : ∀ x, foldedSetIterable it env x = pure x) (e : ForR (lev n) t b items fr σ₀ fl fr' σ')
    (I : Inv X B M σ s.heap) (R : ER X B env fr M σ s.heap) (hQ : ∀ f s', PX X B env M σ s fl fr' σ' f s' → Q f s') : wpAny (model X.prog X.w) A (exec (.For t it b [] pos) env) Q E s := by
  have hh := rm.hh
  refine wpAny_For (wpAny_mono (hI rm.down I R e1 fun v s1 p1 => ?_) (fun _ _ h => h) fun _ _ h => h) hs
  obtain ⟨h0, tk0, M', I₀, fp, wr, P, Md, St', p⟩ := p1
  refine codeAny_forLoop_any (ForSt X n (fun a => B a ∨ a ∈ wr) (Own env) env wr M' σ₀ h0 s St' t b items fl fr' σ') ?_ items.length
    ⟨0, h0, tk0, M', fr, σ₀, Nat.zero_le _, ⟨p.inv, p.er, .refl⟩, p.st, e⟩
  rintro k s' ⟨i, h1, tk1, M1, fr1, σ1, hi, L, st, ef⟩
  rcases Nat.lt_or_ge i items.length with hlt | hge
  · rw [List.drop_eq_getElem_cons hlt] at ef
    refine p.src.k.item i _ _ _ hlt st fun v h2' tk2' md k2 => ?_
    refine p.src.k.go i v _ _ _ md fun h3' hP st3' k3 => ?_
    have go : ∀ {fr2 : Fm} {fl1 : Fl} {fr3 : Fm} {σ3 : St} {R' : Flow → Shared → Prop} {E' E'' : Value → Shared → Prop}, BindR fr1 t items[i] fr2 → ExecsR (lev n) b fr2 σ1 fl1 fr3 σ3 → (∀ f' h3 tk3 M3, LpI X (fun a => B a ∨ a ∈ wr) (Own env) env wr M' σ₀ h0 fr3 M3 σ3 h3 → St' (i + 1) h3 → FlR X (fun a => B a ∨ a ∈ wr) M3 σ3 h3 f' fl1 → R' f' { s with heap := h3, toks := tk3 }) →
        wpAny (model X.prog X.w) A (assign t env v) (fun _ s₂ => wpAny (model X.prog X.w) A (execs b env) R' E' s₂) E'' { s with heap := h3', toks := tk2' } := fun eb ex hR => by
      refine lp_bind (O := Own env) (s3 := { s with heap := h3', toks := tk2' }) hh p.toPIc R.ownB (fun _ c => c.own) L hlt st (fun b o hb e => k3 b o hb (k2 b o hb e)) hP st3' eb fun h2 tk2 L2 st2 _ => ?_
      refine hX rm.down (s := { s with heap := h2, toks := tk2 }) L2.inv L2.er ex fun f' s3 p3 => ?_
      obtain ⟨h3, tk3, M3, I3, R3, K3, q⟩ := p3
      exact hR f' h3 tk3 M3 ⟨I3, R3, L2.kp.tr (K3.weaken fun _ _ _ c => .inl c)⟩ (lp_frame p.toPIc R.ownB L2.kp L2.inv K3 st2) q
    have ef := ef.turn
    clear e
    revert hQ
    rcases ef with ⟨eb, ex, ef⟩ | ⟨eb, ex, ef⟩ | ⟨eb, ex⟩ | ⟨eb, ex⟩
    · refine fun hQ => go eb ex fun f' h3 tk3 M3 L3 st3 q => ?_
      cases f' <;> first | exact q.elim | exact ⟨items.length - (i + 1), by lia, i + 1, h3, tk3, M3, _, _, hlt, L3, st3, ef⟩
    · refine fun hQ => go eb ex fun f' h3 tk3 M3 L3 st3 q => ?_
      cases f' <;> first | exact q.elim | exact ⟨items.length - (i + 1), by lia, i + 1, h3, tk3, M3, _, _, hlt, L3, st3, ef⟩
    · refine fun hQ => go eb ex fun f' h3 tk3 M3 L3 st3 q => ?_
      cases f' <;> first | exact q.elim | exact (have x := lp_leave p R L3; hQ _ _ ⟨h3, tk3, M3, x.1, x.2.1, x.2.2, trivial⟩)
    · refine fun hQ => go eb ex fun f' h3 tk3 M3 L3 st3 q => ?_
      cases f' <;> first | exact q.elim | exact (have x := lp_leave p R L3; hQ _ _ ⟨h3, tk3, M3, x.1, x.2.1, x.2.2, q.less⟩)
  · rw [List.drop_eq_nil_of_le hge] at ef
    have st : St' items.length h1 := Nat.le_antisymm hi hge ▸ st
    refine p.src.k.done _ _ _ st fun h2 tk2 k2 => ?_
    have x := lp_done p R L st k2
    exact wpAny_execs_nil (ef.nil' (G := fun fl fr' σ' => PX X B env M σ s fl fr' σ' .next { s with heap := h2, toks := tk2 } → _) (hQ _ _) ⟨h2, tk2, M1, x.1, x.2.1, x.2.2, trivial⟩)
end
end Mine
namespace Mine
open PySem PySem.W PyProof.Rows PySem.Spec

noncomputable def innerK (elt : Expr) (gens : List Comprehension) (sc : Scope) (pos : Pos) (depth : Nat) (acc : Value) (env : Env) (k : Sem Fin) : Sem Fin :=
  match gens[depth + 1]? with
  | some g' => eval g'.iter env >>= fun x => standAt g'.iter.pos >>= fun _ => foldedSetIterable g'.iter env x >>= fun x => holding [x] (pyIter x) >>= fun i =>
      runOwn (.compStart (.ListComp elt gens sc pos) (depth + 1) i acc env) env >>= fun _ => k
  | none => (eval elt env >>= fun x => call (.builtin "list.append") [acc, x] >>= fun _ => pure PUnit.unit) >>= fun _ => k

theorem compTurn_at {elt : Expr} {gens : List Comprehension} {sc : Scope} {pos : Pos} {depth : Nat} {it acc : Value} {env : Env} {t itx : Expr} {ifs : List Expr} (hg : gens[depth]? = some ⟨t, itx, ifs, 0⟩) (ha : ∀ g', gens[depth + 1]? = some g' → g'.is_async = 0) :
    compTurn (.ListComp elt gens sc pos) depth it acc env = (standAt itx.pos >>= fun _ => pyNext it >>= fun r => match r with
      | none => pure (.done .next)
      | some v => letOwnedTupleGo t it v >>= fun _ => assign t env v >>= fun _ =>
        (forIn ifs true fun c r => if r = true then do let ok ← isTrue c env (eval c env); pure (ForInStep.yield ok) else pure (ForInStep.yield r)) >>= fun ok =>
          if ok = true then innerK elt gens sc pos depth acc env (again (.compLoop (.ListComp elt gens sc pos) depth it acc env))
          else again (.compLoop (.ListComp elt gens sc pos) depth it acc env)) := by
  unfold compTurn innerK
  simp only [hg]
  cases hg' : gens[depth + 1]? with
  | none => rfl
  | some g' =>
    obtain ⟨t', it', ifs', a'⟩ := g'
    have := ha _ hg'
    simp only at this
    subst this
    rfl

section
variable {prog : Program} {w : World} {A : Around} {E : Value → Shared → Prop} {R : Result → Shared → Prop} {s : Shared}
theorem compLoop_gen {elt : Expr} {gens : List Comprehension} {sc : Scope} {pos : Pos} {depth : Nat} {it acc : Value} {env : Env} {t itx : Expr} {ifs : List Expr} (hg : gens[depth]? = some ⟨t, itx, ifs, 0⟩) (ha : ∀ g', gens[depth + 1]? = some g' → g'.is_async = 0) (I : Nat → Shared → Prop)
    (turn : ∀ n s, I n s → wpAny (model prog w) A (pyNext it) (fun r s₁ => match r with
      | none => R (.ok .next) s₁
      | some v => wpAny (model prog w) A (letOwnedTupleGo t it v) (fun _ s₁' => wpAny (model prog w) A (assign t env v) (fun _ s₂ =>
          wpAny (model prog w) A (forIn ifs true fun c r => if r = true then do let ok ← isTrue c env (eval c env); pure (ForInStep.yield ok) else pure (ForInStep.yield r)) (fun ok s₃ =>
            if ok = true then (∀ (k : Sem Fin) (K : Fin → Shared → Prop) (E' : Value → Shared → Prop), (∀ s₄, (∃ m, m < n ∧ I m s₄) → wpAny (model prog w) A k K E' s₄) → wpAny (model prog w) A (innerK elt gens sc pos depth acc env k) K E' s₃)
            else ∃ m, m < n ∧ I m s₃) (notedBy (model prog w) A env fun e s' => R (.error e) s') s₂) (notedBy (model prog w) A env fun e s' => R (.error e) s') s₁') (notedBy (model prog w) A env fun e s' => R (.error e) s') s₁)
      (notedBy (model prog w) A env fun e s' => R (.error e) s') s)
    (n : Nat) (h : I n s) : codeAny (model prog w) A (.compLoop (.ListComp elt gens sc pos) depth it acc env) R s := by
  refine codeAny_loop rfl I (fun n s hI => ?_) n h
  show wpAny _ A ((compTurn (.ListComp elt gens sc pos) depth it acc env).onRaise (fun x => do noteFrame x env; theTreesLotGoes x)) _ _ s
  refine wpAny_noted ?_
  rw [compTurn_at hg ha]
  refine wpAny_bind (wpAny_standAt (wpAny_bind (wpAny_mono (turn n s hI) (fun r s₁ h₁ => ?_) fun _ _ h' => h')))
  cases r with
  | none => exact wpAny_pure h₁
  | some v =>
    refine wpAny_bind (wpAny_mono h₁ (fun _ s₂ h₂ => wpAny_bind (wpAny_mono h₂ (fun _ s₃ h₃ => wpAny_bind (wpAny_mono h₃ (fun ok s₄ h₄ => ?_) fun _ _ h' => h')) fun _ _ h' => h')) fun _ _ h' => h')
    cases ok with
    | false => exact wpAny_pure ⟨rfl, h₄⟩
    | true => exact h₄ _ _ _ fun s₅ h₅ => wpAny_pure ⟨rfl, h₅⟩

theorem compStart_gen {elt : Expr} {gens : List Comprehension} {sc : Scope} {pos : Pos} {depth : Nat} {it acc : Value} {env : Env} {t itx : Expr} {ifs : List Expr} (hg : gens[depth]? = some ⟨t, itx, ifs, 0⟩)
    (h0 : codeAny (model prog w) A (.compLoop (.ListComp elt gens sc pos) depth it acc env) R s)
    (h : wpAny (model prog w) A (pyIter it) (fun it' s' => codeAny (model prog w) A (.compLoop (.ListComp elt gens sc pos) depth it' acc env) R s') (notedBy (model prog w) A env fun x s' => R (.error x) s') s) :
    codeAny (model prog w) A (.compStart (.ListComp elt gens sc pos) depth it acc env) R s := by
  refine codeAny_of_tree ?_
  show wpAny _ _ ((compStart (.ListComp elt gens sc pos) depth it acc env).onRaise (fun x => do noteFrame x env; standAt theWindowsPlace)) _ _ s
  refine wpAny_notedAt ?_
  unfold compStart
  have hc : (clausesOf (.ListComp elt gens sc pos))[depth]? = some ⟨t, itx, ifs, 0⟩ := hg
  rw [hc]
  show wpAny _ _ (ask >>= _) _ _ s
  refine wpAny_bind (wpAny_askSetting (wpAny_ite ?_))
  split
  · first
      | exact wpAny_bind (wpAny_pure (wpAny_pure (And.intro rfl h0)))
      | exact wpAny_pure (And.intro rfl h0)
  · first
      | exact wpAny_bind (wpAny_rule (wpAny_bind (wpAny_standAt (wpAny_bind (wpAny_mono h (fun it' s' h' => wpAny_pure (And.intro rfl h')) fun _ _ x => x)))))
      | (refine wpAny_bind (wpAny_rule ?_); show wpAny _ _ (standAt itx.pos >>= _) _ _ s; exact wpAny_bind (wpAny_standAt (wpAny_bind (wpAny_mono h (fun it' s' h' => wpAny_pure (And.intro rfl h')) fun _ _ x => x))))
end
end Mine
namespace Mine
open PySem PySem.W PyProof.Rows PySem.Spec

section
variable {X : Cx} {n : Nat}

noncomputable def SComp (X : Cx) (n : Nat) : Prop := ∀ {A : Around} {B : Addr → Prop} {env : Env} {fr : Fm} {M : List Addr} {σ : St} {s : Shared} {t : Expr} {items : List F} {I₀ : Addr} {fp wr : List Addr} {P Md : Nat → Value → Heap → Prop} {St' : Nat → Heap → Prop}
  {elt itx : Expr} {ifs : List Expr} {rest gens : List Comprehension} {sc : Scope} {pos : Pos} {depth : Nat} {D : Addr} {vs : List Value} {m : Nat} {out : List F} {fr' : Fm} {σ' : St} {out' : List F} {R : Result → Shared → Prop},
  Room A n → PIc X A B env fr t items σ s.heap M I₀ fp wr P Md St' → B env.locals → (∀ x c, env.cells.lookup x = some c → B c) → B D → env.locals ≠ D → (∀ t ∈ X.tabs, D ≠ t.P) → X.base.get? D = none →
  (∀ x, fr.sc.names.lookup x ≠ some .cell) → s.heap.get? D = some (W.listOf vs.toArray m) → FRsx X s.heap (Bad (fun a => B a ∨ a ∈ wr) M σ) vs out →
  (∀ g ∈ gens, g.is_async = 0) → gens[depth]? = some ⟨t, itx, ifs, 0⟩ → gens.drop (depth + 1) = rest → (lev n).comp elt t ifs rest items fr σ out fr' σ' out' →
  (∀ h1 h' tk M' vs' m', Kp X (fun a => (a = env.locals ∨ a = D) ∨ a ∈ wr) M σ s.heap M' σ' h1 → (∀ b o, b ∉ wr → h1.get? b = some o → h'.get? b = some o) → Inv X B M' σ' h' → ER X B env fr' M' σ' h' → fr'.sc = fr.sc →
    h'.get? D = some (W.listOf (List.toArray vs') m') → FRsx X h' (Bad B M' σ') vs' out' → R (.ok .next) { s with heap := h', toks := tk }) →
  codeAny (model X.prog X.w) A (.compLoop (.ListComp elt gens sc pos) depth (.ref I₀) (.ref D) env) R s

theorem bindAll_sc {es : List Expr} {xs : List F} {fr fr' : Fm} (e : BindA fr es xs fr') : fr'.sc = fr.sc := by
  induction e with
  | nil => rfl
  | cons e1 _ ih => exact ih.trans (set_sc e1)
theorem bindItem_sc {fr fr' : Fm} {t : Expr} {x : F} (e : BindR fr t x fr') : fr'.sc = fr.sc := by
  cases e with
  | name e => exact set_sc e
  | tup e => exact bindAll_sc e

/-- a list is appended to -/
theorem acc_push {A : Around} {B : Addr → Prop} {env : Env} {fr : Fm} {M : List Addr} {σ : St} {s : Shared} {D : Addr} {vs : List Value} {m : Nat} {out : List F} {v : Value} {y : F} {Q : Value → Shared → Prop} {E : Value → Shared → Prop} (I : Inv X B M σ s.heap) (R : ER X B env fr M σ s.heap) (hDB : B D) (hDt : ∀ t ∈ X.tabs, D ≠ t.P) (hDb : X.base.get? D = none)
    (hD : s.heap.get? D = some (W.listOf vs.toArray m)) (hf : FRsx X s.heap (Bad B M σ) vs out) (hy : FRx X s.heap (Bad B M σ) v y) (hn : out.length ≤ 4096)
    (hQ : ∀ h' vs' m', Inv X B M σ h' → ER X B env fr M σ h' → Kp X (fun a => a = D) M σ s.heap M σ h' → h'.get? D = some (W.listOf (List.toArray vs') m') → FRsx X h' (Bad B M σ) vs' (out ++ [y]) → Q .none { s with heap := h' }) :
    wpAny (model X.prog X.w) A (call (.builtin "list.append") [.ref D, v]) Q E s := by
  have hl := hf.length
  refine append_at hD (fun h' hs hD' => ?_) (by show vs.length ≤ 16777216; lia)
  obtain ⟨I', R', K'⟩ := wr_ok (wr := [D]) I R (fun b hb => by rw [List.mem_singleton.mp hb]; exact hDB) (fun b hb => by rw [List.mem_singleton.mp hb]; exact hDb) (fun b hb => by rw [List.mem_singleton.mp hb]; exact hDt)
    (fun b hb => by rw [List.mem_singleton.mp hb]; exact ⟨_, hD, .inr ⟨_, _, rfl⟩⟩) (fun b o hb e => hs.extBut b o (fun q => hb (by rw [q]; exact List.mem_singleton.mpr rfl)) e) (fun b hb => by rw [List.mem_singleton.mp hb]; exact ⟨_, hD'⟩)
  have K := K'.weaken (C' := fun a => a = D) fun a _ _ c => List.mem_singleton.mp c
  have CB : ∀ a, a = D → B a := fun a q => q ▸ hDB
  exact hQ h' (vs ++ [v]) (m + 1) I' R' K (by simpa using hD') ((FRs.kp I K CB hf).append (.cons (FR.kp I K CB hy) .nil))

theorem fold_plain {it : Expr} {env : Env} (h : plainE it = true) (x : Value) : foldedSetIterable it env x = pure x := by
  cases it <;> first | rfl | cases h

inductive CpSt (X : Cx) (n : Nat) (B' O : Addr → Prop) (env : Env) (wr M : List Addr) (σ : St) (s : Shared) (sc : Scope) (St' : Nat → Heap → Prop) (D : Addr) (items : List F) (elt t : Expr) (ifs : List Expr) (rest : List Comprehension) (fr' : Fm) (σ' : St) (out' : List F) : Nat → Shared → Prop
  | mk (i : Nat) (h1 : Heap) (tk1 : Nat) (M1 : List Addr) (fr1 : Fm) (σ1 : St) (vs1 : List Value) (m1 : Nat) (out1 : List F) (hi : i ≤ items.length) (L : LpI X B' O env wr M σ s.heap fr1 M1 σ1 h1) (st : St' i h1) (hsc : fr1.sc = sc) (hD : h1.get? D = some (W.listOf (List.toArray vs1) m1)) (hf : FRsx X h1 (Bad B' M1 σ1) vs1 out1)
      (ef : LTurns (lev n) elt t ifs rest (items.drop i) fr1 σ1 out1 fr' σ' out') : CpSt X n B' O env wr M σ s sc St' D items elt t ifs rest fr' σ' out' (items.length - i) { s with heap := h1, toks := tk1 }
theorem LTurns.uncons {L : Lev} {elt t : Expr} {ifs : List Expr} {rest : List Comprehension} {x : F} {xs : List F} {fr fr' : Fm} {σ σ' : St} {out out' : List F} {C : Prop} (e : LTurns L elt t ifs rest (x :: xs) fr σ out fr' σ' out')
    (k : ∀ fr1 σ1 out1, LTurn L elt t ifs rest x fr σ out fr1 σ1 out1 → LTurns L elt t ifs rest xs fr1 σ1 out1 fr' σ' out' → C) : C := by
  cases e with | cons ex ef => exact k _ _ _ ex ef
theorem step_comp (hE : SEval X n) (hF : SIfs X n) (hI : SIter X n) (hC : SComp X n) : SComp X (n + 1) := by
  intro A B env fr M σ s t items I₀ fp wr P Md St' elt itx ifs rest gens sc pos depth D vs m out fr' σ' out' R rm p hlB hcB hDB hLD hDt hDb hnc hD hf has hg hrest e hR
  have hh := rm.hh
  obtain ⟨hlen0, e⟩ := (e : CompS (lev n) elt t ifs rest items fr σ out fr' σ' out')
  let O : Addr → Prop := fun a => a = env.locals ∨ a = D
  have hOB : ∀ a, O a → B a := fun a q => q.elim (fun q => q ▸ hlB) fun q => q ▸ hDB
  refine compLoop_gen hg (fun g' q => has g' (List.mem_of_getElem? q)) (CpSt X n (fun a => B a ∨ a ∈ wr) O env wr M σ s fr.sc St' D items elt t ifs rest fr' σ' out') ?_ items.length
    ⟨0, s.heap, s.toks, M, fr, σ, vs, m, out, Nat.zero_le _, ⟨p.inv, p.er, .refl⟩, p.st, rfl, hD, hf, e⟩
  rintro k s' ⟨i, h1, tk1, M1, fr1, σ1, vs1, m1, out1, hi, L, st, hsc, hD1, hf1, ef⟩
  rcases Nat.lt_or_ge i items.length with hlt | hge
  rotate_left
  · have : i = items.length := Nat.le_antisymm hi hge
    subst this
    rw [List.drop_length] at ef
    cases ef
    refine p.src.k.done _ _ _ st fun h2 tk2 k2 => ?_
    have x := lp_done' p hlB hcB L st k2
    exact hR h1 h2 tk2 M1 vs1 m1 L.kp k2 x.1 x.2.1 hsc (k2 D _ (fun q => p.wr_B D q hDB) hD1) (x.2.2 _ _ hf1)
  rw [List.drop_eq_getElem_cons hlt] at ef
  refine ef.uncons fun frN σN outN ex ef => ?_
  refine p.src.k.item i _ _ _ hlt st fun v h2' tk2' md k2 => ?_
  refine p.src.k.go i v _ _ _ md fun h3' hP st3' k3 => ?_
  have CBl : ∀ a, a = env.locals → (B a ∨ a ∈ wr) := fun a q => .inl (q ▸ hlB)
  -- the target and the tests
  have go : ∀ {fr2 : Fm} {b : Bool} {σ3 : St} {R' : Bool → Shared → Prop} {E' E'' : Value → Shared → Prop}, BindR fr1 t items[i] fr2 → AllR (lev n) fr2 .And ifs σ1 b σ3 →
      (∀ h3 tk3 M3, fr2.sc = fr.sc → LpI X (fun a => B a ∨ a ∈ wr) O env wr M σ s.heap fr2 M3 σ3 h3 → St' (i + 1) h3 → h3.get? D = some (W.listOf (List.toArray vs1) m1) → FRsx X h3 (Bad (fun a => B a ∨ a ∈ wr) M3 σ3) vs1 out1 → R' b { s with heap := h3, toks := tk3 }) →
      wpAny (model X.prog X.w) A (assign t env v) (fun _ s₂ => wpAny (model X.prog X.w) A (forIn ifs true fun c r => if r = true then do let ok ← isTrue c env (eval c env); pure (ForInStep.yield ok) else pure (ForInStep.yield r)) R' E' s₂) E'' { s with heap := h3', toks := tk2' } := fun {fr2 _ _ _ _ _} eb et hR' => by
    have hsc2 : fr2.sc = fr.sc := (bindItem_sc eb).trans hsc
    have hof : ∀ a, OwnF fr1.sc env a → a = env.locals := fun a q => q.elim id fun ⟨x, k, _⟩ => absurd (hsc ▸ k) (hnc x)
    refine lp_bind (O := O) (s3 := { s with heap := h3', toks := tk2' }) hh p hOB (fun a c => .inl (hof a c)) L hlt st (fun b o hb e => k3 b o hb (k2 b o hb e)) hP st3' eb fun h2 tk2 L2 st2 Ks => ?_
    have CBs : ∀ a, (OwnF fr1.sc env a ∨ a ∈ wr) → (B a ∨ a ∈ wr) := fun a c => c.imp (fun c => hOB a (.inl (hof a c))) id
    have hD2 : h2.get? D = some (W.listOf (List.toArray vs1) m1) := Ks.keep D _ (fun l => L.inv.liveB l (.inl hDB)) hDt (fun c => c.elim (fun c => hLD (hof D c).symm) fun c => p.wr_B _ c hDB) hD1
    have hf2 := FRs.kp L.inv Ks CBs hf1
    refine hF rm.down (s := { s with heap := h2, toks := tk2 }) L2.inv L2.er et fun s3 p3 => ?_
    obtain ⟨h3, tk3, M3, I3, R3, K3, _⟩ := p3
    exact hR' h3 tk3 M3 hsc2 ⟨I3, R3, L2.kp.tr (K3.weaken fun _ _ _ c => .inl (.inl c))⟩ (lp_frame p (C := fun a => a = env.locals) (fun a (c : a = env.locals) => c ▸ hlB) L2.kp L2.inv K3 st2)
      (K3.keep D _ (fun l => L2.inv.liveB l (.inl hDB)) hDt (fun c => hLD c.symm) hD2) (FRs.kp L2.inv K3 CBl hf2)
  induction ex with
  | skip eb et =>
    refine go eb et fun h3 tk3 M3 hsc2 L3 st3 hD3 hf3 => ?_
    rw [if_neg Bool.false_ne_true]
    exact ⟨items.length - (i + 1), by lia, i + 1, h3, tk3, M3, _, _, vs1, m1, _, hlt, L3, st3, hsc2, hD3, hf3, ef⟩
  | elt hr eb et e4 e5 hlen =>
    refine go eb et fun h3 tk3 M3 hsc2 L3 st3 hD3 hf3 => ?_
    rw [if_pos rfl]
    intro k Kk E' hk
    have I3 := L3.inv
    have hn : gens[depth + 1]? = none := by
      rw [List.getElem?_eq_none_iff]
      have h0 := congrArg List.length (hrest.trans hr)
      rw [List.length_drop] at h0
      exact Nat.sub_eq_zero_iff_le.mp h0
    unfold innerK
    rw [hn]
    refine wpAny_bind (wpAny_bind (hE rm.down (s := { s with heap := h3, toks := tk3 }) I3 L3.er e4 fun v4 s4 p4 => ?_))
    obtain ⟨h4, tk4, M4, I4, R4, K4, r4⟩ := p4
    have x5 := fz_ok (C := fun a => a = env.locals) I4 r4 e5
    have I5 := x5.1
    have K5 := x5.2.1
    have r5 := x5.2.2
    have R5 := R4.kpL I4 K5 (fun _ n => n)
    have K45 := K4.tr K5
    have hD4 := K45.keep D _ (fun l => I3.liveB l (.inl hDB)) hDt (fun c => hLD c.symm) hD3
    refine wpAny_bind (acc_push (s := { s with heap := h4, toks := tk4 }) I5 R5 (.inl hDB) hDt hDb hD4 (FRs.kp I3 K45 CBl hf3) r5 hlen fun h6 vs6 m6 I6 R6 K6 hD6 hf6 => wpAny_pure (hk _ ?_))
    have K36 := (K45.weaken (C' := O) fun _ _ _ c => .inl c).tr (K6.weaken fun _ _ _ c => .inr c)
    exact ⟨items.length - (i + 1), by lia, i + 1, h6, tk4, M4, _, _, vs6, m6, _, hlt, ⟨I6, R6, L3.kp.tr (K36.weaken fun _ _ _ c => .inl c)⟩, lp_frame p hOB L3.kp I3 K36 st3, hsc2, hD6, hf6, ef⟩
  | @nest _ _ _ _ _ _ _ t' it' ifs' rest' items' out1 _ hr hp eb et e4 ex =>
    refine go eb et fun h3 tk3 M3 hsc2 L3 st3 hD3 hf3 => ?_
    rw [if_pos rfl]
    intro k Kk E' hk
    have I3 := L3.inv
    have hm : gens[depth + 1]? = some ⟨t', it', ifs', 0⟩ := by
      have h0 := congrArg (fun l => l[0]?) (hrest.trans hr)
      rw [List.getElem?_drop] at h0
      exact h0
    have hr' : gens.drop (depth + 2) = rest' := by
      have h0 := congrArg List.tail (hrest.trans hr)
      rw [List.tail_drop] at h0
      exact h0
    unfold innerK
    rw [hm]
    refine wpAny_bind (wpAny_mono (hI rm.down (s := { s with heap := h3, toks := tk3 }) I3 L3.er e4 (Q := fun i s => wpAny (model X.prog X.w) A (runOwn (.compStart (.ListComp elt gens sc pos) (depth + 1) i (.ref D) env) env >>= fun _ => k) Kk E' s) (E := E') fun v4 s4 p4 => ?_) (fun x s4 h4 => wpAny_bind (wpAny_standAt (wpAny_bind (wpAny_of_eq (fold_plain hp x) (wpAny_bind (wpAny_holding h4)))))) fun _ _ x => x)
    obtain ⟨h4, tk4, M4, I2, fp2, wr2, P2, Md2, St2, p2⟩ := p4
    have hD4 := p2.kp.keep D _ (fun l => I3.liveB l (.inl hDB)) hDt (fun c => hLD c.symm) hD3
    have hf4 : FRsx X h4 (Bad (fun a => (B a ∨ a ∈ wr) ∨ a ∈ wr2) M4 _) vs1 out1 := hf3.mono (p2.kp.badKeep I3 CBl) fun a o ea q => q.elim (fun q => q.elim .inl fun q => by have := p2.wr_new a q; rw [ea] at this; cases this) fun l => .inr (p2.kp.live ea l)
    have inner : ∀ tk, codeAny (model X.prog X.w) A (.compLoop (.ListComp elt gens sc pos) (depth + 1) (.ref I2) (.ref D) env) (fun r s' => match r with | .ok f => wpAny (model X.prog X.w) A k Kk E' s' | .error e => cameBackBy (model X.prog X.w) A env E' e s') { s with heap := h4, toks := tk } := fun tk => by
      refine hC (s := { s with heap := h4, toks := tk }) rm.down p2.toPIc (.inl hlB) (fun x c e => .inl (hcB x c e)) (.inl hDB) hLD hDt hDb (fun x => hsc2 ▸ hnc x) hD4 hf4 has hm hr' ex fun h5 h6 tk6 M6 vs6 m6 K5 k6 I6 R6 hs6 hD6 hf6 => hk _ ?_
      have K36 := (Kp.done p2.kp p2.wr_new K5 k6).weaken (C' := O) fun _ _ _ c => c.elim .inl id
      exact ⟨items.length - (i + 1), by lia, i + 1, h6, tk6, M6, _, _, vs6, m6, _, hlt, ⟨I6, R6, L3.kp.tr (K36.weaken fun _ _ _ c => .inl c)⟩, lp_frame p hOB L3.kp I3 K36 st3, hs6.trans hsc2, hD6, hf6, ef⟩
    refine wpAny_bind (wpAny_runOwn ?_)
    rw [Around.mark_none]
    exact compStart_gen hm (inner tk4) (p2.self A _ _ _ p2.st (inner tk4))
end
end Mine
namespace Mine
open PySem PySem.W PyProof.Rows PySem.Spec

theorem relabel_look {sc : Scope} {env : Env} (x : Str) : (relabel sc env).names.lookup x = (sc.names.lookup x).map fun k => if (k == .free && env.scope.kind == .function && env.kindOf x == some .cell) = true then .cell else k := by
  unfold relabel
  simp only
  induction sc.names with
  | nil => rfl
  | cons p r ih =>
    obtain ⟨y, k⟩ := p
    simp only [List.map_cons]
    by_cases hx : x = y
    · subst hx
      split <;> rename_i hk
      · simp only [List.lookup_cons, beq_self_eq_true, Option.map_some]; rw [if_pos hk]
      · simp only [List.lookup_cons, beq_self_eq_true, Option.map_some]; rw [if_neg hk]
    · have hx' : (x == y) = false := by simpa using hx
      split <;> simp only [List.lookup_cons, hx'] <;> exact ih

section
variable {X : Cx} {n : Nat} {A : Around} {B : Addr → Prop} {env : Env} {fr fr' : Fm} {M : List Addr} {σ : St} {s : Shared} {a : Mine.A} {σ' : St} {h h' : Heap} {E : Value → Shared → Prop}

/-- a comprehension's frame is let go -/
theorem shed_ok {C : Addr} (I : Inv X (fun a => B a ∨ a = C) M σ h) (R : ER X (fun a => B a ∨ a = C) env fr M σ h) (nC : ¬ B C) (hlB : B env.locals) (hcB : ∀ x c, env.cells.lookup x = some c → B c) (tabs : ∀ t ∈ X.tabs, B t.P) (Cb : X.base.get? C = none)
    (hd : ∃ o es ep, h.get? C = some o ∧ o.data = .dict es ep) (hs : Heap.SameBut C h h') : Inv X B M σ h' ∧ ER X B env fr M σ h' ∧ (∀ v x, FRx X h (Bad (fun a => B a ∨ a = C) M σ) v x → FRx X h' (Bad B M σ) v x) := by
  have IB : Inv X B M σ h := Inv.less (S := fun a => a = C) I tabs
  obtain ⟨oC, es, ep, eC, dC⟩ := hd
  have k : ∀ b o, b ≠ C → h.get? b = some o → h'.get? b = some o := fun b o ne e => hs.extBut b o ne e
  have code : ∀ c o vs, h.get? c = some o → o.data = .fields vs → (∃ q t, vs[1]? = some (.str q t)) → h'.get? c = some o := fun c o vs e d _ => k c o (fun q => by rw [q, eC] at e; cases e; rw [dC] at d; cases d) e
  have func : ∀ c o, h.get? c = some o → (∃ fd, o.data = .func fd) → h'.get? c = some o := fun c o e ⟨fd, d⟩ => k c o (fun q => by rw [q, eC] at e; cases e; rw [dC] at d; cases d) e
  have cell : ∀ c ov, h.IsCell c ov → h'.IsCell c ov := fun c ov ⟨o, e, d⟩ => ⟨o, k c o (fun q => by rw [q, eC] at e; cases e; rw [dC] at d; cases d) e, d⟩
  have nsk : ∀ m, h.Ns env.locals m → h'.Ns env.locals m := fun m ns => ns.sameBut hs fun q => nC (q ▸ hlB)
  have bb : ∀ a o, ¬ Bad (fun a => B a ∨ a = C) M σ a → h.get? a = some o → h'.get? a = some o := fun a o nb e => k a o (fun q => nb (.inl (.inr q))) e
  have bk : ∀ a o, h.get? a = some o → Bad B M σ a → Bad (fun a => B a ∨ a = C) M σ a := fun _ _ _ q => q.elim (fun q => .inl (.inl q)) .inr
  have fx : ∀ v x, FRx X h (Bad (fun a => B a ∨ a = C) M σ) v x → FRx X h' (Bad B M σ) v x := fun v x r => r.mono bb bk
  refine ⟨⟨IB.len, IB.nd, fun i a x' b e e' => ?_, IB.nB, fun a o e => k a o (fun q => by rw [q, Cb] at e; cases e) (IB.base a o e), IB.new, fun t ht => ?_, IB.tabB, fun a b => let ⟨o, e⟩ := IB.exB a b; ⟨o, k a o (fun q => nC (q ▸ b)) e⟩⟩, ?_, fx⟩
  · have ne : a ≠ C := fun q => I.nB a (List.mem_of_getElem? e) (.inr q)
    exact (I.ob i a x' b e e').mono bb bk (fun o e => k a o ne e)
  · have ne : t.P ≠ C := fun q => nC (q ▸ tabs t ht)
    rcases IB.tab t ht with e | ⟨c', e, c, o, vs, tt, q1, q2, q3, q4⟩
    · exact .inl (k _ _ ne e)
    · cases q1
      exact .inr ⟨c', k _ _ ne e, _, o, vs, tt, rfl, code _ _ _ q2 q3 ⟨_, _, q4⟩, q3, q4⟩
  · exact R.map fx (fun _ _ e => e) nsk (fun x c ov e q => cell c ov q) func code hlB hcB

/-- a comprehension's frame -/
theorem comp_er {B' : Addr → Prop} {sc : Scope} {cl : List (Str × Addr)} {C : Addr} (R : ER X B env fr M σ h) (k : ∀ a o, h.get? a = some o → h'.get? a = some o) (f : ∀ v a, AR X B M σ h v a → AR X B' M σ h' v a) (hB : ∀ a, B a → B' a) (hok : compOk fr sc = true)
    (c1 : ∀ y c, cl.lookup y = some c → env.cells.lookup y = some c) (c2 : ∀ y, sc.names.lookup y = some .free → ∃ c, cl.lookup y = some c) (ns : h'.Ns C fun _ => none) (hCB : B' C) (Cb : X.base.get? C = none) :
    ER X B' (compEnvC sc cl C env) (compFm fr sc) M σ h' := by
  simp only [compOk, Bool.and_eq_true, beq_iff_eq, List.all_eq_true] at hok
  obtain ⟨hk, hall⟩ := hok
  have kk : ∀ x, (compFm fr sc).kind x = sc.names.lookup x := fun _ => rfl
  have ek : ∀ x, (compEnvC sc cl C env).kindOf x = _ := fun x => relabel_look (sc := sc) (env := env) x
  exact {
    kind := hk, glob := R.glob, blt := R.blt
    kl := fun x q => by rw [kk] at q; rw [ek, q]; rfl
    kg := fun x q => by rw [kk] at q; rw [ek, q]; rfl
    kc := fun x q => by rw [kk] at q; rw [ek, q]; rfl
    kf := fun x q => by
      rw [kk] at q
      rw [ek, q]
      simp only [Option.map_some, Option.some.injEq]
      split
      · exact .inr rfl
      · exact .inl rfl
    ns := ⟨_, ns, fun x a e => by cases e⟩
    cell := fun x q => by
      rw [kk] at q
      rcases q with q | q
      · have := hall _ (mem_of_lookup q)
        simp at this
      · exact c2 x q
    cello := fun x c e => let ⟨⟨ov, q⟩, b, z⟩ := R.cello x c (c1 x c e); ⟨⟨ov, q.keeps k⟩, hB c b, z⟩
    celv := fun x a c e e' => let ⟨v, q, r⟩ := R.celv x a c e (c1 x c e'); ⟨v, q.keeps k, f _ _ r⟩
    inj := fun x y c e e' => R.inj x y c (c1 x c e) (c1 y c e')
    lB := hCB, lnew := Cb
    clo := fun g d e => by simp [compFm] at e
    nst := fun l c g e => by simp [compFm] at e }
end
end Mine
namespace Mine
open PySem PySem.W PyProof.Rows PySem.Spec

section
variable {X : Cx} {n : Nat} {A : Around} {B : Addr → Prop} {env : Env} {fr fr' : Fm} {M : List Addr} {σ : St} {s : Shared} {a : Mine.A} {σ' : St} {h h' : Heap} {E : Value → Shared → Prop}

/-- what a comprehension's loop shows -/
noncomputable def LoopOf (X : Cx) (A : Around) (e : Expr) (fr : Fm) (sc : Scope) (t : Expr) (items : List F) (σ₁ : St) (oD : Obj) (x : F) (σ' : St) : Prop :=
  ∀ {B' : Addr → Prop} {cenv : Env} {M : List Addr} {s : Shared} {I₀ : Addr} {fp wr : List Addr} {P Md : Nat → Value → Heap → Prop} {St' : Nat → Heap → Prop} {D : Addr} {R : Result → Shared → Prop},
    PIc X A B' cenv (compFm fr sc) t items σ₁ s.heap M I₀ fp wr P Md St' → B' cenv.locals → (∀ x c, cenv.cells.lookup x = some c → B' c) → B' D → cenv.locals ≠ D → (∀ t ∈ X.tabs, D ≠ t.P) → X.base.get? D = none → (D == sysModules) = false → s.heap.get? D = some oD →
    (∀ h1 h' tk M', Kp X (fun a => (a = cenv.locals ∨ a = D) ∨ a ∈ wr) M σ₁ s.heap M' σ' h1 → (∀ b o, b ∉ wr → h1.get? b = some o → h'.get? b = some o) → Inv X B' M' σ' h' → (∃ m, h'.Ns cenv.locals m) → OR X h' (Bad B' M' σ') D x → R (.ok .next) { s with heap := h', toks := tk }) →
    codeAny (model X.prog X.w) A (.compStart e 0 (.ref I₀) (.ref D) cenv) R s

/-- behind a comprehension, before its frame is let go -/
inductive CompMid (X : Cx) (B : Addr → Prop) (env : Env) (fr : Fm) (M : List Addr) (σ : St) (s : Shared) (x : F) (σ' : St) (C D : Addr) : Shared → Prop
  | mk (h' : Heap) (tk : Nat) (M' : List Addr) (I : Inv X (fun a => B a ∨ a = C) M' σ' h') (R : ER X (fun a => B a ∨ a = C) env fr M' σ' h') (K : Kp X (fun a => a = env.locals) M σ s.heap M' σ' h') (r : FRx X h' (Bad (fun a => B a ∨ a = C) M' σ') (.ref D) x)
    (nC : ¬ B C) (Cb : X.base.get? C = none) (C0 : s.heap.get? C = none) (m : Str → Option Value) (ns : h'.Ns C m) : CompMid X B env fr M σ s x σ' C D { s with heap := h', toks := tk }

theorem comp_entry (ok : X.Ok) (hI : SIter X n) {e : Expr} {t it : Expr} {ifs : List Expr} {rest : List Comprehension} {sc : Scope} {pos : Pos} {items : List F} {σ₁ : St} {oD : Obj} {x : F} {newAcc : Sem Value} {use : Option (Value → Sem Unit)} {Q : Value → Shared → Prop}
    (rm : Room A (n + 1)) (I : Inv X B M σ s.heap) (R : ER X B env fr M σ s.heap) (hok : compOk fr sc = true) (hcl : clausesOf e = ⟨t, it, ifs, 0⟩ :: rest) (e1 : (lev n).iter fr σ t it items σ₁) (hs : ∀ x, foldedSetIterable it env x = pure x)
    (hfree : oD.isFreed = false) (hnew : ∀ (s : Shared) (Q : Value → Shared → Prop) (E : Value → Shared → Prop), Q (.ref s.heap.objs.size) { s with heap := s.heap.push oD } → wpAny (model X.prog X.w) A newAcc Q E s) (loop : LoopOf X A e fr sc t items σ₁ oD x σ')
    (hQ : ∀ C D s', CompMid X B env fr M σ s x σ' C D s' → compPost (model X.prog X.w) A E use Q (.ref D) C (.ok .next) s') :
    wpAny (model X.prog X.w) A (comprehension e sc env pos newAcc false (eval it env) use) Q E s := by
  have hok' := hok
  simp only [compOk, Bool.and_eq_true, beq_iff_eq, List.all_eq_true] at hok'
  obtain ⟨hkind, hall⟩ := hok'
  have hcell : ∀ y ∈ sc.names, y.2 ≠ .cell := fun y hy q => by
    have := hall y hy
    rw [q] at this; simp at this
  have hnames : ∀ y ∈ sc.names, y.2 = .local → sc.names.lookup y.1 = some .local := fun y hy q => by
    have := hall y hy
    rw [q] at this; simpa using this
  obtain ⟨cl, hclos, c1, c2⟩ := clos_ok (env := env) (sc := sc) fun p hp hf => R.cell p.1 (.inl (by
    have := hall p hp
    rw [hf] at this; simp at this; exact this.1))
  refine wpAny_comprehension_free hcl hs hclos hkind hnames (hI rm.down I R e1 fun v s1 p1 => ?_)
  obtain ⟨h1, tk1, M1, I₀, fp, wr, P, Md, St', p⟩ := p1
  refine hnew _ _ _ (wpAny_newFunctionEnv hcell (by intro y hy; simp at hy) (fun h3 hns hs3 => ?_) hkind)
  have hsz : (h1.push oD).objs.size = h1.objs.size + 1 := Heap.size_push ..
  generalize hD : h1.objs.size = D at *
  generalize hC : (h1.push oD).objs.size = C at *
  have hDn : h1.get? D = none := hD ▸ size_none h1
  have hCn : h1.get? C = none := get_none_ge (by lia)
  have hCD : C ≠ D := by lia
  have kp : ∀ b o, h1.get? b = some o → h3.get? b = some o := fun b o e => hs3.extBut b o (fun q => by rw [q, hCn] at e; cases e) (Heap.get?_push_of_some _ (Heap.get?_push_of_some _ e))
  have hD3 : h3.get? D = some oD := hs3.extBut D oD (fun q => hCD q.symm) (Heap.get?_push_of_some _ (hD ▸ Heap.get?_push_size _ hfree))
  let S : Addr → Prop := fun a => a = D ∨ a = C
  have hS : ∀ a, S a → h1.get? a = none := fun a q => q.elim (fun q => q ▸ hDn) fun q => q ▸ hCn
  have hx : ∀ a, S a → ∃ o, h3.get? a = some o := fun a q => q.elim (fun q => q ▸ ⟨_, hD3⟩) fun q => q ▸ (let ⟨o, _, _, e, _⟩ := hns; ⟨o, e⟩)
  have bas : ∀ a, h1.get? a = none → X.base.get? a = none := fun a e => by
    cases q : X.base.get? a with
    | none => rfl
    | some o => have := p.inv.base a o q; rw [e] at this; cases this
  have nBS : ∀ a, S a → ¬ B a := fun a q b => by
    obtain ⟨o, e⟩ := p.inv.exB a (.inl b)
    rw [hS a q] at e; cases e
  have pe : (fun c => (B c ∨ c ∈ wr) ∨ S c) = (fun c => (B c ∨ S c) ∨ c ∈ wr) := funext fun c => propext ⟨fun q => q.elim (fun q => q.elim (fun q => .inl (.inl q)) .inr) fun q => .inl (.inr q), fun q => q.elim (fun q => q.elim (fun q => .inl (.inl q)) .inr) fun q => .inl (.inr q)⟩
  have I3 : Inv X (fun c => (B c ∨ S c) ∨ c ∈ wr) M1 σ₁ h3 := pe ▸ p.inv.fresh kp hS hx
  have wex : ∀ b ∈ wr, ∃ o, h1.get? b = some o ∧ Wro o := p.src.ex _ _ p.st
  have fx : ∀ v y, FRx X h1 (Bad (fun a => B a ∨ a ∈ wr) M1 σ₁) v y → FRx X h3 (Bad (fun c => (B c ∨ S c) ∨ c ∈ wr) M1 σ₁) v y := fun v y r => pe ▸ FR.fresh (S := S) kp hS r
  have pc : PIc X A (fun a => B a ∨ S a) (compEnvC sc cl C env) (compFm fr sc) t items σ₁ h3 M1 I₀ fp wr P Md St' := {
    inv := I3
    er := comp_er p.er kp (fun v a r => by
      cases a with
      | v y => exact fx v y r
      | r k => exact r) (fun a q => q.elim (fun q => .inl (.inl q)) .inr) hok c1 c2 (by simpa using hns) (.inl (.inr (.inr rfl))) (bas C hCn)
    src := p.src
    st := p.src.k.frame _ _ _ p.st fun b _ o e => kp b o e
    wr_B := fun b hb q => q.elim (p.wr_B b hb) fun q => by
      obtain ⟨o, e, _⟩ := wex b hb
      rw [hS b q] at e; cases e
    wr_tab := p.wr_tab
    wr_base := p.wr_base
    tabs := fun t ht => .inl (p.tabs t ht)
    fp_ok := fun b hb => (p.fp_ok b hb).imp id fun ⟨nb, o, e⟩ => ⟨fun q => q.elim (fun q => q.elim (fun q => nb (.inl q)) fun q => by rw [hS b q] at e; cases e) fun q => nb (.inr q), o, kp b o e⟩
    item := fun i v h₂ hp => by
      obtain ⟨y, ey, r⟩ := p.item i v h₂ hp
      exact ⟨y, ey, r.imp (fx v y) (PairIt.imp fx)⟩
    self := p.self }
  show codeAny _ A (.compStart e 0 (.ref I₀) (.ref D) (compEnvC sc cl C env)) _ _
  refine loop (s := ⟨h3, s.gens, s.drawn, tk1 + 0, s.os⟩) pc (.inr (.inr rfl)) (fun x c e => .inl (R.cello x c (c1 x c e)).2.1) (.inr (.inl rfl)) hCD (fun t ht q => nBS D (.inl rfl) (q ▸ p.tabs t ht)) (bas D hDn) (beq_eq_false_iff_ne.mpr (Nat.ne_of_gt (hD ▸ modules_low (ok.nolimit.keeps p.inv.base)))) hD3 fun hx' h' tk M' K k2 I' ⟨m', ns'⟩ r => hQ C D _ ?_
  -- what lasts from before the frame's making
  have K1 : Kp X (fun a => False ∨ a ∈ C :: D :: wr) M1 σ₁ h3 M' σ' hx' := K.weaken fun a _ _ c => .inr (c.elim (fun c => c.elim (fun c => c ▸ List.mem_cons_self) fun c => c ▸ List.mem_cons_of_mem _ List.mem_cons_self) fun c => List.mem_cons_of_mem _ (List.mem_cons_of_mem _ c))
  have new0 : ∀ b ∈ C :: D :: wr, s.heap.get? b = none := fun b hb => by
    have h0 : ∀ a, h1.get? a = none → s.heap.get? a = none := fun a e => by
      cases q : s.heap.get? a with
      | none => rfl
      | some o => obtain ⟨o', e'⟩ := p.kp.ex a o q; rw [e] at e'; cases e'
    rcases List.mem_cons.mp hb with rfl | hb
    · exact h0 _ hCn
    · rcases List.mem_cons.mp hb with rfl | hb
      · exact h0 _ hDn
      · exact p.wr_new b hb
  have K0 := (Kp.done (p.kp.tr (Kp.ext kp)) new0 K1 (fun b o hb e => k2 b o (fun q => hb (List.mem_cons_of_mem _ (List.mem_cons_of_mem _ q))) e)).weaken (C' := fun a => a = env.locals) fun _ _ _ c => c.elim id False.elim
  have keep : ∀ a o, h1.get? a = some o → ¬ Live M1 σ₁ a → (∀ t ∈ X.tabs, a ≠ t.P) → a ∉ wr → h'.get? a = some o := fun a o e nl nt nw =>
    k2 a o nw (K.keep a o nl nt (fun c => c.elim (fun c => c.elim (fun c => by rw [show a = C from c, hCn] at e; cases e) fun c => by rw [c, hDn] at e; cases e) nw) (kp a o e))
  have pe2 : (fun a => B a ∨ S a) = (fun a => (B a ∨ a = C) ∨ a = D) := funext fun c => propext ⟨fun q => q.elim (fun q => .inl (.inl q)) fun q => q.elim .inr fun q => .inl (.inr q), fun q => q.elim (fun q => q.elim .inl fun q => .inr (.inr q)) fun q => .inr (.inl q)⟩
  have I2 : Inv X (fun a => B a ∨ a = C) M' σ' h' := Inv.less (S := fun a => a = D) (pe2 ▸ I') fun t ht => .inl (p.tabs t ht)
  have nLw : ∀ a o, h1.get? a = some o → Live M' σ' a → Live M1 σ₁ a := fun a o e l => K.live (kp a o e) l
  have fmap : ∀ v y, FRx X h1 (Bad (fun a => B a ∨ a ∈ wr) M1 σ₁) v y → FRx X h' (Bad (fun a => B a ∨ a = C) M' σ') v y := fun v y r => r.mono
    (fun a o nb e => keep a o e (fun l => nb (.inr l)) (fun t ht q => nb (.inl (.inl (q ▸ p.tabs t ht)))) (fun q => nb (.inl (.inr q))))
    (fun a o e q => q.elim (fun q => q.elim (fun q => .inl (.inl q)) fun q => by rw [q, hCn] at e; cases e) fun l => .inr (nLw a o e l))
  have nwB : ∀ a, B a → a ∉ wr := fun a b q => p.wr_B a q b
  have R2 : ER X (fun a => B a ∨ a = C) env fr M' σ' h' := p.er.map fmap (fun k a e => (K.pre k (List.getElem?_eq_some_iff.mp e).1).trans e)
    (fun m ⟨o, es, ep, e, q⟩ => ⟨o, es, ep, keep _ o e (p.er.nlive p.inv) (p.er.ntab p.inv) (nwB _ R.lB), q⟩)
    (fun x c ov e ⟨o, e1, d⟩ => ⟨o, keep c o e1 (p.er.cnlive p.inv e) (p.er.cntab p.inv e) (nwB c (R.cello x c e).2.1), d⟩)
    (fun a o e ⟨fd, d⟩ => keep a o e (fun l => by
        obtain ⟨o', e', r⟩ := p.inv.liveData l
        rw [e] at e'; cases e'; rw [d] at r; rcases r with ⟨_, _, r⟩ | ⟨_, _, r⟩ <;> cases r) (fun t ht q => by
        obtain ⟨o', vs, e', d', _⟩ := (p.inv.tab t ht).data
        rw [← q, e] at e'; cases e'; rw [d] at d'; cases d') (fun hc => by
        obtain ⟨o', e', w⟩ := wex a hc
        rw [e] at e'; cases e'
        rcases w with ⟨vs', d', nq⟩ | ⟨_, _, d'⟩ <;> rw [d] at d' <;> cases d'))
    (fun a o vs e d ⟨q, t, hq⟩ => keep a o e (fun l => by
        obtain ⟨o', e', r⟩ := p.inv.liveData l
        rw [e] at e'; cases e'; rw [d] at r; rcases r with ⟨_, _, r⟩ | ⟨_, _, r⟩ <;> cases r) (fun t ht q => by
        rcases p.inv.tab t ht with e' | ⟨c', e', _⟩
        · rw [← q, e] at e'; cases e'; cases d; simp at hq
        · rw [← q, e] at e'; cases e'; cases d; simp [rawInt] at hq) (fun hc => by
        obtain ⟨o', e', w⟩ := wex a hc
        rw [e] at e'; cases e'
        rcases w with ⟨vs', d', nq⟩ | ⟨_, _, d'⟩
        · rw [d] at d'; cases d'; exact nq q t hq
        · rw [d] at d'; cases d'))
    (.inl R.lB) (fun x c e => .inl (R.cello x c e).2.1)
  have rD : FRx X h' (Bad (fun a => B a ∨ a = C) M' σ') (.ref D) x := (r.mono (bad' := Bad (fun a => B a ∨ a = C) M' σ') (fun _ _ _ e => e) (fun a _ _ q => q.elim (fun q => .inl (q.elim .inl fun q => .inr (.inr q))) .inr) (fun _ e => e)).fr
    fun q => q.elim (fun q => q.elim (nBS D (.inl rfl)) fun q => hCD q.symm) fun l => I'.liveB l (.inr (.inl rfl))
  exact ⟨h', tk, M', I2, R2, K0, rD, nBS C (.inr rfl), bas C hCn, new0 C List.mem_cons_self, m', ns'⟩
end
end Mine
namespace Mine
open PySem PySem.W PyProof.Rows PySem.Spec

theorem dset_len (k : Int) (x : F) : ∀ l : List (Int × F), (dset k x l).length ≤ l.length + 1
  | [] => by simp [dset]
  | (j, y) :: r => by
    unfold dset
    split
    · simp
    · have := dset_len k x r
      simp; lia

section
variable {X : Cx} {n : Nat} {A : Around} {B : Addr → Prop} {env : Env} {fr fr' : Fm} {M : List Addr} {σ : St} {s : Shared} {a : Mine.A} {σ' : St} {h h' : Heap} {E : Value → Shared → Prop}

theorem loop_list (hC : SComp X n) {elt t it : Expr} {ifs : List Expr} {rest : List Comprehension} {sc : Scope} {pos : Pos} {items : List F} {σ₁ : St} {frE : Fm} {out : List F} (rm : Room A n) (hok : compOk fr sc = true) (has : ∀ g ∈ rest, g.is_async = 0)
    (e : (lev n).comp elt t ifs rest items (compFm fr sc) σ₁ [] frE σ' out) : LoopOf X A (.ListComp elt (⟨t, it, ifs, 0⟩ :: rest) sc pos) fr sc t items σ₁ (W.listOf #[] 0) (.lst out) σ' := by
  intro B' cenv M s I₀ fp wr P Md St' D R p hlB hcB hDB hLD hDt hDb _ hD hR
  simp only [compOk, Bool.and_eq_true, beq_iff_eq, List.all_eq_true] at hok
  have loop : codeAny (model X.prog X.w) A (.compLoop (.ListComp elt (⟨t, it, ifs, 0⟩ :: rest) sc pos) 0 (.ref I₀) (.ref D) cenv) R s := by
    refine hC (vs := []) (m := 0) rm p hlB hcB hDB hLD hDt hDb (fun x q => ?_) hD .nil (fun g hg => ?_) rfl rfl e fun h1 h' tk M' vs' m' K k I' R' _ hD' hf' => hR h1 h' tk M' K k I' (let ⟨m, ns, _⟩ := R'.ns; ⟨m, ns⟩) ⟨vs', m', hD', hf'⟩
    · have := hok.2 _ (mem_of_lookup q)
      simp at this
    · rcases List.mem_cons.mp hg with rfl | hg
      · rfl
      · exact has g hg
  exact compStart_gen rfl loop (p.self A s _ _ p.st loop)

theorem compLoopD_gen {prog : Program} {w : World} {R : Result → Shared → Prop} {kx vx target iter : Expr} {scope : Scope} {pos : Pos} {it : Value} {D : Addr} {env : Env} (I : Nat → Shared → Prop)
    (turn : ∀ n s, I n s → wpAny (model prog w) A (pyNext it) (fun r s₁ => match r with
      | none => R (.ok .next) s₁
      | some v => wpAny (model prog w) A (letOwnedTupleGo target it v) (fun _ s₁' => wpAny (model prog w) A (assign target env v) (fun _ s₂ =>
            wpAny (model prog w) A (eval kx env) (fun kv s₄ => wpAny (model prog w) A (eval vx env) (fun vv s₅ =>
              wpAny (model prog w) A (dictSet D kv vv) (fun _ s₆ => ∃ m, m < n ∧ I m s₆) (notedBy (model prog w) A env fun e s' => R (.error e) s') s₅) (notedBy (model prog w) A env fun e s' => R (.error e) s') s₄) (notedBy (model prog w) A env fun e s' => R (.error e) s') s₂) (notedBy (model prog w) A env fun e s' => R (.error e) s') s₁') (notedBy (model prog w) A env fun e s' => R (.error e) s') s₁)
      (notedBy (model prog w) A env fun e s' => R (.error e) s') s)
    (n : Nat) (h : I n s) : codeAny (model prog w) A (.compLoop (.DictComp kx vx [⟨target, iter, [], 0⟩] scope pos) 0 it (.ref D) env) R s := by
  refine codeAny_loop rfl I (fun n s hI => ?_) n h
  show wpAny _ A ((compTurn (.DictComp kx vx [⟨target, iter, [], 0⟩] scope pos) 0 it (.ref D) env).onRaise (fun x => do noteFrame x env; theTreesLotGoes x)) _ _ s
  refine wpAny_noted ?_
  rw [compTurn_dict]
  refine wpAny_bind (wpAny_standAt (wpAny_bind (wpAny_mono (turn n s hI) (fun r s₁ h₁ => ?_) fun _ _ h' => h')))
  cases r with
  | none => exact wpAny_pure h₁
  | some v =>
    refine wpAny_bind (wpAny_mono h₁ (fun _ s₂ h₂ => wpAny_bind (wpAny_mono h₂ (fun _ s₃ h₃ => ?_) fun _ _ h' => h')) fun _ _ h' => h')
    refine wpAny_bind (wpAny_pure ?_)
    exact wpAny_bind (wpAny_bind (wpAny_mono h₃ (fun kv s₄ h₄ => wpAny_bind (wpAny_holding (wpAny_mono h₄ (fun vv s₅ h₅ => wpAny_bind (wpAny_standAt (wpAny_holding (wpAny_mono h₅ (fun _ s₆ h₆ => wpAny_pure ⟨rfl, h₆⟩) fun _ _ h' => h')))) fun _ _ h' => h'))) fun _ _ h' => h'))

inductive CdSt (X : Cx) (n : Nat) (B' O : Addr → Prop) (env : Env) (wr M : List Addr) (σ : St) (s : Shared) (sc : Scope) (St' : Nat → Heap → Prop) (D : Addr) (items : List F) (t kx vx : Expr) (fr' : Fm) (σ' : St) (out' : List (Int × F)) : Nat → Shared → Prop
  | mk (i : Nat) (h1 : Heap) (tk1 : Nat) (M1 : List Addr) (fr1 : Fm) (σ1 : St) (out1 : List (Int × F)) (hi : i ≤ items.length) (L : LpI X B' O env wr M σ s.heap fr1 M1 σ1 h1) (st : St' i h1) (hsc : fr1.sc = sc) (hol : out1.length ≤ i) (hD : OR X h1 (Bad B' M1 σ1) D (.dct out1))
      (ef : DTurns (lev n) t kx vx (items.drop i) fr1 σ1 out1 fr' σ' out') : CdSt X n B' O env wr M σ s sc St' D items t kx vx fr' σ' out' (items.length - i) { s with heap := h1, toks := tk1 }
theorem DTurns.uncons {L : Lev} {t kx vx : Expr} {x : F} {xs : List F} {fr fr' : Fm} {σ σ' : St} {out out' : List (Int × F)} {C : Prop} (e : DTurns L t kx vx (x :: xs) fr σ out fr' σ' out')
    (k : ∀ fr2 ik σ3 b σ4 y σ5, BindR fr t x fr2 → L.ev fr2 σ kx (.v (.int ik)) σ3 → L.ev fr2 σ3 vx b σ4 → b.fz σ4 = some (y, σ5) → DTurns L t kx vx xs fr2 σ5 (dset ik y out) fr' σ' out' → C) : C := by
  cases e with | cons a1 a2 a3 a4 a5 => exact k _ _ _ _ _ _ _ a1 a2 a3 a4 a5
theorem loop_dict (hE : SEval X n) {kx vx t it : Expr} {sc : Scope} {pos : Pos} {items : List F} {σ₁ : St} {frE : Fm} {out : List (Int × F)} (rm : Room A n) (hok : compOk fr sc = true) (hlen : items.length ≤ 4096)
    (e : DTurns (lev n) t kx vx items (compFm fr sc) σ₁ [] frE σ' out) : LoopOf X A (.DictComp kx vx [⟨t, it, [], 0⟩] sc pos) fr sc t items σ₁ { cls := .type "dict", data := .dict #[] } (.dct out) σ' := by
  intro B' cenv M s I₀ fp wr P Md St' D R p hlB hcB hDB hLD hDt hDb hns hD hR
  have hh := rm.hh
  simp only [compOk, Bool.and_eq_true, beq_iff_eq, List.all_eq_true] at hok
  have hnc : ∀ x, (compFm fr sc).sc.names.lookup x ≠ some .cell := fun x q => by
    have := hok.2 _ (mem_of_lookup q)
    simp at this
  let O : Addr → Prop := fun a => a = cenv.locals ∨ a = D
  have hOB : ∀ a, O a → B' a := fun a q => q.elim (fun q => q ▸ hlB) fun q => q ▸ hDB
  have loop : codeAny (model X.prog X.w) A (.compLoop (.DictComp kx vx [⟨t, it, [], 0⟩] sc pos) 0 (.ref I₀) (.ref D) cenv) R s := by
    refine compLoopD_gen (CdSt X n (fun a => B' a ∨ a ∈ wr) O cenv wr M σ₁ s sc St' D items t kx vx frE σ' out) ?_ items.length
      ⟨0, s.heap, s.toks, M, compFm fr sc, σ₁, [], Nat.zero_le _, ⟨p.inv, p.er, .refl⟩, p.st, rfl, Nat.le_refl _, ⟨[], ⟨_, #[], 0, hD, ⟨rfl, rfl, rfl⟩, rfl, fun _ he => by simp at he, Pairs.nil, List.nodup_nil⟩, hns, rfl, .nil⟩, e⟩
    rintro k s' ⟨i, h1, tk1, M1, fr1, σ1, out1, hi, L, st, hsc, hol, hD1, ef⟩
    rcases Nat.lt_or_ge i items.length with hlt | hge
    rotate_left
    · have : i = items.length := Nat.le_antisymm hi hge
      subst this
      rw [List.drop_length] at ef
      cases ef
      refine p.src.k.done _ _ _ st fun h2 tk2 k2 => ?_
      have x := lp_done' p hlB hcB L st k2
      refine hR h1 h2 tk2 M1 L.kp k2 x.1 (let ⟨m, ns, _⟩ := x.2.1.ns; ⟨m, ns⟩) ?_
      obtain ⟨es, d, q1, q2, q3⟩ := hD1
      exact ⟨es, DictOf.at d fun o e => k2 D o (fun q => p.wr_B D q hDB) e, q1, q2, x.2.2 _ _ q3⟩
    rw [List.drop_eq_getElem_cons hlt] at ef
    refine ef.uncons fun fr2 ik σ3 b σ4 y σ5 eb e3 e4 e5 ef => ?_
    have hsc2 : fr2.sc = sc := (bindItem_sc eb).trans hsc
    have hof : ∀ {fr0 : Fm}, fr0.sc = sc → ∀ a, OwnF fr0.sc cenv a → a = cenv.locals := fun h0 a q => q.elim id fun ⟨x, k, _⟩ => absurd (h0 ▸ k) (hnc x)
    refine p.src.k.item i _ _ _ hlt st fun v h2' tk2' md k2 => ?_
    refine p.src.k.go i v _ _ _ md fun h3' hP st3' k3 => ?_
    refine lp_bind (O := O) (s3 := { s with heap := h3', toks := tk2' }) hh p hOB (fun a c => .inl (hof hsc a c)) L hlt st (fun b o hb e => k3 b o hb (k2 b o hb e)) hP st3' eb fun h2 tk2 L2 st2 Ks => ?_
    have CBs : ∀ a, (OwnF fr1.sc cenv a ∨ a ∈ wr) → (B' a ∨ a ∈ wr) := fun a c => c.imp (fun c => hOB a (.inl (hof hsc a c))) id
    have orKp : ∀ {C : Addr → Prop} {Ma Mb : List Addr} {σa σb : St} {ha hb : Heap} {l : List (Int × F)}, Inv X (fun a => B' a ∨ a ∈ wr) Ma σa ha → Kp X C Ma σa ha Mb σb hb → (∀ a, C a → B' a ∨ a ∈ wr) → ¬ C D → OR X ha (Bad (fun a => B' a ∨ a ∈ wr) Ma σa) D (.dct l) → OR X hb (Bad (fun a => B' a ∨ a ∈ wr) Mb σb) D (.dct l) :=
      fun I K hC nC r => r.mono (K.badKeep I hC) K.badBack fun o e => K.keep D o (fun l => I.liveB l (.inl hDB)) hDt nC e
    have hD2 := orKp L.inv Ks CBs (fun c => c.elim (fun c => hLD (hof hsc D c).symm) fun c => p.wr_B D c hDB) hD1
    have CBl : ∀ a, a = cenv.locals → (B' a ∨ a ∈ wr) := fun a q => .inl (q ▸ hlB)
    have nCl : ¬ (D = cenv.locals) := fun q => hLD q.symm
    refine hE rm (s := { s with heap := h2, toks := tk2 }) L2.inv L2.er e3 fun v3 s3 p3 => ?_
    obtain ⟨h3, tk3, M3, I3, R3, K3, r3⟩ := p3
    cases r3
    refine hE rm (s := { s with heap := h3, toks := tk3 }) I3 R3 e4 fun v4 s4 p4 => ?_
    obtain ⟨h4, tk4, M4, I4, R4, K4, r4⟩ := p4
    have x5 := fz_ok (C := fun a => a = cenv.locals) I4 r4 e5
    have I5 := x5.1
    have K5 := x5.2.1
    have r5 := x5.2.2
    have R5 := R4.kpL I4 K5 (fun _ n => n)
    have K35 := (K3.tr K4).tr K5
    have hD5 := orKp L2.inv K35 CBl nCl hD2
    obtain ⟨es, d, q1, q2, q3⟩ := hD5
    have hel : es.length = out1.length := by simpa using congrArg List.length q2
    refine wpAny_dictSet_pairs (knd := intKind X.prog X.w) (intKind_is _ _ _ _) d (fun h6 d6 hs6 => ?_) (kdl_size (by lia))
    have dD : ∀ a o, h4.get? a = some o → a = D → (∃ es ep, o.data = .dict es ep) ∨ ∃ v, o.data = .cell v := fun a o e q => by
      obtain ⟨o', _, _, e', _, dd, _⟩ := d
      subst q; rw [e] at e'; cases e'; exact .inl ⟨_, _, dd⟩
    have CD : ∀ a, a = D → (B' a ∨ a ∈ wr) := fun a q => .inl (q ▸ hDB)
    obtain ⟨I6, K6⟩ := own_ok I5 (fun a => a = D) rfl CD dD hDb hs6 (let ⟨o, _, _, e, _⟩ := d6; ⟨o, e⟩) hDt
    have R6 := R5.kp I5 K6 CD dD (fun m ns => ns.sameBut hs6 hLD) (fun x c ec q => by
      obtain ⟨⟨ov, o, e1, e2⟩, _⟩ := R5.cello x c ec
      obtain ⟨o', _, _, e', _, dd, _⟩ := d
      rw [q] at e1; rw [e1] at e'; cases e'; rw [e2] at dd; cases dd)
    have K36 := (K35.weaken (C' := O) fun _ _ _ c => .inl c).tr (K6.weaken fun _ _ _ c => .inr c)
    obtain ⟨z1, z2⟩ := stored_dset (k := ik) (FR.kp I5 K6 CD r5) q2 (let ⟨_, _, _, _, _, _, _, _, nd⟩ := d; nd) (FRs.kp I5 K6 CD q3)
    have := dset_len ik y out1
    exact ⟨items.length - (i + 1), by lia, i + 1, h6, _, M4, fr2, σ5, dset ik y out1, hlt, ⟨I6, R6, L2.kp.tr (K36.weaken fun _ _ _ c => .inl c)⟩, lp_frame p hOB L2.kp L2.inv K36 st2, hsc2, by lia, ⟨_, d6, hns, z1, z2⟩, ef⟩
  exact codeAny_compStart_dict loop (p.self A s _ _ p.st loop)
end
end Mine
namespace Mine
open PySem PySem.W PyProof.Rows PySem.Spec

section
variable {X : Cx} {n : Nat} {A : Around} {B : Addr → Prop} {env : Env} {fr fr' : Fm} {M : List Addr} {σ : St} {s : Shared} {a : Mine.A} {σ' : St} {h h' : Heap} {E : Value → Shared → Prop}

theorem comp_any (ok : X.Ok) (hE : SEval X n) (hI : SIter X n) (hC : SComp X n) {e : Expr} (rm : Room A (n + 1)) (I : Inv X B M σ s.heap) (R : ER X B env fr M σ s.heap) (ee : CompE (lev n) fr σ e a σ') :
    ∃ x sc pos newAcc w, a = .v x ∧ eval e env = comprehension e sc env pos newAcc false w none ∧ (∀ u, evalThenUse e env u = (do let _ ← comprehension e sc env pos newAcc false w (some u))) ∧
      ∀ (use : Option (Value → Sem Unit)) (Q : Value → Shared → Prop) (E : Value → Shared → Prop), (∀ C D s', CompMid X B env fr M σ s x σ' C D s' → compPost (model X.prog X.w) A E use Q (.ref D) C (.ok .next) s') → wpAny (model X.prog X.w) A (comprehension e sc env pos newAcc false w use) Q E s := by
  rcases ee
  · rename_i frE elt t it ifs rest sc pos items out hok has hp e1 e2
    refine ⟨_, sc, firstIterPos (⟨t, it, ifs, 0⟩ :: rest) pos, newList [], eval it env, rfl, rfl, fun u => rfl, fun use Q E hQ => ?_⟩
    exact comp_entry ok hI (oD := W.listOf #[] 0) rm I R hok rfl e1 (fold_plain hp) rfl (fun s Q E h => wpAny_newList h) (loop_list hC rm.down hok (fun g hg => by simpa using List.all_eq_true.mp has g hg) e2) hQ
  · rename_i frE σ₁ k v t it sc pos items out hok hp hlen e1 e2
    refine ⟨_, sc, firstIterPos [⟨t, it, [], 0⟩] pos, newDict, eval it env, rfl, rfl, fun u => rfl, fun use Q E hQ => ?_⟩
    exact comp_entry ok hI (oD := { cls := .type "dict", data := .dict #[] }) rm I R hok rfl e1 (fold_plain hp) rfl (fun s Q E h => wpAny_newObj_type h) (loop_dict hE rm.down hok hlen e2) hQ

theorem mid_shed {x : F} {C D : Addr} {s' : Shared} (R : ER X B env fr M σ s.heap) (I : Inv X B M σ s.heap) (p : CompMid X B env fr M σ s x σ' C D s') : ∃ m, s'.heap.Ns C m ∧ ∀ h'', Heap.SameBut C s'.heap h'' → PE X B env fr M σ s (.v x) σ' (.ref D) { s' with heap := h'' } := by
  obtain ⟨h', tk, M', I', R', K', r', nC, Cb, C0, m, ns⟩ := p
  refine ⟨m, ns, fun h'' hs => ?_⟩
  obtain ⟨I2, R2, g2⟩ := shed_ok I' R' nC R.lB (fun x c e => (R.cello x c e).2.1) I.tabB Cb (let ⟨o, es, ep, e, d, _⟩ := ns; ⟨o, es, ep, e, d⟩) hs
  refine ⟨h'', tk, M', I2, R2, ⟨fun a o n t c e => hs.extBut a o (fun q => by rw [q, C0] at e; cases e) (K'.keep a o n t c e), fun a o e => ?_, K'.pre, K'.new, K'.liv⟩, g2 _ _ r'⟩
  obtain ⟨o', e'⟩ := K'.ex a o e
  exact ⟨o', hs.extBut a o' (fun q => by rw [q, C0] at e; cases e) e'⟩

theorem ev_Comp (ok : X.Ok) (hE : SEval X n) (hI : SIter X n) (hC : SComp X n) {e : Expr} (rm : Room A (n + 1)) (ee : CompE (lev n) fr σ e a σ') {Q : Value → Shared → Prop}
    (I : Inv X B M σ s.heap) (R : ER X B env fr M σ s.heap) (hQ : ∀ v s', PE X B env fr M σ s a σ' v s' → Q v s') : wpAny (model X.prog X.w) A (eval e env) Q E s := by
  obtain ⟨x, sc, pos, newAcc, w, rfl, h1, h2, h3⟩ := comp_any (A := A) ok hE hI hC rm I R ee
  rw [h1]
  refine h3 none Q E fun C D s' p => ?_
  obtain ⟨m, ns, g⟩ := mid_shed R I p
  exact ⟨m, ns, fun h'' hs => hQ _ _ (g h'' hs)⟩

theorem ex_AssignComp (ok : X.Ok) (hE : SEval X n) (hI : SIter X n) (hC : SComp X n) {x : Str} {e : Expr} {p q : Pos} {Q : Flow → Shared → Prop} (rm : Room A (n + 1)) (ee : CompE (lev n) fr σ e a σ') (es : fr.set x a = some fr')
    (I : Inv X B M σ s.heap) (R : ER X B env fr M σ s.heap) (hQ : ∀ f s', PX X B env M σ s .next fr' σ' f s' → Q f s') : wpAny (model X.prog X.w) A (exec (.Assign [.Name x q] e p) env) Q E s := by
  have hsw : ∃ b, swapsWith e (some (.Name x q)) p.line env = pure b := by
    cases ee <;> exact ⟨_, rfl⟩
  obtain ⟨b, hb⟩ := hsw
  cases b with
  | false =>
    refine wpAny_Assign_Name (ev_Comp ok hE hI hC rm ee I R fun v s1 p1 => ?_) hb
    obtain ⟨h1, tk1, M1, I1, R1, K1, r1⟩ := p1
    exact set_ok (s := { s with heap := h1, toks := tk1 }) I1 R1 r1 es fun h2 tk2 I2 R2 K2 => hQ _ _ ⟨h2, tk2, M1, I2, R2, K1.toOwn.tr K2.ofF, trivial⟩
  | true =>
    obtain ⟨y, sc, pos, newAcc, w, rfl, h1, h2, h3⟩ := comp_any (A := A) ok hE hI hC rm I R ee
    rw [exec_Assign_Name_used _ _ _ _ hb]
    refine wpAny_bind (wpAny_standAt (wpAny_bind ?_))
    rw [h2]
    refine wpAny_bind (wpAny_mono (h3 (some (assign (.Name x q) env)) (fun _ s' => Q .next s') E fun C D s' pm => ?_) (fun _ s' hq => wpAny_pure (wpAny_pure hq)) fun _ _ e => e)
    obtain ⟨h', tk, M', I', R', K', r', nC, Cb, C0, m, ns⟩ := pm
    show wpAny _ A (assign (.Name x q) env (.ref D)) _ _ _
    refine wpAny_assign_Name (set_ok (s := { s with heap := h', toks := tk }) I' R' (a := .v y) r' es fun h4 tk4 I4 R4 K4 => ?_)
    have nCL : C ≠ env.locals := fun q => nC (q ▸ R.lB)
    obtain ⟨o, es', ep, e, d, z⟩ := ns
    have eC : h4.get? C = some o := K4.keep C o (fun l => I'.liveB l (.inr rfl)) (fun t ht q => nC (q ▸ I.tabB t ht)) (fun c => c.elim nCL fun ⟨x, _, _, ec⟩ => nC (R.cello x C ec).2.1) e
    refine ⟨m, ⟨o, es', ep, eC, d, z⟩, fun h5 hs => ?_⟩
    obtain ⟨I5, R5, g5⟩ := shed_ok I4 R4 nC R.lB (fun x c e => (R.cello x c e).2.1) I.tabB Cb ⟨o, es', ep, eC, d⟩ hs
    have K04 := K'.toOwn.tr K4.ofF
    refine hQ _ _ ⟨h5, tk4, M', I5, R5, ⟨fun a o n t c e => hs.extBut a o (fun q => by rw [q, C0] at e; cases e) (K04.keep a o n t c e), fun a o e => ?_, K04.pre, K04.new, K04.liv⟩, trivial⟩
    obtain ⟨o', e'⟩ := K04.ex a o e
    exact ⟨o', hs.extBut a o' (fun q => by rw [q, C0] at e; cases e) e'⟩
end
end Mine
namespace Mine
open PySem PySem.W PyProof.Rows PySem.Spec

theorem letGo_other {prog : Program} {w : World} {A : Around} {s : Shared} {E : Value → Shared → Prop} {target : Expr} {I : Addr} {o : Obj} {n : String} {v : Value} {Q : Unit → Shared → Prop} (ho : s.heap.get? I = some o) (hc : o.cls = .type n)
    (hn : ["enumerate", "zip", "dict_itemiterator", "dict_reverseitemiterator", "odict_iterator", "itertools.zip_longest", "itertools.pairwise"].contains n = false) (h : Q () s) : wpAny (model prog w) A (letOwnedTupleGo target (.ref I) v) Q E s := by
  have go : ∀ a, wpAny (model prog w) A (load I >>= fun o => match o.cls, o.data with
    | .type n, .fields vs =>
      if (["enumerate", "zip", "dict_itemiterator", "dict_reverseitemiterator", "odict_iterator", "itertools.zip_longest", "itertools.pairwise"].contains n && vs[0]? == some (rawInt a)) = true then do
        rule "for.unpacks-the-owned-tuple"
        updateField I 0 .none
      else pure ()
    | _, _ => pure ()) Q E s := fun a => by
    refine wpAny_bind (wpAny_load ho ?_)
    rw [hc]
    cases o.data <;> first | exact wpAny_pure h | skip
    simp only [hn, Bool.false_and, Bool.false_eq_true, if_false]
    exact wpAny_pure h
  unfold letOwnedTupleGo
  cases target <;> first
    | exact wpAny_pure h
    | (cases v <;> first
        | exact wpAny_pure h
        | exact go _)

section
variable {X : Cx} {n : Nat} {A : Around} {B : Addr → Prop} {env : Env} {fr fr' : Fm} {M : List Addr} {σ : St} {s : Shared} {a : Mine.A} {σ' : St} {h h' : Heap} {E : Value → Shared → Prop} {Q : Value → Shared → Prop}

theorem Src2.len {t : Expr} {I : Addr} {fp wr : List Addr} {n m : Nat} {P Md : Nat → Value → Heap → Prop} {St : Nat → Heap → Prop} (x : Src2 X A t I fp wr n P Md St) (e : n = m) : Src2 X A t I fp wr m P Md St := e ▸ x
theorem Src2.bound {t : Expr} {I : Addr} {fp wr : List Addr} {n : Nat} {P Md : Nat → Value → Heap → Prop} {St : Nat → Heap → Prop} (x : Src2 X A t I fp wr n P Md St) : Src2 X A t I fp wr n (fun i v h => i < n ∧ P i v h) (fun i v h => i < n ∧ Md i v h) St where
  k := {
    sub := x.k.sub
    frame := x.k.frame
    item := fun i s Q E hi st hQ => x.k.item i s Q E hi st fun v h' tk md k => hQ v h' tk ⟨hi, md⟩ k
    go := fun i v s Q E md hQ => x.k.go i v s Q E md.2 fun h' p st k => hQ h' ⟨md.1, p⟩ st k
    done := x.k.done }
  ex := x.ex

theorem src_list (hh : A.handled = none) (t : Expr) (I l : Addr) (hne : l ≠ I) (items : Array Value) : Src2 X A t I [I, l] [I] items.size (fun i v _ => items[i]? = some v) (fun i v h => items[i]? = some v ∧ (h.IsListIter I l (i + 1) ∧ h.IsList l items)) (fun i h => h.IsListIter I l i ∧ h.IsList l items) where
  k := KTurns.ofWalks (Walks.list hh I l hne items) fun i v s Q E st h => letGo_listiter st.1 h
  ex := fun i h st b hb => by
    obtain ⟨⟨o, ho, hc, hd⟩, _⟩ := st
    rw [List.mem_singleton.mp hb]
    exact ⟨o, ho, .inl ⟨_, hd, fun q t => by simp⟩⟩

theorem it_list (hh : A.handled = none) {t : Expr} {v : Value} {xs : List F} {h1 : Heap} {M1 : List Addr} {tk : Nat} (I : Inv X B M1 σ' h1) (R : ER X B env fr M1 σ' h1) (K : Kp X (fun a => a = env.locals) M σ s.heap M1 σ' h1) (r : FRx X h1 (Bad B M1 σ') v (.lst xs))
    (hQ : ∀ v s', PI2 X A B env fr M σ s t xs σ' v s' → Q v s') : wpAny (model X.prog X.w) A (pyIter v) Q E { s with heap := h1, toks := tk } := by
  cases r with
  | lst hl nb f =>
    rename_i l vs
    have hlt : l < h1.objs.size := let ⟨o, e, _⟩ := hl; Heap.lt_size e
    have kp : ∀ b o, h1.get? b = some o → (h1.push ({ cls := .type "list_iterator", data := .fields #[.ref l, .int 0 0] } : Obj)).get? b = some o := fun _ _ e => Heap.get?_push_of_some _ e
    have hsz : vs.toArray.size = xs.length := by simp [f.length]
    have src := src_list (X := X) hh t h1.objs.size l (Nat.ne_of_lt hlt) vs.toArray
    refine wpAny_pyIter_list (s := { s with heap := h1, toks := tk }) hl (hQ _ _ ⟨_, tk, M1, _, _, _, _, _, _, pi_mk I R K kp (src.len hsz) ⟨⟨_, Heap.get?_push_size _ rfl, rfl, rfl⟩, let ⟨o, e, q⟩ := hl; ⟨o, kp _ _ e, q⟩⟩ (fun b hb => by rw [List.mem_singleton.mp hb]; exact size_none _) (fun b hb => ?_) (fun i v h₂ p => ?_) (fun A' s₂ Q E st h => wpAny_pyIter_listiter st.1 h)⟩)
    · rcases List.mem_cons.mp hb with rfl | hb
      · exact .inl (List.mem_singleton.mpr rfl)
      · rw [List.mem_singleton.mp hb]
        exact .inr ⟨nb, let ⟨o, e, _⟩ := hl; ⟨o, kp _ _ e⟩⟩
    · obtain ⟨x, ex, rx⟩ := f.get' i (by simpa using p)
      exact ⟨x, ex, .inl rx⟩

theorem src_rev (hh : A.handled = none) (t : Expr) (I l : Addr) (hne : l ≠ I) (items : Array Value) : Src2 X A t I [I, l] [I] items.size (fun i v _ => items[items.size - 1 - i]? = some v) (fun i v h => items[items.size - 1 - i]? = some v ∧ (i + 1 ≤ items.size ∧ h.IsRevIter I l ((items.size : Int) - 1 - ((i + 1 : Nat) : Int)) ∧ h.IsList l items))
    (fun i h => i ≤ items.size ∧ h.IsRevIter I l ((items.size : Int) - 1 - (i : Int)) ∧ h.IsList l items) where
  k := KTurns.ofWalks (Walks.listRev hh I l hne items) fun i v s Q E st h => let ⟨o, ho, hc, hd⟩ := st.2.1; letGo_other ho hc (by decide) h
  ex := fun i h st b hb => by
    obtain ⟨_, ⟨o, ho, hc, hd⟩, _⟩ := st
    rw [List.mem_singleton.mp hb]
    exact ⟨o, ho, .inl ⟨_, hd, fun q t => by simp [rawInt]⟩⟩

theorem it_rev (hh : A.handled = none) {t : Expr} {v : Value} {xs : List F} {h1 : Heap} {M1 : List Addr} {tk : Nat} (I : Inv X B M1 σ' h1) (R : ER X B env fr M1 σ' h1) (K : Kp X (fun a => a = env.locals) M σ s.heap M1 σ' h1) (r : FRx X h1 (Bad B M1 σ') v (.lst xs))
    (hQ : ∀ v s', PI2 X A B env fr M σ s t xs.reverse σ' v s' → Q v s') : wpAny (model X.prog X.w) A (call (.type "reversed") [v]) (fun x s₁ => wpAny (model X.prog X.w) A (pyIter x) Q E s₁) E { s with heap := h1, toks := tk } := by
  cases r with
  | lst hl nb f =>
    rename_i l vs
    have hlt : l < h1.objs.size := let ⟨o, e, _⟩ := hl; Heap.lt_size e
    have kp : ∀ b o, h1.get? b = some o → (h1.push (revObj l ((vs.toArray.size : Int) - 1))).get? b = some o := fun _ _ e => Heap.get?_push_of_some _ e
    have hsz : vs.toArray.size = xs.reverse.length := by simp [f.length]
    have src := src_rev (X := X) hh t h1.objs.size l (Nat.ne_of_lt hlt) vs.toArray
    have hit : (h1.push (revObj l ((vs.toArray.size : Int) - 1))).IsRevIter h1.objs.size l ((vs.toArray.size : Int) - 1) := ⟨_, Heap.get?_push_size _ rfl, rfl, rfl⟩
    refine call_reversed_list (s := { s with heap := h1, toks := tk }) hl (wpAny_pyIter_revIter (s := { s with heap := h1.push _, toks := tk }) hit (hQ _ _ ⟨_, tk, M1, _, _, _, _, _, _, pi_mk I R K kp (src.bound.len hsz) ⟨Nat.zero_le _, by simpa using hit, let ⟨o, e, q⟩ := hl; ⟨o, kp _ _ e, q⟩⟩ (fun b hb => by rw [List.mem_singleton.mp hb]; exact size_none _) (fun b hb => ?_) (fun i v h₂ p => ?_) (fun A' s₂ Q E st h => wpAny_pyIter_revIter st.2.1 h)⟩))
    · rcases List.mem_cons.mp hb with rfl | hb
      · exact .inl (List.mem_singleton.mpr rfl)
      · rw [List.mem_singleton.mp hb]
        exact .inr ⟨nb, let ⟨o, e, _⟩ := hl; ⟨o, kp _ _ e⟩⟩
    · obtain ⟨hi, p⟩ := p
      have hi' : i < xs.length := by simpa [f.length] using hi
      obtain ⟨x, ex, rx⟩ := f.get' (vs.toArray.size - 1 - i) (by simpa using p)
      refine ⟨x, ?_, .inl rx⟩
      rw [List.getElem?_reverse hi']
      simpa [f.length] using ex
end
end Mine
namespace Mine
open PySem PySem.W PyProof.Rows PySem.Spec

theorem rangeF_get (n : Nat) : ∀ (a : Int) (i : Nat), i < n → (rangeF a n)[i]? = some (.int (a + i)) := by
  induction n with
  | zero => intro a i h; lia
  | succ n ih =>
    intro a i h
    cases i with
    | zero => simp [rangeF]
    | succ i =>
      simp only [rangeF, List.getElem?_cons_succ]
      rw [ih (a + 1) i (by lia)]
      congr 2
      push_cast
      lia
theorem rangeF_len (n : Nat) : ∀ a : Int, (rangeF a n).length = n := by
  induction n with
  | zero => intro a; rfl
  | succ n ih => intro a; simp [rangeF, ih]
theorem enumF_get : ∀ (xs : List F) (k i : Nat) (x : F), xs[i]? = some x → (enumF k xs)[i]? = some (.tup [.int ((k + i : Nat) : Int), x])
  | [], _, _, _, e => by simp at e
  | y :: ys, k, 0, x, e => by simp at e; subst e; simp [enumF]
  | y :: ys, k, i + 1, x, e => by
    simp only [enumF, List.getElem?_cons_succ]
    rw [enumF_get ys (k + 1) i x (by simpa using e)]
    congr 4
    lia
theorem enumF_len : ∀ (xs : List F) (k : Nat), (enumF k xs).length = xs.length
  | [], _ => rfl
  | _ :: xs, k => by simp [enumF, enumF_len xs]
theorem zipF_get : ∀ (xs ys : List F) (i : Nat) (x y : F), xs[i]? = some x → ys[i]? = some y → (zipF xs ys)[i]? = some (.tup [x, y])
  | [], _, _, _, _, e, _ => by simp at e
  | _ :: _, [], _, _, _, _, e => by simp at e
  | a :: xs, b :: ys, 0, x, y, e, e' => by simp at e e'; subst e; subst e'; simp [zipF]
  | a :: xs, b :: ys, i + 1, x, y, e, e' => by
    simp only [zipF, List.getElem?_cons_succ]
    exact zipF_get xs ys i x y (by simpa using e) (by simpa using e')
theorem zipF_len : ∀ (xs ys : List F), (zipF xs ys).length = min xs.length ys.length
  | [], _ => by simp [zipF]
  | _ :: _, [] => by simp [zipF]
  | _ :: xs, _ :: ys => by simp [zipF, zipF_len xs ys]

section
variable {X : Cx} {n : Nat} {A : Around} {B : Addr → Prop} {env : Env} {fr fr' : Fm} {M : List Addr} {σ : St} {s : Shared} {a : Mine.A} {σ' : St} {h h' : Heap} {E : Value → Shared → Prop} {Q : Value → Shared → Prop}

theorem it_range (hh : A.handled = none) {t : Expr} {a b : Int} {r : Addr} {t1 t2 t3 : Tok} {h1 : Heap} {M1 : List Addr} {tk : Nat} (I : Inv X B M1 σ' h1) (R : ER X B env fr M1 σ' h1) (K : Kp X (fun a => a = env.locals) M σ s.heap M1 σ' h1) (hr : IsRange h1 r a b 1 t1 t2 t3) (hs : Builtin.Range.small a b 1 = true)
    (hQ : ∀ v s', PI2 X A B env fr M σ s t (rangeF a (b - a).toNat) σ' v s' → Q v s') : wpAny (model X.prog X.w) A (pyIter (.ref r)) Q E { s with heap := h1, toks := tk } := by
  have hsz : Builtin.Range.rangeSize a b 1 = ((b - a).toNat : Int) := by
    unfold Builtin.Range.rangeSize
    rw [if_pos (by decide)]
    split
    · rw [Int.ediv_one]; lia
    · lia
  refine wpAny_pyIter_range (s := { s with heap := h1, toks := tk }) hr hs ?_
  rw [hsz]
  have kp : ∀ c o, h1.get? c = some o → (h1.push ({ cls := .type "range_iterator", data := .fields #[rawInt a, rawInt ((b - a).toNat : Int), rawInt 1] } : Obj)).get? c = some o := fun _ _ e => Heap.get?_push_of_some _ e
  have W := Walks.range (prog := X.prog) (w := X.w) hh h1.objs.size a 1 (b - a).toNat
  have src : Src2 X A t h1.objs.size [h1.objs.size] [h1.objs.size] (b - a).toNat _ _ _ := ⟨KTurns.ofWalks W fun i v s Q E st h => letGo_other st rfl (by decide) h, fun i h st b hb => by
    rw [List.mem_singleton.mp hb]
    exact ⟨_, st, .inl ⟨_, rfl, fun q t => by simp [rawInt]⟩⟩⟩
  refine hQ _ _ ⟨_, tk, M1, _, _, _, _, _, _, pi_mk I R K kp (src.bound.len (rangeF_len _ _).symm) ?_ (fun b hb => by rw [List.mem_singleton.mp hb]; exact size_none _) (fun b hb => .inl hb) (fun i v h₂ p => ?_) (fun A' s₂ Q E st h => wpAny_pyIter_rangeiter st h)⟩
  · have : IsRangeIter (h1.push ({ cls := .type "range_iterator", data := .fields #[rawInt a, rawInt ((b - a).toNat : Int), rawInt 1] } : Obj)) h1.objs.size a ((b - a).toNat : Int) 1 := Heap.get?_push_size _ rfl
    simpa using this
  · obtain ⟨hi, u, rfl⟩ := p
    exact ⟨_, rangeF_get _ a i hi, .inl (by rw [Int.mul_one]; exact .int _ _)⟩

theorem it_values (hh : A.handled = none) {t : Expr} {d : Addr} {es : List (Int × Value)} {kvs : List (Int × F)} {v : Addr} {h1 h2 : Heap} {M1 : List Addr} {tk : Nat} (I : Inv X B M1 σ' h1) (R : ER X B env fr M1 σ' h1) (K : Kp X (fun a => a = env.locals) M σ s.heap M1 σ' h1) (k2 : ∀ b o, h1.get? b = some o → h2.get? b = some o) (hsz2 : h1.objs.size ≤ h2.objs.size)
    (dd : h1.DictOf (intKind X.prog X.w) d es) (nb : ¬ Bad B M1 σ' d) (hk : es.map (·.1) = kvs.map (·.1)) (f : FRsx X h1 (Bad B M1 σ') (es.map (·.2)) (kvs.map (·.2))) (hv : h2.IsValuesView v d)
    (hQ : ∀ v s', PI2 X A B env fr M σ s t (kvs.map (·.2)) σ' v s' → Q v s') : wpAny (model X.prog X.w) A (pyIter (.ref v)) Q E { s with heap := h2, toks := tk } := by
  obtain ⟨o, q, ep, ho, hdd⟩ := dd
  have hat : h2.DictAt (intKind X.prog X.w) d es ep := ⟨o, q, k2 _ _ ho, hdd⟩
  have hlt : d < h2.objs.size := Heap.lt_size (k2 _ _ ho)
  have hel : es.length = (kvs.map (·.2)).length := by simpa using congrArg List.length hk
  refine wpAny_pyIter_values (s := { s with heap := h2, toks := tk }) hv hat ?_
  have kp : ∀ c o, h1.get? c = some o → (h2.push ({ cls := .type "dict_valueiterator", data := .fields #[.ref d, .int 0 0, .int es.length 0, .int ep 0] } : Obj)).get? c = some o := fun _ _ e => Heap.get?_push_of_some _ (k2 _ _ e)
  have W := Walks.dictValues (knd := intKind X.prog X.w) hh h2.objs.size d (Nat.ne_of_lt hlt) es ep
  have src : Src2 X A t h2.objs.size [h2.objs.size, d] [h2.objs.size] es.length _ _ _ := ⟨KTurns.ofWalks W fun i v s Q E st h => letGo_valiter st.1 h, fun i h st b hb => by
    obtain ⟨⟨o, ho, hc, hd⟩, _⟩ := st
    rw [List.mem_singleton.mp hb]
    exact ⟨o, ho, .inl ⟨_, hd, fun q t => by simp⟩⟩⟩
  refine hQ _ _ ⟨_, tk, M1, _, _, _, _, _, _, pi_mk I R K kp (src.len hel) ⟨⟨_, Heap.get?_push_size _ rfl, rfl, rfl⟩, ⟨o, q, kp _ _ ho, hdd⟩⟩ (fun b hb => by rw [List.mem_singleton.mp hb]; exact get_none_ge hsz2) (fun b hb => ?_) (fun i v h₂ p => ?_) (fun A' s₂ Q E st h => wpAny_pyIter_valiter st.1 h)⟩
  · rcases List.mem_cons.mp hb with rfl | hb
    · exact .inl (List.mem_singleton.mpr rfl)
    · rw [List.mem_singleton.mp hb]
      exact .inr ⟨nb, o, kp _ _ ho⟩
  · obtain ⟨k, ek⟩ := p
    obtain ⟨x, ex, rx⟩ := f.get' i (v := v) (by rw [List.getElem?_map, ek]; rfl)
    exact ⟨x, ex, .inl rx⟩

theorem tgt_tuple {t : Expr} (h : tupleTarget t = true) : ∃ es k p, t = .Tuple es k p :=
  Expr.Tuple.elim (motive_1 := fun t => ∃ es k p, t = .Tuple es k p) t (beq_iff_eq.mp h) fun es k p => ⟨es, k, p, rfl⟩

theorem it_items (hh : A.handled = none) {t : Expr} (ht : tupleTarget t = true) {d : Addr} {es : List (Int × Value)} {kvs : List (Int × F)} {v : Addr} {h1 h2 : Heap} {M1 : List Addr} {tk : Nat} (I : Inv X B M1 σ' h1) (R : ER X B env fr M1 σ' h1) (K : Kp X (fun a => a = env.locals) M σ s.heap M1 σ' h1) (k2 : ∀ b o, h1.get? b = some o → h2.get? b = some o) (hsz2 : h1.objs.size ≤ h2.objs.size)
    (dd : h1.DictOf (intKind X.prog X.w) d es) (nb : ¬ Bad B M1 σ' d) (hk : es.map (·.1) = kvs.map (·.1)) (f : FRsx X h1 (Bad B M1 σ') (es.map (·.2)) (kvs.map (·.2))) (hv : h2.IsItemsView v d)
    (hQ : ∀ v s', PI2 X A B env fr M σ s t (kvs.map fun p => .tup [.int p.1, p.2]) σ' v s' → Q v s') : wpAny (model X.prog X.w) A (pyIter (.ref v)) Q E { s with heap := h2, toks := tk } := by
  obtain ⟨elts, kk, pp, rfl⟩ := tgt_tuple ht
  obtain ⟨o, q, ep, ho, hdd⟩ := dd
  have hat : h2.DictAt (intKind X.prog X.w) d es ep := ⟨o, q, k2 _ _ ho, hdd⟩
  have hlt : d < h2.objs.size := Heap.lt_size (k2 _ _ ho)
  have hel : es.length = (kvs.map fun p => F.tup [.int p.1, p.2]).length := by simpa using congrArg List.length hk
  refine wpAny_pyIter_items (s := { s with heap := h2, toks := tk }) hv hat ?_
  have kp : ∀ c o, h1.get? c = some o → (h2.push ({ cls := .type "dict_itemiterator", data := .fields #[.none, .bool false, .ref d, .int 0 0, .int es.length 0, .int ep 0, .none, .none] } : Obj)).get? c = some o := fun _ _ e => Heap.get?_push_of_some _ (k2 _ _ e)
  have KT := kti_itemsTurns (knd := intKind X.prog X.w) (elts := elts) (kk := kk) (pos := pp) hh h2.objs.size d (Nat.ne_of_lt hlt) es ep
  have src : Src2 X A (.Tuple elts kk pp) h2.objs.size [h2.objs.size, d] [h2.objs.size] es.length _ _ _ := ⟨KT, fun i h st b hb => by
    obtain ⟨⟨ok, ov, e⟩, _⟩ := st
    rw [List.mem_singleton.mp hb]
    exact ⟨_, e, .inl ⟨_, rfl, fun q t => by simp⟩⟩⟩
  refine hQ _ _ ⟨_, tk, M1, _, _, _, _, _, _, pi_mk I R K kp (src.len hel) ⟨⟨_, _, Heap.get?_push_size _ rfl⟩, ⟨o, q, kp _ _ ho, hdd⟩⟩ (fun b hb => by rw [List.mem_singleton.mp hb]; exact get_none_ge hsz2) (fun b hb => ?_) (fun i v h₂ p => ?_) (fun A' s₂ Q E st h => ?_)⟩
  · rcases List.mem_cons.mp hb with rfl | hb
    · exact .inl (List.mem_singleton.mpr rfl)
    · rw [List.mem_singleton.mp hb]
      exact .inr ⟨nb, o, kp _ _ ho⟩
  · obtain ⟨T, key, k, x, e1, e2, e3, e4⟩ := p
    obtain ⟨y, ey, ry⟩ := f.get' i (v := x) (by rw [List.getElem?_map, e2]; rfl)
    have hkk : (kvs.map (·.1))[i]? = some k := by rw [← hk, List.getElem?_map, e2]; rfl
    rw [List.getElem?_map, Option.map_eq_some_iff] at ey hkk
    obtain ⟨p, ep', rfl⟩ := ey
    obtain ⟨p', ep2, rfl⟩ := hkk
    rw [ep'] at ep2; cases ep2
    have : ∃ t, key = .int p.1 t := by
      simp only [intKind] at e3
      cases key <;> simp [Value.isInt] at e3
      subst e3; exact ⟨_, rfl⟩
    obtain ⟨u, rfl⟩ := this
    exact ⟨_, by rw [List.getElem?_map, ep']; rfl, .inr ⟨ht, T, _, _, _, _, e1, e4, .int _ _, ry⟩⟩
  · obtain ⟨⟨ok, ov, e⟩, _⟩ := st
    exact kcp_self e h
end
end Mine
namespace Mine
open PySem PySem.W PyProof.Rows PySem.Spec

theorem zapart {N l1 l2 z TI TO i2 : Nat} (q1 : l1 < N) (q2 : l2 < N) (hz : z = N + 4) (hTI : TI = N + 2) (hTO : TO = N + 3) (hi : i2 = N + 1) : ZipApart z TI TO N i2 l1 l2 := by
  constructor <;> (intro q; have q2 : @Eq Nat _ _ := q; lia)

section
variable {X : Cx} {n : Nat} {A : Around} {B : Addr → Prop} {env : Env} {fr fr' : Fm} {M : List Addr} {σ : St} {s : Shared} {a : Mine.A} {σ' : St} {h h' : Heap} {E : Value → Shared → Prop} {Q : Value → Shared → Prop}

theorem it_zip (hh : A.handled = none) {t : Expr} (ht : tupleTarget t = true) {v1 v2 : Value} {xs ys : List F} {h1 : Heap} {M1 : List Addr} {tk : Nat} (I : Inv X B M1 σ' h1) (R : ER X B env fr M1 σ' h1) (K : Kp X (fun a => a = env.locals) M σ s.heap M1 σ' h1)
    (r1 : FRx X h1 (Bad B M1 σ') v1 (.lst xs)) (r2 : FRx X h1 (Bad B M1 σ') v2 (.lst ys))
    (hQ : ∀ v s', PI2 X A B env fr M σ s t (zipF xs ys) σ' v s' → Q v s') : wpAny (model X.prog X.w) A (call (.type "zip") [v1, v2]) (fun x s₁ => wpAny (model X.prog X.w) A (pyIter x) Q E s₁) E { s with heap := h1, toks := tk } := by
  obtain ⟨elts, kk, pp, rfl⟩ := tgt_tuple ht
  cases r1 with
  | lst hl1 nb1 f1 =>
  cases r2 with
  | lst hl2 nb2 f2 =>
  rename_i l1 us1 l2 us2
  have hlt1 : l1 < h1.objs.size := let ⟨o, e, _⟩ := hl1; Heap.lt_size e
  have hlt2 : l2 < h1.objs.size := let ⟨o, e, _⟩ := hl2; Heap.lt_size e
  refine call_zip_2 (s := { s with heap := h1, toks := tk }) hl1 hl2 fun h2 hz hTI hTO hi1 hi2 hsz kp => wpAny_pyIter_zip (s := { s with heap := h2, toks := tk }) hz ?_
  have D : ZipApart (h1.objs.size + 4) (h1.objs.size + 2) (h1.objs.size + 3) h1.objs.size (h1.objs.size + 1) l1 l2 := zapart hlt1 hlt2 rfl rfl rfl rfl
  have W := (WalksT.zip2 (prog := X.prog) (w := X.w) hh _ _ _ _ _ _ _ D us1.toArray us2.toArray).toU
  have src : Src2 X A (.Tuple elts kk pp) _ _ _ _ _ _ _ := ⟨KTurns.ofWalksU W, fun i h st b hb => by
    obtain ⟨z1, z2, ⟨a, b', z3⟩, ⟨o4, z4, c4, d4⟩, ⟨o5, z5, c5, d5⟩, _⟩ := st
    simp only [List.mem_cons, List.not_mem_nil, or_false] at hb
    rcases hb with rfl | rfl | rfl | rfl
    · exact ⟨_, z1, .inl ⟨_, rfl, fun q t => by simp⟩⟩
    · exact ⟨_, z3, .inr ⟨_, _, rfl⟩⟩
    · exact ⟨_, z4, .inl ⟨_, d4, fun q t => by simp⟩⟩
    · exact ⟨_, z5, .inl ⟨_, d5, fun q t => by simp⟩⟩⟩
  have hlen : min us1.toArray.size us2.toArray.size = (zipF xs ys).length := by rw [zipF_len, ← f1.length, ← f2.length]; rfl
  refine hQ _ _ ⟨h2, tk, M1, _, _, _, _, _, _, pi_mk I R K kp (src.bound.len hlen) ⟨hz, hTI, ⟨_, _, hTO⟩, hi1, hi2, let ⟨o, e, q⟩ := hl1; ⟨o, kp _ _ e, q⟩, let ⟨o, e, q⟩ := hl2; ⟨o, kp _ _ e, q⟩⟩ (fun b hb => ?_) (fun b hb => ?_) (fun i v h₂ p => ?_) (fun A' s₂ Q E st h => wpAny_pyIter_zip st.1 h)⟩
  · simp only [List.mem_cons, List.not_mem_nil, or_false] at hb
    rcases hb with rfl | rfl | rfl | rfl <;> exact get_none_ge (by first | exact Nat.le_refl _ | exact Nat.le_add_right _ _)
  · simp only [List.mem_cons, List.not_mem_nil, or_false] at hb ⊢
    rcases hb with rfl | rfl | rfl | rfl | rfl | rfl | rfl
    · exact .inl (.inl rfl)
    · exact .inr ⟨nbad I (get_none_ge (Nat.le_add_right _ _)), _, hTI⟩
    · exact .inl (.inr (.inl rfl))
    · exact .inl (.inr (.inr (.inl rfl)))
    · exact .inl (.inr (.inr (.inr rfl)))
    · exact .inr ⟨nb1, let ⟨o, e, _⟩ := hl1; ⟨o, kp _ _ e⟩⟩
    · exact .inr ⟨nb2, let ⟨o, e, _⟩ := hl2; ⟨o, kp _ _ e⟩⟩
  · obtain ⟨hi, T, vals, e1, ⟨x, y, ex, ey, rfl⟩, hT⟩ := p
    obtain ⟨x', ex', rx⟩ := f1.get' i (by simpa using ex)
    obtain ⟨y', ey', ry⟩ := f2.get' i (by simpa using ey)
    exact ⟨_, zipF_get xs ys i x' y' ex' ey', .inr ⟨ht, T, x, y, x', y', e1, hT, rx, ry⟩⟩

theorem it_enum (hh : A.handled = none) {t : Expr} (ht : tupleTarget t = true) {v1 : Value} {xs : List F} {h1 : Heap} {M1 : List Addr} {tk : Nat} (I : Inv X B M1 σ' h1) (R : ER X B env fr M1 σ' h1) (K : Kp X (fun a => a = env.locals) M σ s.heap M1 σ' h1)
    (r1 : FRx X h1 (Bad B M1 σ') v1 (.lst xs))
    (hQ : ∀ v s', PI2 X A B env fr M σ s t (enumF 0 xs) σ' v s' → Q v s') : wpAny (model X.prog X.w) A (call (.type "enumerate") [v1]) (fun x s₁ => wpAny (model X.prog X.w) A (pyIter x) Q E s₁) E { s with heap := h1, toks := tk } := by
  obtain ⟨elts, kk, pp, rfl⟩ := tgt_tuple ht
  cases r1 with
  | lst hl1 nb1 f1 =>
  rename_i l1 us1
  have hlt1 : l1 < h1.objs.size := let ⟨o, e, _⟩ := hl1; Heap.lt_size e
  refine call_enumerate_list (s := { s with heap := h1, toks := tk }) hl1 fun h2 hz hi1 hsz kp => wpAny_pyIter_enum (s := { s with heap := h2, toks := tk }) hz ?_
  have W := (WalksT.enumerate (prog := X.prog) (w := X.w) hh (h1.objs.size + 1) h1.objs.size l1 (Nat.succ_ne_self _) (Nat.ne_of_lt (Nat.lt_succ_of_lt hlt1)) (Nat.ne_of_lt hlt1) us1.toArray).toU
  have src : Src2 X A (.Tuple elts kk pp) _ _ _ _ _ _ _ := ⟨KTurns.ofWalksU W, fun i h st b hb => by
    obtain ⟨⟨a, z3⟩, ⟨o4, z4, c4, d4⟩, _⟩ := st
    simp only [List.mem_cons, List.not_mem_nil, or_false] at hb
    rcases hb with rfl | rfl
    · exact ⟨_, z3, .inl ⟨_, rfl, fun q t => by simp⟩⟩
    · exact ⟨_, z4, .inl ⟨_, d4, fun q t => by simp⟩⟩⟩
  have hlen : us1.toArray.size = (enumF 0 xs).length := by rw [enumF_len, ← f1.length]; rfl
  refine hQ _ _ ⟨h2, tk, M1, _, _, _, _, _, _, pi_mk I R K kp (src.bound.len hlen) ⟨⟨_, hz⟩, hi1, let ⟨o, e, q⟩ := hl1; ⟨o, kp _ _ e, q⟩⟩ (fun b hb => ?_) (fun b hb => ?_) (fun i v h₂ p => ?_) (fun A' s₂ Q E st h => let ⟨_, z⟩ := st.1; wpAny_pyIter_enum z h)⟩
  · simp only [List.mem_cons, List.not_mem_nil, or_false] at hb
    rcases hb with rfl | rfl <;> exact get_none_ge (by first | exact Nat.le_refl _ | exact Nat.le_add_right _ _)
  · simp only [List.mem_cons, List.not_mem_nil, or_false] at hb ⊢
    rcases hb with rfl | rfl | rfl
    · exact .inl (.inl rfl)
    · exact .inl (.inr rfl)
    · exact .inr ⟨nb1, let ⟨o, e, _⟩ := hl1; ⟨o, kp _ _ e⟩⟩
  · obtain ⟨hi, T, vals, e1, ⟨u, x, ex, rfl⟩, hT⟩ := p
    obtain ⟨x', ex', rx⟩ := f1.get' i (by simpa using ex)
    refine ⟨_, enumF_get xs 0 i x' ex', .inr ⟨ht, T, _, x, _, x', e1, hT, ?_, rx⟩⟩
    rw [Nat.zero_add]
    exact .int _ _
end
end Mine
namespace Mine
open PySem PySem.W PyProof.Rows PySem.Spec

theorem bo_range : bltOf (Str.ofString "range") = some (.type "range") := by kernel_rfl
theorem bo_zip : bltOf (Str.ofString "zip") = some (.type "zip") := by kernel_rfl
theorem bo_enumerate : bltOf (Str.ofString "enumerate") = some (.type "enumerate") := by kernel_rfl
theorem bo_reversed : bltOf (Str.ofString "reversed") = some (.type "reversed") := by kernel_rfl
theorem nd_range : (Str.ofString "range" == ("__debug__" : Str)) = false := by kernel_rfl
theorem nd_zip : (Str.ofString "zip" == ("__debug__" : Str)) = false := by kernel_rfl
theorem nd_enumerate : (Str.ofString "enumerate" == ("__debug__" : Str)) = false := by kernel_rfl
theorem nd_reversed : (Str.ofString "reversed" == ("__debug__" : Str)) = false := by kernel_rfl

theorem small_range {a b : Int} (ha : a.natAbs < 2 ^ 62) (hb : b.natAbs < 2 ^ 62) (hd : b - a ≤ 4096) : Builtin.Range.small a b 1 = true := by
  have hsz : Builtin.Range.rangeSize a b 1 = ((b - a).toNat : Int) := by
    unfold Builtin.Range.rangeSize
    rw [if_pos (by decide)]
    split
    · rw [Int.ediv_one]; lia
    · lia
  unfold Builtin.Range.small
  rw [hsz]
  simp only [Builtin.Range.rangeFitsLong, Bool.and_eq_true, Bool.or_eq_true, decide_eq_true_eq]
  refine ⟨⟨⟨⟨?_, ?_⟩, ?_⟩, ?_⟩, .inr ?_⟩
  · lia
  · lia
  · decide
  · lia
  · rw [if_pos (by decide)]; simp only [Builtin.Range.rangeFitsLong, Bool.and_eq_true, decide_eq_true_eq]; lia

section
variable {X : Cx} {n : Nat}

theorem step_iter (ok : X.Ok) (hE : SEval X n) : SIter X (n + 1) := by
  intro A B env fr M σ s t it items σ' Q E rm I R e hQ
  have hh := rm.hh
  replace e : IterS (lev n) fr σ t it items σ' := e
  revert I R hQ
  induction e with
  | plain e1 e2 =>
    intro I R hQ
    refine hE rm.down I R e1 fun v s1 p1 => ?_
    obtain ⟨h1, tk1, M1, I1, R1, K1, r1⟩ := p1
    obtain ⟨I2, K2, r2⟩ := fz_ok (C := fun a => a = env.locals) I1 r1 e2
    exact it_list (s := s) hh I2 (R1.kpL I1 K2 (fun _ n => n)) (K1.tr K2) r2 hQ
  | items hl ht e1 e2 =>
    intro I R hQ
    refine wpAny_Call_method rfl rfl hl F.plainAttrs_dict F.slot_dict_items F.type_dict_items (hE rm.down I R e1 fun v s1 p1 => ?_)
    obtain ⟨h1, tk1, M1, I1, R1, K1, r1⟩ := p1
    obtain ⟨I2, K2, r2⟩ := fz_ok (C := fun a => a = env.locals) I1 r1 e2
    have R2 := R1.kpL I1 K2 (fun _ n => n)
    have sh := FR.sh r2
    refine ⟨(sh_type (s := { s with heap := h1, toks := tk1 }) rfl sh).1, (sh_type (s := { s with heap := h1, toks := tk1 }) rfl sh).2, ?_⟩
    cases r2 with
    | dct dd lo nb hk f =>
      refine Calls.callWith_builtin rfl (evalArgs_nil3 (call_items (s := { s with heap := h1, toks := tk1 }) dd lo ?_))
      exact it_items (s := s) hh ht I2 R2 (K1.tr K2) (fun _ _ e => Heap.get?_push_of_some _ e) (by rw [Heap.size_push]; exact Nat.le_succ _) dd nb hk f ⟨_, Heap.get?_push_size _ rfl, rfl, rfl⟩ hQ
  | values hl e1 e2 =>
    intro I R hQ
    refine wpAny_Call_method rfl rfl hl F.plainAttrs_dict F.slot_dict_values F.type_dict_values (hE rm.down I R e1 fun v s1 p1 => ?_)
    obtain ⟨h1, tk1, M1, I1, R1, K1, r1⟩ := p1
    obtain ⟨I2, K2, r2⟩ := fz_ok (C := fun a => a = env.locals) I1 r1 e2
    have R2 := R1.kpL I1 K2 (fun _ n => n)
    have sh := FR.sh r2
    refine ⟨(sh_type (s := { s with heap := h1, toks := tk1 }) rfl sh).1, (sh_type (s := { s with heap := h1, toks := tk1 }) rfl sh).2, ?_⟩
    cases r2 with
    | dct dd lo nb hk f =>
      refine Calls.callWith_builtin rfl (evalArgs_nil3 (call_meetsIn PySem.F.slot_dict_values (Heap.DictOf.typeIs (s := { s with heap := h1, toks := tk1 }) dd) PySem.F.entry_dict_values (PySem.F.args_dict_values_1 _) (meets_dict_values (intKind X.prog X.w) _ lo) ⟨⟨_, dd⟩, ?_⟩))
      exact it_values (s := s) hh I2 R2 (K1.tr K2) (fun _ _ e => Heap.get?_push_of_some _ e) (by rw [Heap.size_push]; exact Nat.le_succ _) dd nb hk f ⟨_, Heap.get?_push_size _ rfl, rfl, rfl⟩ hQ
  | range1 hp hk e1 hb hd =>
    intro I R hQ
    rename_i x p q b
    have hs := no_star hp
    refine wpAny_Call_NameR (ld_blt ok I R hk bo_range nd_range (PySem.callWith_type (by rw [starEach_plain hs]; rfl) ?_))
    rw [starEach_plain hs]
    refine Calls.evalArgs_plain (Calls.spliced_cons (hE rm.down I R e1 fun v s1 p1 => Calls.spliced_nil ?_))
    obtain ⟨h1, tk1, M1, I1, R1, K1, r1⟩ := p1
    cases r1
    refine call_range_1 ?_
    obtain ⟨I2, R2, K2⟩ := ex_ok I1 R1 (.of (h' := h1.push { cls := .type "range", data := .fields #[.int 0 tk1, .int b _, .int 1 (tk1 + 1)] }) fun _ _ e => Heap.get?_push_of_some _ e)
    exact it_range (s := s) hh I2 R2 (K1.tr K2) (IsRange.new ..) (small_range (by decide) (small_lt hb) (by lia)) (by simpa using hQ)
  | range2 hp hp' hk e1 e2 ha hb hd =>
    intro I R hQ
    rename_i σ1 x y p q a b
    have hs := no_star hp
    have hs2 := no_star hp'
    refine wpAny_Call_NameR (ld_blt ok I R hk bo_range nd_range (PySem.callWith_type (by rw [starEach_plain hs, starEach_plain hs2]; rfl) ?_))
    rw [starEach_plain hs, starEach_plain hs2]
    refine Calls.evalArgs_plain (Calls.spliced_cons (hE rm.down I R e1 fun v s1 p1 => ?_))
    obtain ⟨h1, tk1, M1, I1, R1, K1, r1⟩ := p1
    refine Calls.spliced_cons (hE rm.down (s := { s with heap := h1, toks := tk1 }) I1 R1 e2 fun v2 s2 p2 => Calls.spliced_nil ?_)
    obtain ⟨h2, tk2, M2, I2, R2, K2, r2⟩ := p2
    cases r1; cases r2
    rename_i ta tb
    refine call_range_2 ?_
    obtain ⟨I3, R3, K3⟩ := ex_ok I2 R2 (.of (h' := h2.push { cls := .type "range", data := .fields #[.int a ta, .int b tb, .int 1 tk2] }) fun _ _ e => Heap.get?_push_of_some _ e)
    exact it_range (s := s) hh I3 R3 ((K1.tr K2).tr K3) (IsRange.new ..) (small_range (small_lt ha) (small_lt hb) hd) hQ
  | zip hp hp' ht hk e1 e2 e3 e4 =>
    intro I R hQ
    have hs := no_star hp
    have hs2 := no_star hp'
    refine wpAny_Call_NameR (ld_blt ok I R hk bo_zip nd_zip (PySem.callWith_type (by rw [starEach_plain hs, starEach_plain hs2]; rfl) ?_))
    rw [starEach_plain hs, starEach_plain hs2]
    refine Calls.evalArgs_plain (Calls.spliced_cons (hE rm.down I R e1 fun v s1 p1 => ?_))
    obtain ⟨h1, tk1, M1, I1, R1, K1, r1⟩ := p1
    obtain ⟨I2, K2, r2⟩ := fz_ok (C := fun a => a = env.locals) I1 r1 e2
    have R2 := R1.kpL I1 K2 (fun _ n => n)
    refine Calls.spliced_cons (hE rm.down (s := { s with heap := h1, toks := tk1 }) I2 R2 e3 fun v3 s3 p3 => Calls.spliced_nil ?_)
    obtain ⟨h3, tk3, M3, I3, R3, K3, r3⟩ := p3
    obtain ⟨I4, K4, r4⟩ := fz_ok (C := fun a => a = env.locals) I3 r3 e4
    have R4 := R3.kpL I3 K4 (fun _ n => n)
    exact it_zip (s := s) hh ht I4 R4 (((K1.tr K2).tr K3).tr K4) (FR.kp I3 K4 (fun a q => q ▸ R3.lB) (FR.kp I2 K3 (fun a q => q ▸ R2.lB) r2)) r4 hQ
  | enum hp ht hk e1 e2 =>
    intro I R hQ
    have hs := no_star hp
    refine wpAny_Call_NameR (ld_blt ok I R hk bo_enumerate nd_enumerate (PySem.callWith_type (by rw [starEach_plain hs]; rfl) ?_))
    rw [starEach_plain hs]
    refine Calls.evalArgs_plain (Calls.spliced_cons (hE rm.down I R e1 fun v s1 p1 => Calls.spliced_nil ?_))
    obtain ⟨h1, tk1, M1, I1, R1, K1, r1⟩ := p1
    obtain ⟨I2, K2, r2⟩ := fz_ok (C := fun a => a = env.locals) I1 r1 e2
    exact it_enum (s := s) hh ht I2 (R1.kpL I1 K2 (fun _ n => n)) (K1.tr K2) r2 hQ
  | rev hp hk e1 e2 =>
    intro I R hQ
    have hs := no_star hp
    refine wpAny_Call_NameR (ld_blt ok I R hk bo_reversed nd_reversed (PySem.callWith_type (by rw [starEach_plain hs]; rfl) ?_))
    rw [starEach_plain hs]
    refine Calls.evalArgs_plain (Calls.spliced_cons (hE rm.down I R e1 fun v s1 p1 => Calls.spliced_nil ?_))
    obtain ⟨h1, tk1, M1, I1, R1, K1, r1⟩ := p1
    obtain ⟨I2, K2, r2⟩ := fz_ok (C := fun a => a = env.locals) I1 r1 e2
    exact it_rev (s := s) hh I2 (R1.kpL I1 K2 (fun _ n => n)) (K1.tr K2) r2 hQ
end
end Mine
namespace Mine
open PySem PySem.W PyProof.Rows PySem.Spec

theorem bits_eq (a : Int) : bitLen a = ((Builtin.Int.intBits a : Nat) : Int) := by
  unfold bitLen Builtin.Int.intBits
  by_cases h : a = 0
  · subst h; rfl
  · rw [if_neg h, if_neg (by simpa using h)]; push_cast; rfl

section
variable {X : Cx} {n : Nat} {A : Around} {B : Addr → Prop} {env : Env} {fr fr' : Fm} {M : List Addr} {σ : St} {s : Shared} {a : Mine.A} {σ' : St} {E : Value → Shared → Prop} {Q : Value → Shared → Prop}

theorem ev_bits (hE : SEval X n) {o : Str} {p ap q : Pos} {i : Int} (rm : Room A (n + 1)) (hl : (ap.endLine == q.line) = true) (e1 : (lev n).ev fr σ (.Name o p) (.v (.int i)) σ')
    (I : Inv X B M σ s.heap) (R : ER X B env fr M σ s.heap) (hQ : ∀ v s', PE X B env fr M σ s (.v (.int (bitLen i))) σ' v s' → Q v s') : wpAny (model X.prog X.w) A (eval (.Call (.Attribute (.Name o p) (Str.ofString "bit_length") ap) [] [] q) env) Q E s := by
  refine wpAny_Call_method rfl rfl hl F.plainAttrs_int F.slot_int_bit_length F.type_int_bit_length (hE rm.down I R e1 fun v1 s1 p1 => ?_)
  obtain ⟨h1, tk1, M1, I1, R1, K1, r1⟩ := p1
  cases r1
  refine ⟨rfl, fun a q => (by cases q), ?_⟩
  refine Calls.callWith_builtin rfl (evalArgs_nil3 (call_int_bit_length ?_))
  refine hQ _ _ (PE.end0 K1 I1 R1 ?_)
  rw [bits_eq]
  exact .int _ _

end
end Mine
namespace Mine
open PySem PySem.W PyProof.Rows PySem.Spec

section
variable {X : Cx} {n : Nat}

theorem step_eval (ok : X.Ok) (hE : SEval X n) (hT : STest X n) (hP : SPart X n) (hL : SList X n) (hA : SArgs X n) (hI : SIter X n) (hCm : SComp X n) (hC : SCall X n) (hX : ∀ m, n = m + 1 → SExecs X m) : SEval X (n + 1) := by
  intro A B env fr M σ s e a σ' Q E rm I R ee hQ
  have hm : sysModules < s.heap.objs.size := modules_low (ok.nolimit.keeps I.base)
  replace ee : EvS (lev n) fr σ e a σ' := ee
  revert I R hQ
  induction ee with
  | int => exact ev_Constant_int
  | bool => exact fun I R hQ => wpAny_Constant_bool (hQ _ _ (PE.same I R (.bool _)))
  | name h1 h2 => exact ev_Name h1 h2
  | lim h => exact ev_lim ok h
  | bin e1 e2 e3 e4 e5 => exact ev_BinOp hE rm e1 e2 e3 e4 e5
  | rep e1 e2 e3 e4 e5 e6 => exact ev_rep hE rm e1 e2 e3 e4 e5 e6
  | un e1 e2 => exact ev_UnaryOp hE rm e1 e2
  | bstop e1 e2 => exact ev_BoolOp hE rm e1 (.inl ⟨e2, rfl, rfl⟩)
  | bgo e1 e2 e3 => exact ev_BoolOp hE rm e1 (.inr ⟨e2, e3⟩)
  | ifT e1 e2 => exact ev_IfExp hE hT rm e1 e2
  | ifF e1 e2 => exact ev_IfExp hE hT rm e1 e2
  | cmp e0 e1 e2 e3 e4 e5 => exact ev_Compare hE rm e0 e1 e2 e3 e4 e5
  | list0 => exact ev_List0
  | list e1 e2 => exact ev_List hL rm e1 e2
  | tup e1 e2 => exact ev_Tuple hL rm e1 e2
  | dict0 => exact ev_Dict0 hm
  | dict1 e1 e2 e3 => exact ev_Dict1 hE rm hm e1 e2 e3
  | slice e1 e2 e3 e4 e5 => exact ev_Slice hE hP rm e1 e2 e3 e4 e5
  | item e0 e1 e2 e3 e4 e5 => exact ev_Item hE e0 rm e1 e2 e3 e4 e5
  | comp e1 => exact ev_Comp ok hE hI hCm rm e1
  | append h0 hp e1 e2 e3 e4 e5 e6 => exact ev_append hE rm h0 hp e1 e2 e3 e4 e5 e6
  | «mut» h0 e1 e2 e3 => exact ev_mut hE rm h0 e1 e2 e3
  | get h0 hp hp' e1 e2 e3 e4 e5 => exact ev_get hE rm h0 hp hp' e1 e2 e3 e4 e5
  | bits h0 e1 => exact ev_bits hE rm h0 e1
  | callG hf hn hk e1 e2 e3 e4 e5 => exact ev_CallG ok hA hC rm hk hf (nameOk_at hn).1 e1 e2 e3 e4 e5
  | callC hf hn hk e1 e2 => exact ev_CallC ok hA hX rm hk hf (nameOk_at hn).1 (nameOk_at hn).2 e1 e2
  | isinst hp hk hk' e1 => exact ev_isinstance ok hE rm hk hk' hp e1
  | items h0 hk e1 e2 e3 => exact ev_listItems ok hE rm hk h0 e1 e2 e3
  | blt hn hk e1 e2 e3 => exact ev_CallB ok hA rm hk (nameOk_at hn).1 e1 e2 e3

theorem step_exec (ok : X.Ok) (hE : SEval X n) (hT : STest X n) (hI : SIter X n) (hCm : SComp X n) (hXs : SExecs X n) : SExec X (n + 1) := by
  intro A B env fr M σ s st fl fr' σ' Q E rm I R e hQ
  replace e : ExecS (lev n) fr σ st fl fr' σ' := e
  revert I R hQ
  induction e with
  | expr hc hp e1 => exact ex_Expr hE rm hc hp e1
  | brk => exact fun I R hQ => wpAny_Break (hQ _ _ ⟨_, s.toks, M, I, R, .refl, trivial⟩)
  | cont => exact fun I R hQ => wpAny_Continue (hQ _ _ ⟨_, s.toks, M, I, R, .refl, trivial⟩)
  | ret0 => exact fun I R hQ => wpAny_Return_none (hQ _ _ ⟨_, s.toks, M, I, R, .refl, .none⟩)
  | ret e1 => exact ex_Return hE rm e1
  | name hc hp e1 e2 => exact ex_AssignName hE rm hc hp e1 e2
  | ncomp e1 e2 => exact ex_AssignComp ok hE hI hCm rm e1 e2
  | tup hc e1 e2 => exact ex_AssignTuple hE rm hc e1 e2
  | sub _ _ e1 e2 e3 e4 e5 e6 => exact ex_AssignSub hE rm e1 e2 e3 e4 e5 e6
  | aug hn e1 e2 e3 => exact ex_AugName hE rm (nameOk_at hn).2 e1 e2 e3
  | augI e1 e2 e3 e4 e5 e6 e7 => exact ex_AugSub hE rm e1 e2 e3 e4 e5 e6 e7
  | ifT e1 e2 => exact ex_If hT hXs rm e1 e2
  | ifF e1 e2 => exact ex_If hT hXs rm e1 e2
  | «while» e1 => exact ex_While hT hXs rm.down e1
  | «for» hp e1 e2 => exact ex_For hI hXs rm e1 (fold_plain hp) e2
  | «def» hk hclo hcel hnst hok hfk h4 hall =>
    intro I R hQ
    refine ex_FunctionDef ok hk hclo hcel hnst hok h4 (fun p hp => ?_) I R hQ
    have := List.all_eq_true.mp hall p hp
    obtain ⟨x, k⟩ := p
    cases k <;> simp at this ⊢
    exact this.1

/-- all that is shown of the rules, by their level -/
structure All (X : Cx) (n : Nat) : Prop where
  ev : SEval X n
  test : STest X n
  iter : SIter X n
  comp : SComp X n
  exec : SExec X n
  call : SCall X n

theorem all_zero : All X 0 where
  ev := fun _ _ _ e => e.elim
  test := fun _ _ _ e => e.elim
  iter := fun _ _ _ e => e.elim
  comp := fun _ _ _ _ _ _ _ _ _ _ _ _ _ _ e => e.elim
  exec := fun _ _ _ e => e.elim
  call := fun _ _ _ _ e => e.elim

theorem all_ok (ok : X.Ok) : ∀ n, All X n ∧ ∀ m, n = m + 1 → All X m
  | 0 => ⟨all_zero, fun _ q => by cases q⟩
  | n + 1 => by
    obtain ⟨x, y⟩ := all_ok ok n
    refine ⟨?_, fun m q => by cases q; exact x⟩
    exact {
      ev := step_eval ok x.ev x.test (step_part x.ev) (step_list x.ev) (step_args x.ev) x.iter x.comp x.call fun k hk => step_execs (y k hk).exec
      test := step_test x.ev x.test (step_all x.test)
      iter := step_iter ok x.ev
      comp := step_comp x.ev (step_ifs x.test) x.iter x.comp
      exec := step_exec ok x.ev x.test x.iter x.comp (step_execs x.exec)
      call := step_call ok (step_execs x.exec) }

/-- SOUNDNESS: what the interpreter gives, the model gives -/
theorem sound (ok : X.Ok) (n : Nat) : SExecs X n := step_execs (all_ok ok n).1.exec
end
end Mine
namespace Mine
open PySem PySem.W PyProof.Rows PySem.Spec

/-! ## the top -/
noncomputable def kept (s : Stmt) : Bool := s.ctorIdx == 0 || if h : s.ctorIdx = 5 then Stmt.Assign.elim s h fun ts _ _ => ts.all fun t => if h : t.ctorIdx = 23 then Expr.Name.elim t h fun x _ => !(x == Str.ofString "__name__") else false else false
/-- the program's top without the turns of __name__ -/
noncomputable def view : Program := { PySem.Challenge.pw_pg0189_01 with main := { PySem.Challenge.pw_pg0189_01.main with body := PySem.Challenge.pw_pg0189_01.main.body.filter kept } }

/-- the code table of a def of the top -/
noncomputable def tabOf (h : Heap) (x : Str) : Option Addr := do
  let o ← h.get? mainGlobals
  let .dict es _ := o.data | none
  let .ref a ← nsFind es x | none
  let oa ← h.get? a
  let .func fd := oa.data | none
  let .ref c := fd.code | none
  let oc ← h.get? c
  let .fields vs := oc.data | none
  let .ref P ← (vs[11]? : Option Value) | none
  some P
inductive TabIs (h : Heap) (x : Str) (P : Addr) : Prop
  | mk (o : Obj) (es : Array DictEntry) (ep : Nat) (a : Addr) (oa : Obj) (fd : FuncData) (c : Addr) (oc : Obj) (vs : Array Value) (e1 : h.get? mainGlobals = some o) (e2 : o.data = .dict es ep) (e3 : nsFind es x = some (.ref a)) (e4 : h.get? a = some oa) (e5 : oa.data = .func fd) (e6 : fd.code = .ref c)
    (e7 : h.get? c = some oc) (e8 : oc.data = .fields vs) (e9 : vs[11]? = some (.ref P))
theorem TabIs.of {h : Heap} {x : Str} {P : Addr} (e : tabOf h x = some P) : TabIs h x P := by
  simp only [tabOf, Option.bind_eq_bind, Option.bind_eq_some_iff] at e
  obtain ⟨o, e1, e⟩ := e
  split at e <;> try (cases e; done)
  rename_i es ep e2
  simp only [Option.bind_eq_some_iff] at e
  obtain ⟨v, e3, e⟩ := e
  split at e <;> try (cases e; done)
  simp only [Option.bind_eq_some_iff] at e
  obtain ⟨oa, e4, e⟩ := e
  split at e <;> try (cases e; done)
  rename_i fd e5
  split at e <;> try (cases e; done)
  rename_i c e6
  simp only [Option.bind_eq_some_iff] at e
  obtain ⟨oc, e7, e⟩ := e
  split at e <;> try (cases e; done)
  rename_i vs e8
  simp only [Option.bind_eq_some_iff] at e
  obtain ⟨v, e9, e⟩ := e
  split at e <;> try (cases e; done)
  cases e
  exact ⟨o, es, ep, _, oa, fd, c, oc, vs, e1, e2, e3, e4, e5, e6, e7, e8, e9⟩
theorem TabIs.keeps {h h' : Heap} {x : Str} {P : Addr} (t : TabIs h x P) (k : ∀ b o, h.get? b = some o → h'.get? b = some o) : TabIs h' x P := by
  obtain ⟨o, es, ep, a, oa, fd, c, oc, vs, e1, e2, e3, e4, e5, e6, e7, e8, e9⟩ := t
  exact ⟨o, es, ep, a, oa, fd, c, oc, vs, k _ _ e1, e2, e3, k _ _ e4, e5, e6, k _ _ e7, e8, e9⟩
theorem TabIs.eq {h : Heap} {x : Str} {P P' : Addr} {mg : Str → Option Value} {a c : Addr} {o : Obj} {fd : FuncData} {ps : Array Value} (t : TabIs h x P') (g : h.Ns mainGlobals mg) (e1 : mg x = some (.ref a)) (e2 : h.get? a = some o) (e3 : o.data = .func fd) (e4 : fd.code = .ref c)
    (e5 : h.TableAt c P ps) : P' = P := by
  obtain ⟨o0, es, ep, a0, oa, fd0, c0, oc, vs, f1, f2, f3, f4, f5, f6, f7, f8, f9⟩ := t
  obtain ⟨o1, es1, ep1, g1, g2, _, g3⟩ := g
  rw [g1] at f1; cases f1
  rw [g2] at f2; cases f2
  have f3 := (g3 x).symm.trans f3
  rw [e1] at f3; cases f3
  rw [e2] at f4; cases f4
  rw [e3] at f5; cases f5
  rw [e4] at f6; cases f6
  obtain ⟨⟨o2, vs2, k1, k2, k3, k4⟩, _⟩ := e5
  rw [k1] at f7; cases f7
  rw [k3] at f8; cases f8
  rw [k4] at f9; cases f9; rfl

noncomputable def s1 : Str := Str.ofString "_int2digits"
noncomputable def s2 : Str := Str.ofString "_digits2int"
/-- the two defs that make a def have tables of their own -/
noncomputable def theHook : Hook where
  α := Option Addr × Option Addr
  obs := fun s => (tabOf s.heap s1, tabOf s.heap s2)
  val := fun _ => (some 30, some 37)
  says := fun _ h => TabIs h s1 30 ∧ TabIs h s2 37
  of := fun _ _ e => ⟨.of (Prod.mk.inj e).1, .of (Prod.mk.inj e).2⟩
  keeps := fun _ _ _ x k => ⟨x.1.keeps k, x.2.keeps k⟩
theorem left_ok : LeftO PySem.Challenge.pw_pg0189_01 view [] (fun s => xlAt view [] s && recOk [] s) theHook.obs theHook.val 1304 := by
  intro w
  kernel_rfl
theorem both_ok {a b : Bool} (x : a = true) (y : b = true) : (a && b) = true := by rw [x, y]; rfl
/-- look by look, each a small check of its own -/
theorem said_ok : PySem.W.OpenLaw.wellSaid PySem.Challenge.rw_pg0189_01 = true := by
  unfold OpenLaw.wellSaid
  repeat' (with_reducible apply both_ok)
  · unfold OpenRow.wellSaid OpenRow.partSaid looksOpen
    repeat' (with_reducible apply both_ok)
    all_goals decide +kernel
  all_goals decide +kernel
end Mine
namespace Mine
open PySem PySem.W PyProof.Rows PySem.Spec

/-- the builtins that are called by name -/
theorem lookup_mem {α : Type} {x : Str} {d : α} : ∀ {l : List (Str × α)}, l.lookup x = some d → (x, d) ∈ l
  | [], e => by cases e
  | (y, b) :: r, e => by
    rw [List.lookup_cons] at e
    split at e
    · rename_i q; cases e; rw [eq_of_beq q]; exact .head _
    · exact .tail _ (lookup_mem e)

theorem blt_boot : bltL.map (fun p => bootBuiltins p.1) = bltL.map fun p => some p.2 := by kernel_rfl
theorem blt_name : (bltL.all fun p => !(p.1 == ("__name__" : Str))) = true := by kernel_rfl
theorem blt_mb {mb : Str → Option Value} (T : ∀ x : Str, x ≠ "__name__" → mb x = bootBuiltins x) {f : Str} {v : Value} (e : bltOf f = some v) : mb f = some v := by
  have h := lookup_mem e
  have h1 := List.all_eq_true.mp blt_name _ h
  exact (T f (fun q => by rw [q] at h1; simp at h1)).trans (List.map_inj_left.1 blt_boot _ h)
noncomputable def bnames : List Str := bltL.map (·.1)
theorem blt_in {f : Str} {v : Value} (e : bltOf f = some v) : f ∈ bnames := List.mem_map_of_mem (f := (·.1)) (lookup_mem e)
theorem bnames_free : (bnames.all fun x => !startupNames.contains x && !(looseW view []).contains x && !((recsOf view).map (·.name)).contains x && !((litsOf view).map (·.1)).contains x && !((clssOf view (looseW view [])).map (·.name)).contains x && (fnOf x).isNone) = true := by kernel_rfl

noncomputable def fdOf (r : DefRec) : FnD := ⟨r.params.args.map (·.arg), r.body, r.scope⟩
theorem tops_recs : tops = (recsOf view).map fun r => (r.name, fdOf r) := by kernel_rfl
noncomputable def n1 : Option (Nat × Nat × Str) := (fnOf s1).bind fun d => nestOf d.body
noncomputable def n2 : Option (Nat × Nat × Str) := (fnOf s2).bind fun d => nestOf d.body
noncomputable def recOkB (r : DefRec) : Bool := fnOk (fdOf r) && r.params.posonlyargs.isEmpty && r.params.vararg.isNone && r.params.kwonlyargs.isEmpty && r.params.kw_defaults.isEmpty && r.params.kwarg.isNone && r.params.defaults.isEmpty &&
  ((nestOf r.body).isNone || (r.name == s1 && nestOf r.body == n1) || (r.name == s2 && nestOf r.body == n2))
theorem recs_ok : (recsOf view).all recOkB = true := by kernel_rfl
theorem has1 : ((recsOf view).map (·.name)).contains s1 = true := by kernel_rfl
theorem has2 : ((recsOf view).map (·.name)).contains s2 = true := by kernel_rfl
theorem lim_val : valOf view (Str.ofString "_DIV_LIMIT") = some (.int 4000) := by kernel_rfl
theorem s12 : s1 ≠ s2 := by decide +kernel

noncomputable def tbOf (x : Str) (n : Option (Nat × Nat × Str)) (c P : Addr) : Tb := ⟨c, P, (n.getD (0, 0, x)).1, (n.getD (0, 0, x)).2.1, x ++ Str.ofString ".<locals>." ++ (n.getD (0, 0, x)).2.2⟩

section
variable {prog : Program} {w : World} {mean : ExcName → Option Value} {mg mb : Str → Option Value} {h : Heap}

theorem tab_at (T : Top view (looseW view []) mean mg mb h) {x : Str} {P : Addr} (hx : ((recsOf view).map (·.name)).contains x = true) (t : TabIs h x P) : ∃ a o fd c, mg x = some (.ref a) ∧ h.get? a = some o ∧ o.data = .func fd ∧ fd.code = .ref c ∧ CodeHd h c P ∧ h.get? P = some (tabObj #[]) := by
  obtain ⟨r, hr, rfl⟩ := List.mem_map.mp (List.contains_iff_mem.mp hx)
  obtain ⟨a, o, fd, c, P', e1, e2, e3, e4, e5, e6⟩ := T.tab r hr
  have := t.eq T.g e1 e2 e3 e4 e6
  subst this
  exact ⟨a, o, fd, c, e1, e2, e3, e4, .of e5 e6, e6.2⟩

theorem top_ok (T : Top view (looseW view []) mean mg mb h) (t1 : TabIs h s1 30) (t2 : TabIs h s2 37) : ∃ c1 c2, TabsAt [(c1, 30), (c2, 37)] h ∧ Cx.Ok ⟨prog, w, ghostOf h [(c1, 30), (c2, 37)], mg, mb, [tbOf s1 n1 c1 30, tbOf s2 n2 c2 37]⟩ := by
  obtain ⟨a1, o1, fd1, c1, m1, g1, d1, k1, hd1, p1⟩ := tab_at T has1 t1
  obtain ⟨a2, o2, fd2, c2, m2, g2, d2, k2, hd2, p2⟩ := tab_at T has2 t2
  have hT : TabsAt [(c1, 30), (c2, 37)] h := fun q hq => by
    rcases List.mem_cons.mp hq with rfl | hq
    · exact ⟨hd1, p1⟩
    · rcases List.mem_cons.mp hq with rfl | hq
      · exact ⟨hd2, p2⟩
      · cases hq
  have G := ghost_top hT T
  have hC : CodeAll [(c1, 30), (c2, 37)] (ghostOf h [(c1, 30), (c2, 37)]) := ghost_code hT
  refine ⟨c1, c2, hT, ?_⟩
  exact {
    g := G.g, b := G.b, nolimit := G.nolimit, bmain := G.bmain
    lim := by
      obtain ⟨v, e, r⟩ := T.const _ _ lim_val
      have := r h
      cases this
      exact ⟨_, e⟩
    blt := fun f v e => by
      have hf := List.all_eq_true.mp bnames_free f (blt_in e)
      simp only [Bool.and_eq_true, Bool.not_eq_true', List.contains_eq_mem, decide_eq_false_iff_not, Option.isNone_iff_eq_none] at hf
      obtain ⟨⟨⟨⟨⟨f1, f2⟩, f3⟩, f4⟩, f5⟩, f6⟩ := hf
      exact ⟨f6, T.free f f1 f2 f3 f4 f5, blt_mb T.builtins e⟩
    tab := fun t ht => by
      rcases List.mem_cons.mp ht with rfl | ht
      · exact ⟨hideAll_none _ (.head _), hC.1⟩
      · rcases List.mem_cons.mp ht with rfl | ht
        · exact ⟨hideAll_none _ (.tail _ (.head _)), hC.2.1⟩
        · cases ht
    apart := List.Pairwise.cons (fun u hu => by
      rcases List.mem_cons.mp hu with rfl | hu
      · exact (by decide : (30 : Nat) ≠ 37)
      · cases hu) (List.Pairwise.cons (fun u hu => by cases hu) .nil)
    fn := fun f d hf => by
      have hm := lookup_mem (show tops.lookup f = some d from hf)
      rw [tops_recs] at hm
      obtain ⟨r, hr, e⟩ := List.mem_map.mp hm
      cases e
      obtain ⟨a, o, pm, cd, doc, e1, e2, e3, cc, oc, vs, tt, rfl, e5, e6, e7⟩ := T.fn r hr
      have ok := List.all_eq_true.mp recs_ok r hr
      simp only [recOkB, Bool.and_eq_true, List.isEmpty_iff, Option.isNone_iff_eq_none, Bool.or_eq_true, beq_iff_eq] at ok
      obtain ⟨⟨⟨⟨⟨⟨⟨q1, q2⟩, q3⟩, q4⟩, q5⟩, q6⟩, q7⟩, q8⟩ := ok
      refine ⟨a, e1, o, r.name, r.name, r.params, doc, pm, none, .ref cc, _, ghost_get hT e2 (fun q => by rw [q] at e3; cases e3), e3, rfl, ⟨cc, oc, vs, tt, rfl, ghost_get hT e5 (fun q => by rw [q] at e6; cases e6; cases e7), e6, e7⟩, q1, q2, q3, q4, q5, q6, q7, fun l c g hn => ?_⟩
      have hn : nestOf r.body = some (l, c, g) := hn
      rcases q8 with (q8 | ⟨q, q8⟩) | ⟨q, q8⟩
      · rw [q8] at hn; cases hn
      · rw [q, m1] at e1; cases e1
        rw [g1] at e2; cases e2
        rw [d1] at e3; cases e3
        refine ⟨_, .head _, k1, ?_⟩
        rw [q8] at hn
        unfold tbOf
        rw [hn, q]
        exact ⟨rfl, rfl, rfl⟩
      · rw [q, m2] at e1; cases e1
        rw [g2] at e2; cases e2
        rw [d2] at e3; cases e3
        refine ⟨_, .tail _ (.head _), k2, ?_⟩
        rw [q8] at hn
        unfold tbOf
        rw [hn, q]
        exact ⟨rfl, rfl, rfl⟩ }
end
end Mine
end
namespace Mine
section
open PySem
noncomputable section

/-! ## frames for the plain law -/
noncomputable def ix : List (Str × NameKind) → Str → Option Nat
  | [], _ => none
  | (y, _) :: r, x => if x = y then some 0 else (ix r x).map (· + 1)
noncomputable def nth : List (Option A) → Nat → Option A
  | [], _ => none
  | a :: _, 0 => a
  | _ :: r, i + 1 => nth r i
noncomputable def put : List (Option A) → Nat → A → List (Option A)
  | [], 0, a => [some a]
  | [], i + 1, a => none :: put [] i a
  | _ :: r, 0, a => some a :: r
  | b :: r, i + 1, a => b :: put r i a
noncomputable def slot (ns : List (Str × NameKind)) (vs : List (Option A)) : Vars := fun y => (ix ns y).bind (nth vs)
noncomputable abbrev fm (sc : Scope) (g : Option (Str × FnD)) (nst : Option (Nat × Nat × Str)) (vs : List (Option A)) (cel : Vars) : Fm := ⟨sc, g, nst, slot sc.names vs, cel⟩

theorem nth_put : ∀ (vs : List (Option A)) (i j : Nat) (a : A), nth (put vs i a) j = if j = i then some a else nth vs j
  | [], 0, 0, a => rfl
  | [], 0, j + 1, a => rfl
  | [], i + 1, 0, a => rfl
  | [], i + 1, j + 1, a => by
    have := nth_put [] i j a
    simp only [put, nth, Nat.add_right_cancel_iff]
    rw [this]; rfl
  | _ :: r, 0, 0, a => rfl
  | _ :: r, 0, j + 1, a => rfl
  | _ :: r, i + 1, 0, a => rfl
  | b :: r, i + 1, j + 1, a => by
    have := nth_put r i j a
    simp only [put, nth, Nat.add_right_cancel_iff]
    exact this
theorem ix_inj : ∀ {ns : List (Str × NameKind)} {x y : Str} {i : Nat}, ix ns x = some i → ix ns y = some i → x = y
  | [], _, _, _, e, _ => by cases e
  | (z, k) :: r, x, y, i, e, e' => by
    unfold ix at e e'
    split at e
    · cases e
      split at e'
      · rename_i h1 h2; rw [h1, h2]
      · simp at e'
    · split at e'
      · cases e'; simp at e
      · simp only [Option.map_eq_some_iff] at e e'
        obtain ⟨j, e, rfl⟩ := e
        obtain ⟨k, e', q⟩ := e'
        have : k = j := by lia
        subst this
        exact ix_inj e e'
theorem setV_slot {ns : List (Str × NameKind)} {vs : List (Option A)} {x : Str} {i : Nat} {a : A} (h : ix ns x = some i) : setV x a (slot ns vs) = slot ns (put vs i a) := by
  funext y
  unfold setV slot
  split
  · rename_i q; subst q; rw [h]; simp [nth_put]
  · rename_i q
    cases hy : ix ns y with
    | none => rfl
    | some j =>
      have : j ≠ i := fun e => q (ix_inj (e ▸ hy) h)
      simp [nth_put, this]
theorem noV_slot {ns : List (Str × NameKind)} : noV = slot ns [] := by
  funext y
  unfold noV slot
  cases ix ns y <;> rfl

/-- a local name's place -/
structure LocAt (sc : Scope) (x : Str) (i : Nat) : Prop where
  k : sc.names.lookup x = some .local
  i : ix sc.names x = some i
structure CelAt (sc : Scope) (x : Str) (i : Nat) : Prop where
  k : sc.names.lookup x = some .cell
  i : ix sc.names x = some i
/-- a name of an outer scope -/
structure FreAt (sc : Scope) (ns : List (Str × NameKind)) (x : Str) (i : Nat) : Prop where
  k : sc.names.lookup x = some .free
  i : ix ns x = some i

section
variable {sc : Scope} {g : Option (Str × FnD)} {nst : Option (Nat × Nat × Str)} {vs cs : List (Option A)} {cel : Vars} {x : Str} {i : Nat} {a : A}
theorem get_loc (h : LocAt sc x i) (hv : nth vs i = some a) : (fm sc g nst vs cel).get x = some a := by
  unfold Fm.get Fm.kind
  rw [h.k]
  show (ix sc.names x).bind (nth vs) = _
  rw [h.i]; exact hv
theorem get_cel (h : CelAt sc x i) (hv : nth cs i = some a) : (fm sc g nst vs (slot sc.names cs)).get x = some a := by
  unfold Fm.get Fm.kind
  rw [h.k]
  show (ix sc.names x).bind (nth cs) = _
  rw [h.i]; exact hv
theorem get_fre {ns : List (Str × NameKind)} (h : FreAt sc ns x i) (hv : nth cs i = some a) : (fm sc g nst vs (slot ns cs)).get x = some a := by
  unfold Fm.get Fm.kind
  rw [h.k]
  show (ix ns x).bind (nth cs) = _
  rw [h.i]; exact hv
theorem set_loc (h : LocAt sc x i) : (fm sc g nst vs cel).set x a = some (fm sc g nst (put vs i a) cel) := by
  unfold Fm.set Fm.kind
  rw [h.k]
  show some (Fm.mk ..) = _
  rw [setV_slot h.i]
theorem set_cel (h : CelAt sc x i) : (fm sc none nst vs (slot sc.names cs)).set x a = some (fm sc none nst vs (slot sc.names (put cs i a))) := by
  unfold Fm.set Fm.kind
  rw [h.k]
  show some (Fm.mk ..) = _
  rw [setV_slot h.i]
end

/-! ## the rules, level by level -/
section
variable {n : Nat}
theorem ev_of {fr : Fm} {σ σ' : St} {e : Expr} {a : A} (h : EvS (lev n) fr σ e a σ') : (lev (n + 1)).ev fr σ e a σ' := h
theorem test_of {fr : Fm} {σ σ' : St} {e : Expr} {b : Bool} (h : TestS (lev n) fr σ e b σ') : (lev (n + 1)).test fr σ e b σ' := h
theorem iter_of {fr : Fm} {σ σ' : St} {t e : Expr} {xs : List F} (h : IterS (lev n) fr σ t e xs σ') : (lev (n + 1)).iter fr σ t e xs σ' := h
theorem exec_of {fr fr' : Fm} {σ σ' : St} {s : Stmt} {fl : Fl} (h : ExecS (lev n) fr σ s fl fr' σ') : (lev (n + 1)).exec fr σ s fl fr' σ' := h
theorem comp_of {elt t : Expr} {ifs : List Expr} {rest : List Comprehension} {items : List F} {fr fr' : Fm} {σ σ' : St} {out out' : List F} (h : CompS (lev n) elt t ifs rest items fr σ out fr' σ' out') : (lev (n + 1)).comp elt t ifs rest items fr σ out fr' σ' out' := h
theorem call_of {d : FnD} {g : Option (Str × FnD)} {clo : Vars} {as : List A} {σ σ' : St} {a : A} (h : CallS (lev n) d g clo as σ a σ') : (lev (n + 1)).call d g clo as σ a σ' := h
variable {L : Lev} {sc : Scope} {g : Option (Str × FnD)} {nst : Option (Nat × Nat × Str)} {vs cs : List (Option A)} {cel : Vars} {x : Str} {i : Nat} {a : A} {σ : St} {p : Pos}
theorem ev_loc (hn : nameOk x = true) (h : LocAt sc x i) (hv : nth vs i = some a) : EvS L (fm sc g nst vs cel) σ (.Name x p) a σ := .name hn (get_loc h hv)
theorem ev_cel (hn : nameOk x = true) (h : CelAt sc x i) (hv : nth cs i = some a) : EvS L (fm sc g nst vs (slot sc.names cs)) σ (.Name x p) a σ := .name hn (get_cel h hv)
theorem ev_fre {ns : List (Str × NameKind)} (hn : nameOk x = true) (h : FreAt sc ns x i) (hv : nth cs i = some a) : EvS L (fm sc g nst vs (slot ns cs)) σ (.Name x p) a σ := .name hn (get_fre h hv)
end

section
variable {L : Lev} {st : Stmt} {r : List Stmt} {fr fr1 : Fm} {σ σ1 : St} {a : A}
theorem x_ret (h : L.exec fr σ st (.ret a) fr1 σ1) : ExecsR L (st :: r) fr σ (.ret a) fr1 σ1 := .stop h rfl
theorem x_brk (h : L.exec fr σ st .brk fr1 σ1) : ExecsR L (st :: r) fr σ .brk fr1 σ1 := .stop h rfl
theorem x_cont (h : L.exec fr σ st .cont fr1 σ1) : ExecsR L (st :: r) fr σ .cont fr1 σ1 := .stop h rfl
end
section
variable {L : Lev} {sc : Scope} {g : Option (Str × FnD)} {nst : Option (Nat × Nat × Str)} {vs cs : List (Option A)} {cel : Vars} {x : Str} {i : Nat} {a : A} {σ σ1 : St} {p q : Pos} {e : Expr}
theorem x_loc (h1 : isComp e = false) (h2 : plainE e = true) (hs : LocAt sc x i) (hv : L.ev (fm sc g nst vs cel) σ e a σ1) : ExecS L (fm sc g nst vs cel) σ (.Assign [.Name x q] e p) .next (fm sc g nst (put vs i a) cel) σ1 := .name h1 h2 hv (set_loc hs)
theorem x_cel (h1 : isComp e = false) (h2 : plainE e = true) (hs : CelAt sc x i) (hv : L.ev (fm sc none nst vs (slot sc.names cs)) σ e a σ1) : ExecS L (fm sc none nst vs (slot sc.names cs)) σ (.Assign [.Name x q] e p) .next (fm sc none nst vs (slot sc.names (put cs i a))) σ1 := .name h1 h2 hv (set_cel hs)
theorem x_def {y : Str} {ps : Arguments} {b : List Stmt} {sc' : Scope} {pos : Pos} {d : FnD} (h1 : sc.names.lookup y = some .cell) (h2 : slot sc.names cs y = none) (h3 : nst = some (pos.line, pos.col, y)) (h4 : nestOk sc' ps = true) (h5 : (sc.kind == .function) = true) (h6 : sc'.names.lookup y = some .free)
    (h7 : sc'.names.all (fun p => match p.2 with
          | .free => sc.names.lookup p.1 == some .cell && sc'.names.lookup p.1 == some .free
          | .cell => false
          | _ => true) = true) (hd : (⟨ps.args.map (·.arg), b, sc'⟩ : FnD) = d) :
    ExecS L (fm sc none nst vs (slot sc.names cs)) σ (.FunctionDef y ps b [] none [] sc' none y pos) .next (fm sc (some (y, d)) nst vs (slot sc.names cs)) σ := by
  subst hd
  exact .def h1 rfl h2 h3 h4 h5 h6 h7
theorem b_loc {v : F} (hs : LocAt sc x i) : BindR (fm sc g nst vs cel) (.Name x p) v (fm sc g nst (put vs i (.v v)) cel) := .name (set_loc hs)
theorem b_tup2 {x' : Str} {i' : Nat} {u v : F} {q1 q2 : Pos} {k : Nat} (hs : LocAt sc x i) (hs' : LocAt sc x' i') : BindR (fm sc g nst vs cel) (.Tuple [.Name x q1, .Name x' q2] k q) (.tup [u, v]) (fm sc g nst (put (put vs i (.v u)) i' (.v v)) cel) :=
  .tup (.cons (set_loc hs) (.cons (set_loc hs') .nil))
theorem x_tup2 {x' : Str} {i' : Nat} {u v : F} {q1 q2 : Pos} {k : Nat} (h1 : isCall e = true) (hs : LocAt sc x i) (hs' : LocAt sc x' i') (hv : L.ev (fm sc g nst vs cel) σ e (.v (.tup [u, v])) σ1) :
    ExecS L (fm sc g nst vs cel) σ (.Assign [.Tuple [.Name x q1, .Name x' q2] k q] e p) .next (fm sc g nst (put (put vs i (.v u)) i' (.v v)) cel) σ1 :=
  .tup h1 hv (.cons (set_loc hs) (.cons (set_loc hs') .nil))
theorem x_locC (hs : LocAt sc x i) (hv : CompE L (fm sc g nst vs cel) σ e a σ1) : ExecS L (fm sc g nst vs cel) σ (.Assign [.Name x q] e p) .next (fm sc g nst (put vs i a) cel) σ1 := .ncomp hv (set_loc hs)
theorem x_celC (hs : CelAt sc x i) (hv : CompE L (fm sc none nst vs (slot sc.names cs)) σ e a σ1) : ExecS L (fm sc none nst vs (slot sc.names cs)) σ (.Assign [.Name x q] e p) .next (fm sc none nst vs (slot sc.names (put cs i a))) σ1 := .ncomp hv (set_cel hs)
end
section
variable {L : Lev} {fr : Fm} {σ σ1 σ2 : St} {l r e : Expr} {op : CmpOp} {p : Pos} {a b : A} {x y : F} {z c : Bool}
theorem t_cmp (hp : plainE r = true) (h1 : L.ev fr σ l a σ1) (h2 : L.ev fr σ1 r b σ2) (h3 : a.get σ2 = some x) (h4 : b.get σ2 = some y) (h5 : CmpR op x y z) (hz : z = c) : TestS L fr σ (.Compare l [op] [r] p) c σ2 := hz ▸ .cmp hp h1 h2 h3 h4 h5
theorem t_plain (hp : plainT e = true) (h1 : L.ev fr σ e a σ1) (h3 : a.get σ1 = some x) (h5 : TruR x z) (hz : z = c) : TestS L fr σ e c σ1 := hz ▸ .plain hp h1 h3 h5
theorem t_not {e : Expr} (h1 : L.test fr σ e z σ1) (hz : (!z) = c) : TestS L fr σ (.UnaryOp .Not e p) c σ1 := hz ▸ .not h1
end

/-- a call's beginning -/
noncomputable def enterS (sc : Scope) : List Str → List A → List (Option A) → List (Option A) → Option (List (Option A) × List (Option A))
  | [], [], vs, cs => some (vs, cs)
  | x :: xs, a :: as, vs, cs => match sc.names.lookup x, ix sc.names x with
    | some .local, some i => enterS sc xs as (put vs i a) cs
    | some .cell, some i => enterS sc xs as vs (put cs i a)
    | _, _ => none
  | _, _, _, _ => none
theorem enter_slot {d : FnD} {g : Option (Str × FnD)} : ∀ {xs : List Str} {as : List A} {vs cs vs' cs' : List (Option A)}, enterS d.sc xs as vs cs = some (vs', cs') →
    enter d g noV xs as (slot d.sc.names vs) (slot d.sc.names cs) = some (fm d.sc g (if g.isNone then nestOf d.body else none) vs' (slot d.sc.names cs'))
  | [], [], vs, cs, vs', cs', e => by
    cases e
    unfold enter
    congr 2
    funext x
    cases slot d.sc.names cs x <;> rfl
  | [], _ :: _, _, _, _, _, e => by cases e
  | _ :: _, [], _, _, _, _, e => by cases e
  | x :: xs, a :: as, vs, cs, vs', cs', e => by
    unfold enterS at e
    unfold enter
    split at e
    · rename_i i h1 h2
      rw [h1]
      show enter d g noV xs as (setV x a (slot d.sc.names vs)) _ = _
      rw [setV_slot h2]
      exact enter_slot e
    · rename_i i h1 h2
      rw [h1]
      show enter d g noV xs as _ (setV x a (slot d.sc.names cs)) = _
      rw [setV_slot h2]
      exact enter_slot e
    · cases e
theorem call_fm {n : Nat} {d : FnD} {as : List A} {σ σ' : St} {vs cs : List (Option A)} {fl : Fl} {fr' : Fm} {a : A} (he : enterS d.sc d.ps as [] [] = some (vs, cs))
    (hx : ExecsR (lev n) d.body (fm d.sc none (nestOf d.body) vs (slot d.sc.names cs)) σ fl fr' σ') (hr : RetR fl a) : (lev (n + 1)).call d none noV as σ a σ' := by
  refine .mk _ _ _ ?_ hx hr
  have := enter_slot (g := none) he
  rw [← noV_slot] at this
  exact this

theorem nth_pad (k : Nat) : ∀ (vs : List (Option A)) (i : Nat), nth (vs ++ List.replicate k none) i = nth vs i
  | [], i => by
    show nth (List.replicate k none) i = none
    induction k generalizing i with
    | zero => rfl
    | succ k ih => cases i with
      | zero => rfl
      | succ i => exact ih i
  | _ :: r, 0 => rfl
  | _ :: r, i + 1 => nth_pad k r i
theorem slot_pad {ns : List (Str × NameKind)} (k : Nat) (vs : List (Option A)) : slot ns (vs ++ List.replicate k none) = slot ns vs := by
  funext y
  unfold slot
  cases ix ns y with
  | none => rfl
  | some i => exact nth_pad k vs i
/-- with room for the names that come -/
theorem call_pad {n : Nat} {d : FnD} {as : List A} {σ σ' : St} {vs cs vs0 cs0 : List (Option A)} {fl : Fl} {fr' : Fm} {a : A} (k k' : Nat) (he : enterS d.sc d.ps as [] [] = some (vs0, cs0)) (hv : vs = vs0 ++ List.replicate k none) (hc : cs = cs0 ++ List.replicate k' none)
    (hx : ExecsR (lev n) d.body (fm d.sc none (nestOf d.body) vs (slot d.sc.names cs)) σ fl fr' σ') (hr : RetR fl a) : (lev (n + 1)).call d none noV as σ a σ' := by
  subst hv hc
  unfold fm at hx
  rw [slot_pad, slot_pad] at hx
  exact call_fm he hx hr

theorem call_clo {n : Nat} {d : FnD} {g : Str} {ns : List (Str × NameKind)} {as : List A} {σ σ' : St} {vs cs : List (Option A)} {fl : Fl} {fr' : Fm} {a : A} (he : enterS d.sc d.ps as [] [] = some (vs, []))
    (hx : ExecsR (lev n) d.body (fm d.sc (some (g, d)) none vs (slot ns cs)) σ fl fr' σ') (hr : RetR fl a) : (lev (n + 1)).call d (some (g, d)) (slot ns cs) as σ a σ' := by
  refine .mk _ _ _ ?_ hx hr
  have h : ∀ {xs : List Str} {as : List A} {vs c : List (Option A)} {vs' c' : List (Option A)}, enterS d.sc xs as vs c = some (vs', c') →
      enter d (some (g, d)) (slot ns cs) xs as (slot d.sc.names vs) (slot d.sc.names c) = some ⟨d.sc, some (g, d), none, slot d.sc.names vs', fun x => (slot d.sc.names c' x).or (slot ns cs x)⟩ := by
    intro xs
    induction xs with
    | nil =>
      intro as vs c vs' c' e
      cases as with
      | nil => cases e; rfl
      | cons _ _ => cases e
    | cons x xs ih =>
      intro as vs c vs' c' e
      cases as with
      | nil => cases e
      | cons a as =>
        unfold enterS at e
        unfold enter
        split at e
        · rename_i i h1 h2
          rw [h1]
          show enter d _ _ xs as (setV x a (slot d.sc.names vs)) _ = _
          rw [setV_slot h2]
          exact ih e
        · rename_i i h1 h2
          rw [h1]
          show enter d _ _ xs as _ (setV x a (slot d.sc.names c)) = _
          rw [setV_slot h2]
          exact ih e
        · cases e
  have := h he
  rw [← noV_slot] at this
  rw [this]
  rfl

theorem fdiv_nat (x y : Nat) : (x : Int).fdiv (y : Int) = ((x / y : Nat) : Int) := by
  rw [Int.fdiv_eq_ediv_of_nonneg _ (Int.natCast_nonneg y)]; rfl
theorem fmod_nat (x y : Nat) : (x : Int).fmod (y : Int) = ((x % y : Nat) : Int) := by
  rw [Int.fmod_eq_emod_of_nonneg _ (Int.natCast_nonneg y)]; rfl
theorem pow_nat (k : Nat) : ((2 : Int) ^ ((k : Nat) : Int).toNat) = ((2 ^ k : Nat) : Int) := by rw [Int.toNat_natCast]; push_cast; rfl

/-- the def at a place of the program's top -/
noncomputable def defAt (i : Nat) : FnD := match PySem.Challenge.pw_pg0189_01.main.body[i]? with
  | some (.FunctionDef _ ps b _ _ _ sc _ _ _) => ⟨ps.args.map (·.arg), b, sc⟩
  | _ => ⟨[], [], default⟩
noncomputable def dDiv2 := defAt 2
noncomputable def dI2d := defAt 4
noncomputable def dD2i := defAt 5
noncomputable def dPos := defAt 6
noncomputable def dDiv := defAt 7
noncomputable def dPush := defAt 9
noncomputable def dPop := defAt 10
noncomputable def dDown := defAt 11
noncomputable def dUp := defAt 12
noncomputable def dAdd := defAt 14
noncomputable def dCount := defAt 15
noncomputable def dTab := defAt 17
noncomputable def dHold := defAt 18
noncomputable def dSome := defAt 19
noncomputable def dChoice := defAt 20
noncomputable def dLaw := defAt 21
noncomputable def stmtAt : List Stmt → Nat → Stmt
  | [], _ => .Pass default
  | s :: _, 0 => s
  | _ :: r, i + 1 => stmtAt r i
noncomputable def noE : Expr := .Constant .none 0 default
noncomputable def forT (s : Stmt) : Expr := if h : s.ctorIdx = 9 then Stmt.For.elim s h fun t _ _ _ _ => t else noE
noncomputable def forB (s : Stmt) : List Stmt := if h : s.ctorIdx = 9 then Stmt.For.elim s h fun _ _ b _ _ => b else []
noncomputable def whileT (s : Stmt) : Expr := if h : s.ctorIdx = 11 then Stmt.While.elim s h fun t _ _ _ => t else noE
noncomputable def whileB (s : Stmt) : List Stmt := if h : s.ctorIdx = 11 then Stmt.While.elim s h fun _ b _ _ => b else []
noncomputable def asgE (s : Stmt) : Expr := if h : s.ctorIdx = 5 then Stmt.Assign.elim s h fun _ e _ => e else noE
noncomputable def ifE (s : Stmt) : Expr := if h : s.ctorIdx = 12 then Stmt.If.elim s h fun t _ _ _ => t else noE
noncomputable def exprE (s : Stmt) : Expr := if h : s.ctorIdx = 24 then Stmt.Expr.elim s h fun e _ => e else noE
noncomputable def boolE (e : Expr) : Expr := if h : e.ctorIdx = 0 then Expr.BoolOp.elim e h fun _ es _ => es.getD 1 e else e
noncomputable def cmpE (e : Expr) : Expr := if h : e.ctorIdx = 15 then Expr.Compare.elim e h fun l _ _ _ => l else e
noncomputable def arg0 (e : Expr) : Expr := if h : e.ctorIdx = 16 then Expr.Call.elim e h fun _ es _ _ => es.getD 0 e else e
noncomputable def tup1 (e : Expr) : Expr := if h : e.ctorIdx = 25 then Expr.Tuple.elim e h fun es _ _ => es.getD 1 e else e
noncomputable def subO (e : Expr) : Expr := if h : e.ctorIdx = 21 then Expr.Subscript.elim e h fun o _ _ => o else e
noncomputable def compE (e : Expr) : Expr := if h : e.ctorIdx = 8 then Expr.ListComp.elim e h fun x _ _ _ => x else e
noncomputable def compS (e : Expr) : Scope := if h : e.ctorIdx = 8 then Expr.ListComp.elim e h fun _ _ s _ => s else default
noncomputable def gensE (e : Expr) : List Comprehension := if h : e.ctorIdx = 8 then Expr.ListComp.elim e h fun _ g _ _ => g else []
noncomputable def compT (e : Expr) : Expr := ((gensE e).getD 0 ⟨e, e, [], 0⟩).target
noncomputable def compT2 (e : Expr) : Expr := ((gensE e).getD 1 ⟨e, e, [], 0⟩).target
noncomputable def compG2 (e : Expr) : List Comprehension := (gensE e).tail
noncomputable def ifs0 (e : Expr) : Expr := ((gensE e).getD 0 ⟨e, e, [], 0⟩).ifs.getD 0 e
/-- the def that a body makes -/
noncomputable def fnD (s : Stmt) : FnD := if h : s.ctorIdx = 0 then Stmt.FunctionDef.elim s h fun _ ps b _ _ _ sc _ _ _ => ⟨ps.args.map (·.arg), b, sc⟩ else ⟨[], [], default⟩
noncomputable def nestD (l : List Stmt) : FnD := ((l.filter fun s => s.ctorIdx == 0).map fnD).headD ⟨[], [], default⟩
noncomputable def dInI := nestD dI2d.body
noncomputable def dInD := nestD dD2i.body
theorem f_div2 : fnOf (Str.ofString "_div2n1n") = some dDiv2 := by kernel_rfl
theorem f_i2d : fnOf (Str.ofString "_int2digits") = some dI2d := by kernel_rfl
theorem f_d2i : fnOf (Str.ofString "_digits2int") = some dD2i := by kernel_rfl
theorem f_pos : fnOf (Str.ofString "_divmod_pos") = some dPos := by kernel_rfl
theorem f_div : fnOf (Str.ofString "int_divmod") = some dDiv := by kernel_rfl
theorem f_push : fnOf (Str.ofString "heappush") = some dPush := by kernel_rfl
theorem f_pop : fnOf (Str.ofString "heappop") = some dPop := by kernel_rfl
theorem f_down : fnOf (Str.ofString "_siftdown") = some dDown := by kernel_rfl
theorem f_up : fnOf (Str.ofString "_siftup") = some dUp := by kernel_rfl
theorem f_add : fnOf (Str.ofString "add_callers") = some dAdd := by kernel_rfl
theorem f_count : fnOf (Str.ofString "count_calls") = some dCount := by kernel_rfl
theorem f_tab : fnOf (Str.ofString "_law_counts") = some dTab := by kernel_rfl
theorem f_hold : fnOf (Str.ofString "_law_counts_hold") = some dHold := by kernel_rfl
theorem f_some : fnOf (Str.ofString "_law_some") = some dSome := by kernel_rfl
theorem f_choice : fnOf (Str.ofString "_law_choice") = some dChoice := by kernel_rfl
theorem f_law : fnOf (Str.ofString "law") = some dLaw := by kernel_rfl
end
local macro_rules | `(tactic| walk_at "r") => `(tactic| with_unfolding_all rfl)
local macro_rules | `(tactic| walk_at "sd") => `(tactic| first | assumption | decide | omega)
local macro_rules | `(tactic| walk_at "nm") => `(tactic| first
  | (with_reducible apply ev_loc (by walk_at "r") ⟨by walk_at "r", by walk_at "r"⟩ (by walk_at "r"))
  | (with_reducible apply ev_cel (by walk_at "r") ⟨by walk_at "r", by walk_at "r"⟩ (by walk_at "r"))
  | (with_reducible apply ev_fre (by walk_at "r") ⟨by walk_at "r", by walk_at "r"⟩ (by walk_at "r"))
  | (with_reducible apply EvS.lim (by walk_at "r")))
local macro_rules | `(tactic| walk_at "e") => `(tactic| with_reducible first
  | exact EvS.int
  | apply EvS.bin
  | apply EvS.cmp (by walk_at "r")
  | apply EvS.slice
  | apply EvS.item (by walk_at "r")
  | apply EvS.tup
  | exact EvS.list0
  | exact EvS.dict0
  | apply EvS.bits (by walk_at "r")
  | apply EvS.append (by walk_at "r") (by walk_at "r")
  | apply EvS.mut (by walk_at "r")
  | apply EvS.get (by walk_at "r") (by walk_at "r") (by walk_at "r")
  | apply EvS.un
  | exact EvS.bool
  | apply EvS.list)
local macro_rules | `(tactic| walk_at "t") => `(tactic| with_reducible first
  | apply t_cmp (by walk_at "r")
  | apply t_not
  | apply t_plain (by walk_at "r"))
local macro_rules | `(tactic| walk_at "x") => `(tactic| with_reducible first
  | apply ExecS.ret
  | apply x_loc (by walk_at "r") (by walk_at "r") ⟨by walk_at "r", by walk_at "r"⟩
  | apply x_tup2 (by walk_at "r") ⟨by walk_at "r", by walk_at "r"⟩ ⟨by walk_at "r", by walk_at "r"⟩
  | apply x_cel (by walk_at "r") (by walk_at "r") ⟨by walk_at "r", by walk_at "r"⟩
  | apply x_locC ⟨by walk_at "r", by walk_at "r"⟩
  | apply x_celC ⟨by walk_at "r", by walk_at "r"⟩
  | apply ExecS.expr (by walk_at "r") (by walk_at "r")
  | apply ExecS.sub (by walk_at "r") (by walk_at "r")
  | exact ExecS.ret0)
local macro_rules | `(tactic| walk_at "st") => `(tactic| ((first | with_reducible apply ExecsR.cons | apply ExecsR.cons); (with_reducible apply exec_of); walk_at "x"))
local macro_rules | `(tactic| walk_at "l") => `(tactic| with_reducible first
  | exact ListR.nil
  | apply ListR.cons (by walk_at "r")
  | exact ArgsR.nil
  | apply ArgsR.cons (by walk_at "r")
  | exact PartR.none
  | apply PartR.some)
local macro_rules | `(tactic| walk_at "d") => `(tactic| first
  | ((with_reducible show A.get _ _ = some _); rfl)
  | ((with_reducible show A.fz _ _ = some _); rfl)
  | ((with_reducible show List.mapM (m := Option) _ _ = some _); rfl)
  | ((with_reducible show pack _ _ _ = some _); rfl)
  | ((with_reducible show handBack _ _ _ = some _); rfl)
  | ((with_reducible show unpack _ _ _ = some _); rfl)
  | ((with_reducible show getElem? _ _ = some _); rfl)
  | ((with_reducible first
      | refine (?_ : BinR _ _ _ _)
      | refine (?_ : UnR _ _ _)
      | refine (?_ : CmpR _ _ _ _)); (with_reducible constructor) <;> walk_at "sd")
  | with_reducible exact TruR.bool
  | with_reducible exact TruR.int)
local macro_rules | `(tactic| walk_at "s") => `(tactic| first
  | (with_reducible apply ev_of; first | walk_at "nm" | walk_at "e")
  | (with_reducible apply test_of; walk_at "t")
  | (with_reducible apply exec_of; walk_at "x")
  | walk_at "l"
  | walk_at "d")
noncomputable section
theorem div2_ok (n : Nat) (a b k : Int) (σ : St) (h : bitLen a - k ≤ 4000) (hb : 0 < b) (hb' : b.natAbs < 1000000) :
    (lev (n + 10)).call dDiv2 none noV [.v (.int a), .v (.int b), .v (.int k)] σ (.v (.tup [.int (a.fdiv b), .int (a.fmod b)])) σ := by
  apply call_fm (vs := [some (.v (.int a)), some (.v (.int b)), some (.v (.int k))]) (cs := []) (by rfl) (hr := RetR.ret)
  apply x_ret; apply exec_of; apply ExecS.ifT
  · repeat walk_at "s"
    exact decide_eq_true h
  · apply x_ret
    repeat walk_at "s"
    apply ev_of; apply EvS.blt (by with_unfolding_all rfl) (by with_unfolding_all rfl)
    repeat walk_at "s"
    exact BltR.divmod hb hb'
end
noncomputable section

/-! ## digits -/
/-- k digits of x to the base 2 ^ m, the low one first; the last takes what is left -/
noncomputable def dg (m : Nat) : Nat → Nat → List Nat
  | _, 0 => []
  | x, 1 => [x]
  | x, k + 2 => (x % 2 ^ m) :: dg m (x / 2 ^ m) (k + 1)
noncomputable def vl (m : Nat) : List Nat → Nat
  | [] => 0
  | d :: r => d + 2 ^ m * vl m r
theorem dg_len (m : Nat) : ∀ (k x : Nat), (dg m x k).length = k
  | 0, _ => rfl
  | 1, _ => rfl
  | k + 2, x => by simp [dg, dg_len m (k + 1)]
theorem dg_cut (m : Nat) : ∀ (i j x : Nat), dg m x ((i + 1) + (j + 1)) = dg m (x % 2 ^ (m * (i + 1))) (i + 1) ++ dg m (x / 2 ^ (m * (i + 1))) (j + 1)
  | 0, j, x => by
    rw [show 0 + 1 + (j + 1) = j + 2 from by lia]
    simp [dg]
  | i + 1, j, x => by
    have h := dg_cut m i j (x / 2 ^ m)
    rw [show i + 1 + 1 + (j + 1) = (i + (j + 1)) + 2 from by lia]
    have e : 2 ^ (m * (i + 1 + 1)) = 2 ^ m * 2 ^ (m * (i + 1)) := by rw [← Nat.pow_add]; congr 1; rw [Nat.mul_succ m (i + 1)]; lia
    have u : ∀ (x k : Nat), dg m x (k + 2) = (x % 2 ^ m) :: dg m (x / 2 ^ m) (k + 1) := fun _ _ => rfl
    rw [u, u, show i + (j + 1) + 1 = i + 1 + (j + 1) from by lia, h, e]
    simp only [List.cons_append]
    congr 1
    · rw [Nat.mod_mul_right_mod]
    · congr 1
      · congr 1
        rw [Nat.mod_mul_right_div_self]
      · congr 1
        rw [Nat.div_div_eq_div_mul]
theorem vl_dg (m : Nat) : ∀ (k x : Nat), 0 < k ∨ x = 0 → vl m (dg m x k) = x
  | 0, x, h => by rcases h with h | h; lia; subst h; rfl
  | 1, x, _ => by simp [dg, vl]
  | k + 2, x, _ => by
    simp only [dg, vl]
    rw [vl_dg m (k + 1) _ (.inl (Nat.succ_pos _))]
    exact Nat.mod_add_div x (2 ^ m)
theorem dg_lt (m : Nat) : ∀ (k x : Nat), x < 2 ^ (m * k) → ∀ d ∈ dg m x k, d < 2 ^ m
  | 0, _, _, d, hd => by simp [dg] at hd
  | 1, x, h, d, hd => by simp [dg] at hd; subst hd; simpa using h
  | k + 2, x, h, d, hd => by
    simp only [dg, List.mem_cons] at hd
    rcases hd with rfl | hd
    · exact Nat.mod_lt _ (Nat.two_pow_pos m)
    · refine dg_lt m (k + 1) _ ?_ d hd
      rw [Nat.div_lt_iff_lt_mul (Nat.two_pow_pos m), ← Nat.pow_add]
      rw [show m * (k + 1) + m = m * (k + 2) from by rw [Nat.mul_succ m (k + 1)]]
      exact h
theorem vl_append (m : Nat) : ∀ (a b : List Nat), vl m (a ++ b) = vl m a + 2 ^ (m * a.length) * vl m b
  | [], b => by simp [vl]
  | d :: a, b => by
    simp only [List.cons_append, vl, vl_append m a b, List.length_cons]
    rw [Nat.mul_succ, Nat.pow_add, Nat.mul_add, ← Nat.mul_assoc, Nat.mul_comm (2 ^ m) (2 ^ (m * a.length))]
    lia
theorem vl_lt (m : Nat) : ∀ (l : List Nat), (∀ d ∈ l, d < 2 ^ m) → vl m l < 2 ^ (m * l.length)
  | [], _ => by simp [vl]
  | d :: l, h => by
    have h1 := h d (.head _)
    have h2 := vl_lt m l fun x hx => h x (.tail _ hx)
    simp only [vl, List.length_cons]
    rw [Nat.mul_succ, Nat.pow_add, Nat.mul_comm]
    have : vl m l + 1 ≤ 2 ^ (m * l.length) := h2
    calc d + vl m l * 2 ^ m < 2 ^ m + vl m l * 2 ^ m := by lia
      _ = (vl m l + 1) * 2 ^ m := by rw [Nat.add_mul, Nat.one_mul]; lia
      _ ≤ 2 ^ (m * l.length) * 2 ^ m := Nat.mul_le_mul_right _ this

/-- long division, the high digit first -/
noncomputable def ld (B b : Nat) : List Nat → Nat → List Nat → List Nat × Nat
  | [], r, qs => (qs, r)
  | d :: ds, r, qs => ld B b ds ((r * B + d) % b) (qs ++ [(r * B + d) / b])
noncomputable def hv (B : Nat) (l : List Nat) : Nat := l.foldl (fun a d => a * B + d) 0
theorem hv_from (B : Nat) : ∀ (l : List Nat) (a : Nat), l.foldl (fun a d => a * B + d) a = a * B ^ l.length + hv B l
  | [], a => by simp [hv]
  | d :: l, a => by
    unfold hv
    simp only [List.foldl_cons, List.length_cons]
    rw [hv_from B l, hv_from B l (0 * B + d), Nat.pow_succ, Nat.add_mul, Nat.add_mul, Nat.zero_mul, Nat.mul_comm (B ^ l.length) B, Nat.mul_assoc]
    lia
theorem hv_snoc (B : Nat) (l : List Nat) (d : Nat) : hv B (l ++ [d]) = hv B l * B + d := by simp [hv, List.foldl_append]
theorem ld_ok (B b : Nat) : ∀ (ds : List Nat) (r : Nat) (qs : List Nat), hv B (ld B b ds r qs).1 * b + (ld B b ds r qs).2 = (hv B qs * b + r) * B ^ ds.length + hv B ds
  | [], r, qs => by simp [ld, hv]
  | d :: ds, r, qs => by
    simp only [ld]
    rw [ld_ok B b ds, hv_snoc]
    have e : hv B (d :: ds) = d * B ^ ds.length + hv B ds := by
      unfold hv; rw [List.foldl_cons, hv_from]; simp [hv]
    rw [e, List.length_cons, Nat.pow_succ]
    have h := Nat.div_add_mod (r * B + d) b
    have h2 : (hv B qs * B + (r * B + d) / b) * b + (r * B + d) % b = (hv B qs * b + r) * B + d := by
      rw [Nat.add_mul, Nat.add_mul, Nat.mul_comm ((r * B + d) / b) b]
      rw [Nat.mul_right_comm (hv B qs) B b]
      lia
    rw [h2, Nat.add_mul, Nat.mul_comm (B ^ ds.length) B, ← Nat.mul_assoc]
    lia
theorem ld_lt (B b : Nat) (hb : 0 < b) : ∀ (ds : List Nat) (r : Nat) (qs : List Nat), r < b → (∀ d ∈ ds, d < B) → (∀ d ∈ qs, d < B) → (ld B b ds r qs).2 < b ∧ (∀ d ∈ (ld B b ds r qs).1, d < B) ∧ (ld B b ds r qs).1.length = qs.length + ds.length
  | [], r, qs, hr, _, hq => ⟨hr, hq, rfl⟩
  | d :: ds, r, qs, hr, hd, hq => by
    have := ld_lt B b hb ds ((r * B + d) % b) (qs ++ [(r * B + d) / b]) (Nat.mod_lt _ hb) (fun x hx => hd x (.tail _ hx)) fun x hx => by
      rcases List.mem_append.mp hx with hx | hx
      · exact hq x hx
      · rw [List.mem_singleton.mp hx]
        have h1 := hd d (.head _)
        rw [Nat.div_lt_iff_lt_mul hb, Nat.mul_comm B b]
        calc r * B + d < r * B + B := by lia
          _ = (r + 1) * B := by rw [Nat.add_mul, Nat.one_mul]
          _ ≤ b * B := Nat.mul_le_mul_right _ hr
    simp only [ld]
    refine ⟨this.1, this.2.1, this.2.2.trans ?_⟩
    simp; lia
theorem vl_rev (m : Nat) : ∀ l : List Nat, vl m l.reverse = hv (2 ^ m) l := by
  intro l
  have go : ∀ l : List Nat, vl m l = hv (2 ^ m) l.reverse := fun l => by
    induction l with
    | nil => rfl
    | cons d l ih => rw [List.reverse_cons, hv_snoc, ← ih]; simp only [vl]; rw [Nat.mul_comm]; lia
  rw [go, List.reverse_reverse]

theorem and_shift (x s : Nat) : x &&& (x / 2 ^ s * 2 ^ s) = x / 2 ^ s * 2 ^ s ∧ x ||| (x / 2 ^ s * 2 ^ s) = x := by
  have e : x / 2 ^ s * 2 ^ s = (x >>> s) <<< s := by rw [Nat.shiftRight_eq_div_pow, Nat.shiftLeft_eq]
  rw [e]
  constructor <;> refine Nat.eq_of_testBit_eq fun i => ?_ <;> simp only [Nat.testBit_and, Nat.testBit_or, Nat.testBit_shiftLeft, Nat.testBit_shiftRight]
  · by_cases h : s ≤ i
    · simp [h]
    · simp [h]
  · by_cases h : s ≤ i
    · simp [h]
    · simp [h]
theorem not_not (x : Int) : Builtin.bitNot (Builtin.bitNot x) = x := by unfold Builtin.bitNot; lia
theorem and_nat (x y : Nat) : Builtin.bitAnd (x : Int) (y : Int) = ((x &&& y : Nat) : Int) := by
  unfold Builtin.bitAnd
  rw [decide_eq_true (Int.natCast_nonneg x), decide_eq_true (Int.natCast_nonneg y)]
  simp
theorem or_nat (x y : Nat) : Builtin.bitOr (x : Int) (y : Int) = ((x ||| y : Nat) : Int) := by
  unfold Builtin.bitOr Builtin.bitAnd
  have h : ∀ x : Nat, decide (0 ≤ Builtin.bitNot (x : Int)) = false := fun x => decide_eq_false (by unfold Builtin.bitNot; lia)
  rw [h, h]
  simp only [not_not, Int.toNat_natCast]
theorem xor_low (x s : Nat) : Builtin.bitXor (x : Int) ((x / 2 ^ s * 2 ^ s : Nat) : Int) = ((x % 2 ^ s : Nat) : Int) := by
  obtain ⟨a1, a2⟩ := and_shift x s
  have h3 := Nat.div_add_mod x (2 ^ s)
  unfold Builtin.bitXor
  rw [or_nat, and_nat, a1, a2]
  rw [Nat.mul_comm] at h3
  lia
end
noncomputable section
/-- a stretch of a list is written -/
noncomputable def wr (xs : List F) (l : Nat) (ys : List F) : List F := xs.take l ++ ys ++ xs.drop (l + ys.length)
theorem wr_len {xs : List F} {l : Nat} {ys : List F} (h : l + ys.length ≤ xs.length) : (wr xs l ys).length = xs.length := by
  unfold wr; simp; lia
theorem wr_one {xs : List F} {l : Nat} {y : F} (h : l < xs.length) : xs.set l y = wr xs l [y] := by
  unfold wr
  rw [List.set_eq_take_append_cons_drop, if_pos h]; simp
theorem wr_two {xs : List F} {l : Nat} {ys zs : List F} (h : l + ys.length ≤ xs.length) : wr (wr xs l ys) (l + ys.length) zs = wr xs l (ys ++ zs) := by
  unfold wr
  have h1 : (xs.take l ++ ys ++ xs.drop (l + ys.length)).take (l + ys.length) = xs.take l ++ ys := by
    rw [List.take_append_of_le_length (by simp; lia)]
    rw [List.take_of_length_le (by simp; lia)]
  have h2 : (xs.take l ++ ys ++ xs.drop (l + ys.length)).drop (l + ys.length + zs.length) = xs.drop (l + (ys ++ zs).length) := by
    rw [List.drop_append]
    have e : (xs.take l ++ ys).length = l + ys.length := by simp; lia
    rw [e, List.drop_of_length_le (by rw [e]; lia), List.drop_drop, List.nil_append]
    congr 1; simp; lia
  rw [h1, h2, List.append_assoc (xs.take l)]

noncomputable abbrev gI : Str := Str.ofString "inner"
set_option maxHeartbeats 1000000 in
theorem inI (m : Nat) (hm : m ≤ 8) : ∀ (k n x l : Nat) (xs : List F), k ≤ 16 → l + (k + 1) ≤ xs.length → xs.length ≤ 64 → x < 2 ^ 40 →
    (lev (n + 8 * k + 12)).call dInI (some (gI, dInI)) (slot dI2d.sc.names [none, some (.v (.int m)), some (.r 0)]) [.v (.int x), .v (.int l), .v (.int ((l + (k + 1) : Nat) : Int))] [(.lst xs, true)] (.v .none)
      [(.lst (wr xs l ((dg m x (k + 1)).map fun d => .int (d : Nat))), true)] := by
  intro k
  induction k using Nat.strongRecOn with
  | ind k ih =>
  intro n x l xs hk hl hz hx
  cases k with
  | zero =>
    apply call_clo (vs := [some (.v (.int x)), some (.v (.int l)), some (.v (.int ((l + 1 : Nat) : Int)))]) (by rfl) (hr := RetR.ret)
    apply x_ret; apply exec_of; apply ExecS.ifT
    · repeat walk_at "s"
      simp
    · walk_at "st"
      repeat walk_at "s"
      · exact StR.lst (Int.natCast_nonneg _) (by simp [small]; lia) (by simp; lia)
      · simp only [List.set_cons_zero, Int.toNat_natCast]
        rw [wr_one (by lia)]
        apply x_ret; apply exec_of
        exact ExecS.ret0
  | succ k =>
    obtain ⟨i, j, hi, hmid⟩ : ∃ i j, k + 2 = (i + 1) + (j + 1) ∧ (l + (l + (k + 2))) / 2 = l + (i + 1) := ⟨(k + 2) / 2 - 1, (k + 2) - (k + 2) / 2 - 1, by lia, by lia⟩
    have hx1 : x % 2 ^ (m * (i + 1)) < 2 ^ 40 := Nat.lt_of_le_of_lt (Nat.mod_le _ _) hx
    have hx2 : x / 2 ^ (m * (i + 1)) < 2 ^ 40 := Nat.lt_of_le_of_lt (Nat.div_le_self _ _) hx
    have hs : (i + 1) * m ≤ 1000 := Nat.le_trans (Nat.mul_le_mul (by lia : i + 1 ≤ 17) hm) (by decide)
    have e1 : ((l : Int) + ((l + (k + 2) : Nat) : Int)).fdiv (2 ^ (1 : Int).toNat) = ((l + (i + 1) : Nat) : Int) := by
      rw [← hmid, ← Int.natCast_add]; exact fdiv_nat _ 2
    have e2 : (((l + (i + 1) : Nat) : Int) - (l : Int)) = ((i + 1 : Nat) : Int) := by lia
    have e3 : (((i + 1 : Nat) : Int) * (m : Int)) = ((m * (i + 1) : Nat) : Int) := by rw [← Int.natCast_mul, Nat.mul_comm]
    have e4 : (x : Int).fdiv (2 ^ ((m * (i + 1) : Nat) : Int).toNat) = ((x / 2 ^ (m * (i + 1)) : Nat) : Int) := by rw [pow_nat, fdiv_nat]
    have e5 : ((x / 2 ^ (m * (i + 1)) : Nat) : Int) * 2 ^ ((m * (i + 1) : Nat) : Int).toNat = ((x / 2 ^ (m * (i + 1)) * 2 ^ (m * (i + 1)) : Nat) : Int) := by rw [pow_nat, ← Int.natCast_mul]
    have l1 := dg_len m (i + 1) (x % 2 ^ (m * (i + 1)))
    have ih1 := ih i (by lia) (n + 8 * (k - i) + 5) (x % 2 ^ (m * (i + 1))) l xs (by lia) (by lia) hz hx1
    have ih2 := ih j (by lia) (n + 8 * (k - j) + 5) (x / 2 ^ (m * (i + 1))) (l + (i + 1)) (wr xs l ((dg m (x % 2 ^ (m * (i + 1))) (i + 1)).map fun d => .int (d : Nat))) (by lia) (by rw [wr_len (by simp [l1]; lia)]; lia) (by rw [wr_len (by simp [l1]; lia)]; lia) hx2
    apply call_clo (vs := [some (.v (.int x)), some (.v (.int l)), some (.v (.int ((l + (k + 2) : Nat) : Int)))]) (by rfl) (hr := RetR.next)
    apply ExecsR.cons; apply exec_of; apply ExecS.ifF
    · repeat walk_at "s"
      simp; lia
    · exact ExecsR.nil
    walk_at "st"; repeat walk_at "s"
    rw [e1]
    walk_at "st"; repeat walk_at "s"
    · rw [e2]; exact BinR.mul (by simp only [small, Int.natAbs_natCast, decide_eq_true_eq]; lia)
    rw [e3]
    walk_at "st"; repeat walk_at "s"
    rw [e4]
    walk_at "st"; repeat walk_at "s"
    · exact BinR.shl (Int.natCast_nonneg _) (by rw [Nat.mul_comm] at hs; lia) (by simp only [small, Int.natAbs_natCast, decide_eq_true_eq]; lia)
    walk_at "s"
    rw [e5, xor_low]
    walk_at "st"
    · apply ev_of; apply EvS.callC (by with_unfolding_all rfl) (by with_unfolding_all rfl) (.inr (by with_unfolding_all rfl))
      · repeat walk_at "s"
      · rw [show n + 8 * (k + 1) + 9 = n + 8 * (k - i) + 5 + 8 * i + 12 from by lia]
        exact ih1
    walk_at "st"
    · apply ev_of; apply EvS.callC (by with_unfolding_all rfl) (by with_unfolding_all rfl) (.inr (by with_unfolding_all rfl))
      · repeat walk_at "s"
      · rw [show n + 8 * (k + 1) + 9 = n + 8 * (k - j) + 5 + 8 * j + 12 from by lia, show l + (k + 2) = l + (i + 1) + (j + 1) from by lia]
        exact ih2
    have hw : wr (wr xs l ((dg m (x % 2 ^ (m * (i + 1))) (i + 1)).map fun d => .int (d : Nat))) (l + (i + 1)) ((dg m (x / 2 ^ (m * (i + 1))) (j + 1)).map fun d => .int (d : Nat)) = wr xs l ((dg m x (k + 2)).map fun d => .int (d : Nat)) := by
      have := wr_two (xs := xs) (l := l) (ys := (dg m (x % 2 ^ (m * (i + 1))) (i + 1)).map fun d => F.int (d : Nat)) (zs := (dg m (x / 2 ^ (m * (i + 1))) (j + 1)).map fun d => .int (d : Nat)) (by simp [l1]; lia)
      rw [List.length_map, l1] at this
      rw [this, ← List.map_append, ← dg_cut, ← hi]
    rw [hw]
    exact ExecsR.nil
end
noncomputable section
noncomputable def blN (x : Nat) : Nat := if x = 0 then 0 else x.log2 + 1
theorem bl_nat (x : Nat) : bitLen (x : Int) = ((blN x : Nat) : Int) := by
  unfold bitLen blN
  by_cases h : x = 0
  · subst h; rfl
  · rw [if_neg (by lia), if_neg h]; simp
theorem bl_lt (x : Nat) : x < 2 ^ blN x := by
  unfold blN
  by_cases h : x = 0
  · subst h; decide
  · rw [if_neg h]; exact Nat.lt_log2_self
theorem bl_le {x k : Nat} (h : x < 2 ^ k) : blN x ≤ k := by
  unfold blN
  by_cases h0 : x = 0
  · rw [if_pos h0]; lia
  · rw [if_neg h0]; exact (Nat.log2_lt h0).mpr h
/-- the number of digits -/
noncomputable def nd (m x : Nat) : Nat := (blN x + m - 1) / m
theorem nd_lt {m : Nat} (hm : 1 ≤ m) (x : Nat) : x < 2 ^ (m * nd m x) := by
  refine Nat.lt_of_lt_of_le (bl_lt x) (Nat.pow_le_pow_right (by decide) ?_)
  unfold nd
  have := Nat.div_add_mod (blN x + m - 1) m
  have := Nat.mod_lt (blN x + m - 1) (show 0 < m by lia)
  lia
theorem nd_pos {m x : Nat} (hm : 1 ≤ m) (h : x ≠ 0) : 0 < nd m x := by
  unfold nd
  refine Nat.div_pos ?_ (by lia)
  unfold blN; rw [if_neg h]; lia
theorem nd_le {m x : Nat} (hm : 1 ≤ m) (h : x < 2 ^ 8) : nd m x ≤ 8 := by
  unfold nd
  have := bl_le h
  refine Nat.le_trans (Nat.div_le_div_right (c := m) (show blN x + m - 1 ≤ 8 * m by lia)) ?_
  rw [Nat.mul_div_cancel _ (by lia)]; lia
noncomputable abbrev FI (l : List Nat) : List F := l.map fun d => .int (d : Nat)

theorem rep_one (k : Nat) (x : F) : (List.replicate k [x]).flatten = List.replicate k x := by
  induction k with
  | zero => rfl
  | succ k ih => simp [List.replicate_succ, ih]
theorem wr_all {xs ys : List F} (h : ys.length = xs.length) : wr xs 0 ys = ys := by
  unfold wr; simp [h]
theorem nd_zero (m : Nat) (hm : 1 ≤ m) : nd m 0 = 0 := by
  unfold nd blN; rw [if_pos rfl]; exact Nat.div_eq_of_lt (show 0 + m - 1 < m by lia)

set_option maxHeartbeats 1000000 in
theorem i2d_ok (m : Nat) (hm : 1 ≤ m) (hm' : m ≤ 8) (n x : Nat) (hx : x < 2 ^ 8) :
    (lev (n + 90)).call dI2d none noV [.v (.int x), .v (.int m)] [] (.r 0) [(.lst (FI (dg m x (nd m x))), true)] := by
  have hk := nd_le hm hx
  have e1 : (((bitLen (x : Int) + (m : Int)) - 1).fdiv (m : Int)) = ((nd m x : Nat) : Int) := by
    rw [bl_nat, show (((blN x : Nat) : Int) + (m : Int)) - 1 = ((blN x + m - 1 : Nat) : Int) from by lia]; exact fdiv_nat _ _
  have hinit : ∀ {fl : Fl} {fr' : Fm} {σ' : St}, ExecsR (lev (n + 89)) (dI2d.body.drop 2) (fm dI2d.sc (some (gI, dInI)) (nestOf dI2d.body) [some (.v (.int x))] (slot dI2d.sc.names [none, some (.v (.int m)), some (.r 0)])) [(.lst (List.replicate (nd m x) (.int 0)), true)] fl fr' σ' →
      ExecsR (lev (n + 89)) dI2d.body (fm dI2d.sc none (nestOf dI2d.body) [some (.v (.int x))] (slot dI2d.sc.names [none, some (.v (.int m))])) [] fl fr' σ' := fun h => by
    walk_at "st"
    · apply ev_of; apply EvS.rep
      · repeat walk_at "s"
        decide
      · repeat walk_at "s"
      · rfl
      · rw [e1]; lia
      · rw [e1]; lia
      · decide
    rw [e1, Int.toNat_natCast, rep_one]
    apply ExecsR.cons; apply exec_of; apply x_def (d := dInI) (by rfl) (by rfl) (by rfl) (by rfl) (by rfl) (by rfl) (by rfl) (by rfl)
    exact h
  by_cases h0 : x = 0
  · subst h0
    apply call_fm (vs := [some (.v (.int (0 : Nat)))]) (cs := [none, some (.v (.int m))]) (by rfl) (hr := RetR.ret)
    apply hinit
    apply ExecsR.cons; apply exec_of; apply ExecS.ifF
    · repeat walk_at "s"
      rfl
    · exact ExecsR.nil
    rw [nd_zero m hm]
    show ExecsR _ _ _ [(F.lst [], true)] _ _ [(F.lst [], true)]
    apply x_ret; repeat walk_at "s"
  · have h1 := nd_pos hm h0
    apply call_fm (vs := [some (.v (.int x))]) (cs := [none, some (.v (.int m))]) (by rfl) (hr := RetR.ret)
    apply hinit
    apply ExecsR.cons; apply exec_of; apply ExecS.ifT
    · repeat walk_at "s"
      simp; lia
    · walk_at "st"
      · apply ev_of; apply EvS.callC (by with_unfolding_all rfl) (by with_unfolding_all rfl) (.inl (by with_unfolding_all rfl))
        · repeat walk_at "s"
          apply ev_of; apply EvS.blt (by with_unfolding_all rfl) (by with_unfolding_all rfl)
          repeat walk_at "s"
          · exact BltR.lenL (by simp; lia)
          walk_at "s"
        · have := inI m hm' (nd m x - 1) (n + 8 * (8 - nd m x) + 18) x 0 (List.replicate (nd m x) (.int 0)) (by lia) (by simp; lia) (by simp; lia) (Nat.lt_of_lt_of_le hx (by decide))
          rw [show n + 8 * (8 - nd m x) + 18 + 8 * (nd m x - 1) + 12 = n + 86 from by lia, show 0 + (nd m x - 1 + 1) = nd m x from by lia, show nd m x - 1 + 1 = nd m x from by lia, wr_all (by simp [dg_len])] at this
          rw [List.length_replicate]
          exact this
      exact ExecsR.nil
    apply x_ret; repeat walk_at "s"
end
noncomputable section
theorem slice_len {ds : List Nat} {l k : Nat} (h : l + k ≤ ds.length) : ((ds.drop l).take k).length = k := by simp; lia
theorem slice_lt {ds : List Nat} {B l k : Nat} (h : ∀ d ∈ ds, d < B) : ∀ d ∈ (ds.drop l).take k, d < B := fun d hd => h d (List.mem_of_mem_drop (List.mem_of_mem_take hd))

set_option maxHeartbeats 1000000 in
theorem inD (m : Nat) (hm1 : 1 ≤ m) (hm : m ≤ 8) (b : Bool) (ds : List Nat) (hds : ∀ d ∈ ds, d < 2 ^ m) (hz : m * ds.length ≤ 60) : ∀ (k n l : Nat), k ≤ 16 → l + (k + 1) ≤ ds.length →
    (lev (n + 8 * k + 12)).call dInD (some (gI, dInD)) (slot dD2i.sc.names [some (.r 0), some (.v (.int m))]) [.v (.int l), .v (.int ((l + (k + 1) : Nat) : Int))] [(.lst (FI ds), b)] (.v (.int (vl m ((ds.drop l).take (k + 1)) : Nat))) [(.lst (FI ds), b)] := by
  intro k
  induction k using Nat.strongRecOn with
  | ind k ih =>
  intro n l hk hl
  have hlen : ds.length ≤ 60 := Nat.le_trans (Nat.le_mul_of_pos_left _ hm1) hz
  cases k with
  | zero =>
    apply call_clo (vs := [some (.v (.int l)), some (.v (.int ((l + 1 : Nat) : Int)))]) (by rfl) (hr := RetR.ret)
    apply x_ret; apply exec_of; apply ExecS.ifT
    · repeat walk_at "s"
      simp
    · have hd : (ds.drop l).take 1 = [ds[l]] := by
        rw [List.drop_eq_getElem_cons (by lia)]; rfl
      rw [hd]
      apply x_ret; apply exec_of; apply ExecS.ret
      walk_at "s"
      · walk_at "s"
      · walk_at "s"
      · rfl
      · exact ItR.lst (x := .int ((vl m [ds[l]] : Nat) : Int)) (Int.natCast_nonneg _) (by rw [Int.toNat_natCast, List.getElem?_map, List.getElem?_eq_getElem (by lia)]; simp [vl])
      · simp only [small, Int.natAbs_natCast, decide_eq_true_eq]; lia
  | succ k =>
    obtain ⟨i, j, hi, hmid⟩ : ∃ i j, k + 2 = (i + 1) + (j + 1) ∧ (l + (l + (k + 2))) / 2 = l + (i + 1) := ⟨(k + 2) / 2 - 1, (k + 2) - (k + 2) / 2 - 1, by lia, by lia⟩
    have hs : (i + 1) * m ≤ 1000 := Nat.le_trans (Nat.mul_le_mul (by lia : i + 1 ≤ 17) hm) (by decide)
    have e1 : ((l : Int) + ((l + (k + 2) : Nat) : Int)).fdiv (2 ^ (1 : Int).toNat) = ((l + (i + 1) : Nat) : Int) := by
      rw [← hmid, ← Int.natCast_add]; exact fdiv_nat _ 2
    have e2 : (((l + (i + 1) : Nat) : Int) - (l : Int)) = ((i + 1 : Nat) : Int) := by lia
    have e3 : (((i + 1 : Nat) : Int) * (m : Int)) = ((m * (i + 1) : Nat) : Int) := by rw [← Int.natCast_mul, Nat.mul_comm]
    have ih1 := ih i (by lia) (n + 8 * (k - i) + 4) l (by lia) (by lia)
    have ih2 := ih j (by lia) (n + 8 * (k - j) + 3) (l + (i + 1)) (by lia) (by lia)
    have hv : vl m ((ds.drop (l + (i + 1))).take (j + 1)) < 2 ^ 60 := by
      refine Nat.lt_of_lt_of_le (vl_lt m _ (slice_lt hds)) (Nat.pow_le_pow_right (by decide) ?_)
      rw [slice_len (by lia)]
      exact Nat.le_trans (Nat.mul_le_mul_left m (by lia)) hz
    have e5 : ((vl m ((ds.drop (l + (i + 1))).take (j + 1)) : Nat) : Int) * 2 ^ ((m * (i + 1) : Nat) : Int).toNat + ((vl m ((ds.drop l).take (i + 1)) : Nat) : Int) = ((vl m ((ds.drop l).take (k + 2)) : Nat) : Int) := by
      have ht : (ds.drop l).take (k + 2) = (ds.drop l).take (i + 1) ++ (ds.drop (l + (i + 1))).take (j + 1) := by rw [hi, List.take_add, List.drop_drop]
      rw [pow_nat, ← Int.natCast_mul, ← Int.natCast_add, ht, vl_append, slice_len (by lia)]
      congr 1
      rw [Nat.mul_comm, Nat.add_comm]
    apply call_clo (vs := [some (.v (.int l)), some (.v (.int ((l + (k + 2) : Nat) : Int)))]) (by rfl) (hr := RetR.ret)
    apply ExecsR.cons; apply exec_of; apply ExecS.ifF
    · repeat walk_at "s"
      simp; lia
    · exact ExecsR.nil
    walk_at "st"; repeat walk_at "s"
    rw [e1]
    walk_at "st"; repeat walk_at "s"
    · rw [e2]; exact BinR.mul (by simp only [small, Int.natAbs_natCast, decide_eq_true_eq]; lia)
    rw [e3]
    rw [← e5]
    apply x_ret; walk_at "s"; walk_at "s"; walk_at "s"
    · apply ev_of; apply EvS.callC (by with_unfolding_all rfl) (by with_unfolding_all rfl) (.inr (by with_unfolding_all rfl))
      · repeat walk_at "s"
      · rw [show n + 8 * (k + 1) + 7 = n + 8 * (k - j) + 3 + 8 * j + 12 from by lia, show l + (k + 2) = l + (i + 1) + (j + 1) from by lia]
        exact ih2
    · walk_at "s"
    · walk_at "s"
    · walk_at "s"
    · exact BinR.shl (Int.natCast_nonneg _) (by rw [Nat.mul_comm] at hs; lia) (by simp only [small, Int.natAbs_natCast, decide_eq_true_eq]; exact Nat.lt_of_lt_of_le hv (by decide))
    · apply ev_of; apply EvS.callC (by with_unfolding_all rfl) (by with_unfolding_all rfl) (.inr (by with_unfolding_all rfl))
      · repeat walk_at "s"
      · rw [show n + 8 * (k + 1) + 8 = n + 8 * (k - i) + 4 + 8 * i + 12 from by lia]
        exact ih1
    repeat walk_at "s"

theorem d2i_ok (m : Nat) (hm1 : 1 ≤ m) (hm : m ≤ 8) (b : Bool) (ds : List Nat) (hds : ∀ d ∈ ds, d < 2 ^ m) (hz : m * ds.length ≤ 60) (hl : ds.length ≤ 8) (n : Nat) :
    (lev (n + 90)).call dD2i none noV [.r 0, .v (.int m)] [(.lst (FI ds), b)] (.v (.int (vl m ds : Nat))) [(.lst (FI ds), b)] := by
  cases hd : ds with
  | nil =>
    apply call_fm (vs := []) (cs := [some (.r 0), some (.v (.int m))]) (by rfl) (hr := RetR.ret)
    apply ExecsR.cons; apply exec_of; apply x_def (d := dInD) (by rfl) (by rfl) (by rfl) (by rfl) (by rfl) (by rfl) (by rfl) (by rfl)
    apply x_ret; apply exec_of; apply ExecS.ret; apply ev_of; apply EvS.ifF
    · repeat walk_at "s"
      · exact TruR.lst (by simp)
      · rfl
    · apply ev_of; exact EvS.int
  | cons d r =>
    have hlr : ds.length = r.length + 1 := by rw [hd]; rfl
    have h := inD m hm1 hm b ds hds hz r.length (n + 8 * (8 - ds.length) + 18) 0 (by lia) (by lia)
    rw [show n + 8 * (8 - ds.length) + 18 + 8 * r.length + 12 = n + 86 from by lia, show 0 + (r.length + 1) = ds.length from by lia, show r.length + 1 = ds.length from by lia, List.drop_zero, List.take_length] at h
    rw [← hd]
    apply call_fm (vs := []) (cs := [some (.r 0), some (.v (.int m))]) (by rfl) (hr := RetR.ret)
    apply ExecsR.cons; apply exec_of; apply x_def (d := dInD) (by rfl) (by rfl) (by rfl) (by rfl) (by rfl) (by rfl) (by rfl) (by rfl)
    apply x_ret; apply exec_of; apply ExecS.ret; apply ev_of; apply EvS.ifT
    · repeat walk_at "s"
      · exact TruR.lst (by simp; lia)
      · rw [hd]; rfl
    · apply ev_of; apply EvS.callC (by with_unfolding_all rfl) (by with_unfolding_all rfl) (.inl (by with_unfolding_all rfl))
      · repeat walk_at "s"
        apply ev_of; apply EvS.blt (by with_unfolding_all rfl) (by with_unfolding_all rfl)
        repeat walk_at "s"
        · exact BltR.lenL (by simp; lia)
        walk_at "s"
      · rw [List.length_map]
        exact h
end
noncomputable section
theorem unpack_nil {σ τ : St} : unpack σ τ [] = some σ := by cases τ <;> rfl
noncomputable abbrev posFor : Stmt := stmtAt dPos.body 4
noncomputable abbrev VPos (a b m ad r : A) (o6 o7 : Option A) : List (Option A) := [some a, some b, some m, some ad, some r, some (.r 0), o6, o7, none]

set_option maxHeartbeats 1000000 in
theorem pos_loop (m b : Nat) (hm3 : m ≤ 3) (hb : 0 < b) (hbm : b < 2 ^ m) (n : Nat) (a ad : A) (cel : Vars) : ∀ (ds : List Nat) (r : Nat) (qs : List Nat) (o6 o7 : Option A), r < b → (∀ d ∈ ds, d < 2 ^ m) → qs.length + ds.length ≤ 64 →
    ∃ o6' o7', ForR (lev (n + 20)) (forT posFor) (forB posFor) (FI ds) (fm dPos.sc none (nestOf dPos.body) (VPos a (.v (.int b)) (.v (.int m)) ad (.v (.int r)) o6 o7) cel) [(.lst (FI qs), true)] .next
      (fm dPos.sc none (nestOf dPos.body) (VPos a (.v (.int b)) (.v (.int m)) ad (.v (.int (ld (2 ^ m) b ds r qs).2)) o6' o7') cel) [(.lst (FI (ld (2 ^ m) b ds r qs).1), true)]
  | [], r, qs, o6, o7, _, _, _ => ⟨o6, o7, .nil⟩
  | d :: ds, r, qs, o6, o7, hr, hd, hl => by
    have h2m : 2 ^ m ≤ 8 := Nat.pow_le_pow_right (by decide : 0 < 2) hm3
    have hd1 := hd d (.head _)
    have hrb : r * 2 ^ m + d < 2 ^ 16 := by
      have : r * 2 ^ m ≤ 8 * 8 := Nat.mul_le_mul (by lia) h2m
      lia
    have e1 : ((r : Int) * 2 ^ ((m : Nat) : Int).toNat + (d : Int)) = ((r * 2 ^ m + d : Nat) : Int) := by rw [pow_nat, ← Int.natCast_mul, ← Int.natCast_add]
    obtain ⟨o6', o7', ih⟩ := pos_loop m b hm3 hb hbm n a ad cel ds ((r * 2 ^ m + d) % b) (qs ++ [(r * 2 ^ m + d) / b]) (some (.v (.int d))) (some (.v (.int ((r * 2 ^ m + d) / b : Nat)))) (Nat.mod_lt _ hb) (fun x hx => hd x (.tail _ hx)) (by simp at hl ⊢; lia)
    refine ⟨o6', o7', ?_⟩
    rw [show ld (2 ^ m) b (d :: ds) r qs = ld (2 ^ m) b ds ((r * 2 ^ m + d) % b) (qs ++ [(r * 2 ^ m + d) / b]) from rfl]
    have hdiv := div2_ok (n + 8) ((r * 2 ^ m + d : Nat) : Int) (b : Int) (m : Int) [] (by rw [bl_nat]; have := bl_le hrb; lia) (by lia) (by lia)
    rw [fdiv_nat, fmod_nat] at hdiv
    apply ForR.next
    · exact b_loc ⟨by rfl, by rfl⟩
    · walk_at "st"
      · apply ev_of; apply EvS.callG f_div2 (by with_unfolding_all rfl) (by with_unfolding_all rfl)
        · repeat walk_at "s"
          · exact BinR.shl (Int.natCast_nonneg _) (by lia) (by simp only [small, Int.natAbs_natCast, decide_eq_true_eq]; lia)
          repeat walk_at "s"
        · walk_at "s"
        · rw [e1]; exact hdiv
        · rfl
        · rfl
      walk_at "st"
      · repeat walk_at "s"
        simp at hl ⊢; lia
      exact ExecsR.nil
    · have hq : FI (qs ++ [(r * 2 ^ m + d) / b]) = FI qs ++ [F.int ((r * 2 ^ m + d) / b : Nat)] := by simp [FI]
      rw [hq] at ih
      exact ih

set_option maxHeartbeats 1000000 in
theorem pos_ok (m b : Nat) (hm1 : 1 ≤ m) (hm3 : m ≤ 3) (hb : 0 < b) (hbm : b < 2 ^ m) (hbl : blN b = m) (n x : Nat) (hx : x < 2 ^ 8) :
    ∃ σ', (lev (n + 100)).call dPos none noV [.v (.int x), .v (.int b)] [] (.v (.tup [.int (x / b : Nat), .int (x % b : Nat)])) σ' := by
  have hk := nd_le hm1 hx
  have hlt := dg_lt m (nd m x) x (nd_lt hm1 x)
  have hdl := dg_len m (nd m x) x
  have hv0 := vl_dg m (nd m x) x (by
    by_cases h : x = 0
    · exact .inr h
    · exact .inl (nd_pos hm1 h))
  obtain ⟨o6, o7, lp⟩ := pos_loop m b hm3 hb hbm (n + 78) (.v (.int x)) (.v (.lst (FI (dg m x (nd m x))))) (slot dPos.sc.names []) (dg m x (nd m x)).reverse 0 [] none none hb (fun d hd => hlt d (List.mem_reverse.mp hd)) (by simp [hdl]; lia)
  have ok := ld_ok (2 ^ m) b (dg m x (nd m x)).reverse 0 []
  have lt := ld_lt (2 ^ m) b hb (dg m x (nd m x)).reverse 0 [] hb (fun d hd => hlt d (List.mem_reverse.mp hd)) (fun d hd => by cases hd)
  generalize hL : ld (2 ^ m) b (dg m x (nd m x)).reverse 0 [] = Lr at *
  obtain ⟨qs, r⟩ := Lr
  obtain ⟨lt1, lt2, lt3⟩ := lt
  simp only [List.length_nil, List.length_reverse, hdl, Nat.zero_add] at lt3
  have hval : vl m qs.reverse * b + r = x := by
    have h0 : hv (2 ^ m) [] = 0 := rfl
    simp only [h0, Nat.zero_mul, Nat.zero_add] at ok
    rw [vl_rev, ok, ← vl_rev, List.reverse_reverse]; exact hv0
  have hq : vl m qs.reverse = x / b := by
    rw [← hval, Nat.mul_comm, Nat.mul_add_div hb, Nat.div_eq_of_lt lt1, Nat.add_zero]
  have hr : r = x % b := by
    rw [← hval, Nat.mul_comm, Nat.mul_add_mod, Nat.mod_eq_of_lt lt1]
  have i2 := i2d_ok m hm1 (by lia) (n + 7) x hx
  have d2 := d2i_ok m hm1 (by lia) true qs.reverse (fun d hd => lt2 d (List.mem_reverse.mp hd)) (by rw [List.length_reverse, lt3]; exact Nat.le_trans (Nat.mul_le_mul hm3 hk) (by decide)) (by rw [List.length_reverse, lt3]; exact hk) (n + 7)
  refine ⟨[(.lst (FI qs.reverse), true)], ?_⟩
  apply call_pad 7 0 (vs := [some (.v (.int x)), some (.v (.int b)), none, none, none, none, none, none, none]) (cs := []) (by rfl) (by rfl) (by rfl) (hr := RetR.ret)
  walk_at "st"; repeat walk_at "s"
  rw [bl_nat, hbl]
  walk_at "st"
  · apply ev_of; apply EvS.callG f_i2d (by with_unfolding_all rfl) (by with_unfolding_all rfl)
    · repeat walk_at "s"
    · walk_at "s"
    · exact i2
    · rfl
    · rfl
  walk_at "st"; repeat walk_at "s"
  walk_at "st"; repeat walk_at "s"
  apply ExecsR.cons; apply exec_of; apply ExecS.for (by with_unfolding_all rfl)
  · apply iter_of; apply IterS.rev (by with_unfolding_all rfl) (by with_unfolding_all rfl)
    · walk_at "s"
    · rfl
  · rw [← List.map_reverse]; exact lp
  walk_at "st"
  · walk_at "s"
    · walk_at "s"
    · rfl
    · exact MutR.reverse (by simp; lia)
  rw [← List.map_reverse]
  walk_at "st"
  · apply ev_of; apply EvS.callG f_d2i (by with_unfolding_all rfl) (by with_unfolding_all rfl)
    · repeat walk_at "s"
    · rfl
    · exact d2
    · rfl
    · rfl
  rw [hq, hr]
  apply x_ret
  repeat walk_at "s"
  · exact ListR.nil
  simp

theorem div_nat (b : Nat) (hb : b = 2 ∨ b = 3 ∨ b = 5) (n x : Nat) (hx : x < 2 ^ 8) :
    ∃ σ', (lev (n + 110)).call dDiv none noV [.v (.int x), .v (.int b)] [] (.v (.tup [.int (x / b : Nat), .int (x % b : Nat)])) σ' := by
  obtain ⟨σp, hp⟩ : ∃ σ', (lev (n + 4 + 100)).call dPos none noV [.v (.int x), .v (.int b)] [] (.v (.tup [.int (x / b : Nat), .int (x % b : Nat)])) σ' := by
    rcases hb with rfl | rfl | rfl
    · exact pos_ok 2 2 (by decide) (by decide) (by decide) (by decide) (by decide +kernel) _ x hx
    · exact pos_ok 2 3 (by decide) (by decide) (by decide) (by decide) (by decide +kernel) _ x hx
    · exact pos_ok 3 5 (by decide) (by decide) (by decide) (by decide) (by decide +kernel) _ x hx
  refine ⟨[], ?_⟩
  apply call_fm (vs := [some (.v (.int x)), some (.v (.int b))]) (cs := []) (by rfl) (hr := RetR.ret)
  apply x_ret; apply exec_of; apply ExecS.ifF
  · repeat walk_at "s"
    have : (b : Int) ≠ 0 := by lia
    simpa using this
  apply x_ret; apply exec_of; apply ExecS.ifF
  · repeat walk_at "s"
    exact decide_eq_false (by lia)
  apply x_ret; apply exec_of; apply ExecS.ifF
  · repeat walk_at "s"
    exact decide_eq_false (by lia)
  apply x_ret; apply exec_of; apply ExecS.ret
  apply ev_of; apply EvS.callG f_pos (by with_unfolding_all rfl) (by with_unfolding_all rfl)
  · repeat walk_at "s"
  · walk_at "s"
  · exact hp
  · rfl
  · exact unpack_nil

theorem div_ok (b : Nat) (hb : b = 2 ∨ b = 3 ∨ b = 5) (n : Nat) (a : Int) (h1 : -256 ≤ a) (h2 : a < 256) :
    ∃ σ', (lev (n + 120)).call dDiv none noV [.v (.int a), .v (.int b)] [] (.v (.tup [.int (a.fdiv b), .int (a.fmod b)])) σ' := by
  by_cases ha : 0 ≤ a
  · obtain ⟨x, rfl⟩ := Int.eq_ofNat_of_zero_le ha
    obtain ⟨σ', h⟩ := div_nat b hb (n + 10) x (by lia)
    rw [← fdiv_nat, ← fmod_nat] at h
    exact ⟨σ', h⟩
  · obtain ⟨x, hx⟩ := Int.eq_ofNat_of_zero_le (show 0 ≤ Builtin.bitNot a from by unfold Builtin.bitNot; lia)
    have hxa : a = -(x : Int) - 1 := by unfold Builtin.bitNot at hx; lia
    obtain ⟨σ', h⟩ := div_nat b hb (n + 4) x (by lia)
    have e1 : Builtin.bitNot ((x / b : Nat) : Int) = a.fdiv b := by
      unfold Builtin.bitNot
      rw [Int.fdiv_eq_ediv_of_nonneg _ (Int.natCast_nonneg b), hxa]
      rcases hb with rfl | rfl | rfl <;> lia
    have e2 : (b : Int) + Builtin.bitNot ((x % b : Nat) : Int) = a.fmod b := by
      unfold Builtin.bitNot
      rw [Int.fmod_eq_emod_of_nonneg _ (Int.natCast_nonneg b), hxa]
      rcases hb with rfl | rfl | rfl <;> lia
    refine ⟨[], ?_⟩
    rw [← e1, ← e2]
    apply call_pad 2 0 (vs := [some (.v (.int a)), some (.v (.int b)), none, none]) (cs := []) (by rfl) (by rfl) (by rfl) (hr := RetR.ret)
    apply x_ret; apply exec_of; apply ExecS.ifF
    · repeat walk_at "s"
      have : (b : Int) ≠ 0 := by lia
      simpa using this
    apply x_ret; apply exec_of; apply ExecS.ifF
    · repeat walk_at "s"
      exact decide_eq_false (by lia)
    apply x_ret; apply exec_of; apply ExecS.ifT
    · repeat walk_at "s"
      exact decide_eq_true (by lia)
    walk_at "st"
    · apply ev_of; apply EvS.callG f_div (by with_unfolding_all rfl) (by with_unfolding_all rfl)
      · repeat walk_at "s"
      · walk_at "s"
      · rw [hx]; exact h
      · rfl
      · exact unpack_nil
    apply x_ret
    repeat walk_at "s"
    simp
/-- the primes that stand here, and the numbers (kept from lia, which would split them) -/
structure Pr (p : Nat) : Prop where
  h : p = 2 ∨ p = 3 ∨ p = 5
theorem Pr.two {p : Nat} (hp : Pr p) : 2 ≤ p := by rcases hp.h with h | h | h <;> rw [h] <;> decide
theorem Pr.five {p : Nat} (hp : Pr p) : p ≤ 5 := by rcases hp.h with h | h | h <;> rw [h] <;> decide
structure Nr (N : Nat) : Prop where
  h : N = 2 ∨ N = 3 ∨ N = 4 ∨ N = 5 ∨ N = 6
theorem Nr.two {N : Nat} (hN : Nr N) : 2 ≤ N := by rcases hN.h with h | h | h | h | h <;> rw [h] <;> decide
theorem Nr.six {N : Nat} (hN : Nr N) : N ≤ 6 := by rcases hN.h with h | h | h | h | h <;> rw [h] <;> decide
end
noncomputable section

/-! ## heaps of pairs -/
noncomputable abbrev K := Int × Int
noncomputable def KL (a b : K) : Prop := a.1 < b.1 ∨ (a.1 = b.1 ∧ a.2 ≤ b.2)
theorem KL.trans {a b c : K} (h : KL a b) (h' : KL b c) : KL a c := by unfold KL at *; lia
theorem KL.refl (a : K) : KL a a := by unfold KL; lia
theorem KL.of_lt {a b : K} (h : pairLt a.1 a.2 b.1 b.2 = true) : KL a b := by
  unfold pairLt at h; unfold KL
  split at h <;> simp at h <;> lia
theorem KL.of_not {a b : K} (h : pairLt a.1 a.2 b.1 b.2 = false) : KL b a := by
  unfold pairLt at h; unfold KL
  split at h <;> simp at h <;> lia

noncomputable def fa (xs : List K) (i : Nat) : K := xs.getD i (0, 0)
theorem fa_set {xs : List K} {p i : Nat} {v : K} (h : p < xs.length) : fa (xs.set p v) i = if i = p then v else fa xs i := by
  unfold fa
  simp only [List.getD_eq_getElem?_getD, List.getElem?_set]
  by_cases hi : i = p
  · subst hi; simp [h]
  · rw [if_neg (fun e => hi e.symm), if_neg hi]
theorem fa_get {xs : List K} {i : Nat} (h : i < xs.length) : xs[i]? = some (fa xs i) := by
  unfold fa; simp [List.getD_eq_getElem?_getD, h]
noncomputable def par (i : Nat) : Nat := (i - 1) / 2
noncomputable def HeapAt (xs : List K) : Prop := ∀ i, 0 < i → i < xs.length → KL (fa xs (par i)) (fa xs i)
/-- the place p is empty -/
structure Hole (xs : List K) (p : Nat) : Prop where
  a : ∀ i, 0 < i → i < xs.length → i ≠ p → par i ≠ p → KL (fa xs (par i)) (fa xs i)
  c : 0 < p → ∀ i, 0 < i → i < xs.length → par i = p → KL (fa xs (par p)) (fa xs i)
/-- x may stand there -/
noncomputable def Under (xs : List K) (p : Nat) (x : K) : Prop := ∀ i, 0 < i → i < xs.length → par i = p → KL x (fa xs i)

theorem par_lt {i : Nat} (h : 0 < i) : par i < i := by unfold par; lia
theorem hole_fill {xs : List K} {p : Nat} {x : K} (hp : p < xs.length) (h : Hole xs p) (u : Under xs p x) (r : p = 0 ∨ KL (fa xs (par p)) x) : HeapAt (xs.set p x) := by
  intro i h0 hi
  rw [List.length_set] at hi
  rw [fa_set hp, fa_set hp]
  by_cases hip : i = p
  · subst hip
    have := par_lt h0
    rw [if_pos rfl, if_neg (by lia)]
    exact r.elim (fun e => by lia) id
  · rw [if_neg hip]
    by_cases hpp : par i = p
    · rw [if_pos hpp]; exact u i h0 hi hpp
    · rw [if_neg hpp]; exact h.a i h0 hi hip hpp
/-- the parent comes down -/
theorem hole_up {xs : List K} {p : Nat} {x : K} (hp : p < xs.length) (h0 : 0 < p) (h : Hole xs p) (hx : KL x (fa xs (par p))) :
    Hole (xs.set p (fa xs (par p))) (par p) ∧ Under (xs.set p (fa xs (par p))) (par p) x := by
  have hpp := par_lt h0
  have kid : ∀ i, 0 < i → i < xs.length → par i = par p → KL (fa xs (par p)) (fa (xs.set p (fa xs (par p))) i) := fun i i0 hi e => by
    rw [fa_set hp]
    by_cases hip : i = p
    · rw [if_pos hip]; exact KL.refl _
    · rw [if_neg hip]
      have := h.a i i0 hi hip (by lia)
      rwa [e] at this
  refine ⟨⟨fun i i0 hi n1 n2 => ?_, fun q0 i i0 hi e => ?_⟩, fun i i0 hi e => ?_⟩
  · rw [List.length_set] at hi
    have hip : i ≠ p := fun e => n2 (by rw [e])
    rw [fa_set hp, fa_set hp, if_neg hip]
    by_cases e : par i = p
    · rw [if_pos e]; exact h.c h0 i i0 hi e
    · rw [if_neg e]; exact h.a i i0 hi hip e
  · rw [List.length_set] at hi
    have h1 := par_lt q0
    have h2 := h.a (par p) q0 (by lia) (by lia) (by lia)
    rw [fa_set hp, if_neg (by lia)]
    exact h2.trans (kid i i0 hi e)
  · rw [List.length_set] at hi
    exact hx.trans (kid i i0 hi e)
/-- the smaller child comes up -/
theorem hole_down {xs : List K} {p c : Nat} (hp : p < xs.length) (hc : c < xs.length) (c0 : 0 < c) (hpc : par c = p) (h : Hole xs p) (hm : ∀ i, 0 < i → i < xs.length → par i = p → KL (fa xs c) (fa xs i)) : Hole (xs.set p (fa xs c)) c := by
  have hlt := par_lt c0
  refine ⟨fun i i0 hi n1 n2 => ?_, fun q0 i i0 hi e => ?_⟩
  · rw [List.length_set] at hi
    rw [fa_set hp, fa_set hp]
    by_cases hip : i = p
    · subst hip
      have := par_lt i0
      rw [if_pos rfl, if_neg (by lia)]
      exact h.c i0 c c0 hc hpc
    · rw [if_neg hip]
      by_cases e : par i = p
      · rw [if_pos e]; exact hm i i0 hi e
      · rw [if_neg e]; exact h.a i i0 hi hip e
  · rw [List.length_set] at hi
    have h3 := par_lt i0
    rw [fa_set hp, fa_set hp, if_pos hpc, if_neg (by lia)]
    have := h.a i i0 hi (by lia) (by lia)
    rwa [e] at this
theorem under_end {xs : List K} {p : Nat} {x : K} (h : xs.length ≤ 2 * p + 1) : Under xs p x := fun i i0 hi e => by unfold par at e; lia
theorem hole_last {xs : List K} (h : HeapAt xs) (x : K) : Hole (xs ++ [x]) xs.length ∧ Under (xs ++ [x]) xs.length x := by
  have f : ∀ i, i < xs.length → fa (xs ++ [x]) i = fa xs i := fun i hi => by
    unfold fa; rw [List.getD_eq_getElem?_getD, List.getD_eq_getElem?_getD, List.getElem?_append_left hi]
  refine ⟨⟨fun i i0 hi n1 n2 => ?_, fun q0 i i0 hi e => ?_⟩, fun i i0 hi e => ?_⟩
  · simp at hi
    have := par_lt i0
    rw [f _ (by lia), f _ (by lia)]
    exact h i i0 (by lia)
  · simp at hi; have := par_lt i0; lia
  · simp at hi; have := par_lt i0; lia
theorem hole_root {xs : List K} (h : HeapAt xs) (x : K) : Hole (xs.set 0 x) 0 := by
  refine ⟨fun i i0 hi n1 n2 => ?_, fun q0 => by lia⟩
  rw [List.length_set] at hi
  rw [fa_set (by lia), fa_set (by lia), if_neg n1, if_neg n2]
  exact h i i0 hi
theorem heap_drop {xs : List K} (h : HeapAt xs) : HeapAt xs.dropLast := by
  intro i i0 hi
  rw [List.length_dropLast] at hi
  have f : ∀ i, i < xs.length - 1 → fa xs.dropLast i = fa xs i := fun i hi => by
    unfold fa
    rw [List.getD_eq_getElem?_getD, List.getD_eq_getElem?_getD, List.getElem?_dropLast, if_pos hi]
  have := par_lt i0
  rw [f _ (by lia), f _ hi]
  exact h i i0 (by lia)
theorem heap_min {xs : List K} (h : HeapAt xs) : ∀ i, i < xs.length → KL (fa xs 0) (fa xs i) := by
  intro i
  induction i using Nat.strongRecOn with
  | ind i ih =>
    intro hi
    by_cases h0 : i = 0
    · subst h0; exact KL.refl _
    · have := par_lt (show 0 < i by lia)
      exact (ih _ this (by lia)).trans (h i (by lia) hi)

/-- a swap at the hole -/
theorem hole_perm {xs : List K} {p q : Nat} {x : K} (hp : p < xs.length) (hq : q < xs.length) (ne : p ≠ q) : ((xs.set p (fa xs q)).set q x).Perm (xs.set p x) := by
  rw [List.perm_iff_count]
  intro k
  have g1 : ∀ {ys : List K} {i : Nat} (h : i < ys.length), ys[i] = fa ys i := fun h => by
    have := fa_get h
    rw [List.getElem?_eq_getElem h] at this; exact Option.some.inj this
  have c1 := List.count_set (a := x) (b := k) (l := xs.set p (fa xs q)) (i := q) (by simpa using hq)
  have c2 := List.count_set (a := fa xs q) (b := k) (l := xs) (i := p) hp
  have c3 := List.count_set (a := x) (b := k) (l := xs) (i := p) hp
  have hq' : q < (xs.set p (fa xs q)).length := by simpa using hq
  have e1 : (xs.set p (fa xs q))[q]'hq' = fa xs q := by rw [g1 hq', fa_set hp, if_neg (fun e => ne e.symm)]
  have e2 : xs[p] = fa xs p := g1 hp
  rw [c1, c2, c3, e1, e2]
  rw [Nat.add_sub_cancel]
end
noncomputable section
noncomputable abbrev enc (k : K) : F := .tup [.int k.1, .int k.2]
noncomputable abbrev KF (l : List K) : List F := l.map enc
theorem kf_get {xs : List K} {i : Nat} (h : i < xs.length) : (KF xs)[((i : Nat) : Int).toNat]? = some (enc (fa xs i)) := by
  rw [Int.toNat_natCast, List.getElem?_map, fa_get h]; rfl
theorem kf_set {xs : List K} {i : Nat} {k : K} : (KF xs).set ((i : Nat) : Int).toNat (enc k) = KF (xs.set i k) := by
  rw [Int.toNat_natCast]; exact (List.map_set ..).symm
theorem small_nat {i : Nat} (h : i < 2 ^ 20) : small ((i : Nat) : Int) = true := by
  simp only [small, Int.natAbs_natCast, decide_eq_true_eq]; lia

noncomputable abbrev VDown (x : K) (pos : Nat) (o4 o5 : Option A) : List (Option A) := [some (.r 0), some (.v (.int 0)), some (.v (.int pos)), some (.v (enc x)), o4, o5]
noncomputable abbrev downW : Stmt := stmtAt dDown.body 1
theorem fdiv_par (p : Nat) (h : 0 < p) : ((p : Int) - 1).fdiv (2 ^ (1 : Int).toNat) = ((par p : Nat) : Int) := by
  rw [show ((p : Int) - 1) = ((p - 1 : Nat) : Int) from by lia]; exact fdiv_nat _ 2

set_option maxHeartbeats 1000000 in
theorem down_loop (n : Nat) (x : K) (cel : Vars) : ∀ (p : Nat) (xs : List K) (o4 o5 : Option A), p < xs.length → xs.length ≤ 64 → Hole xs p → Under xs p x →
    ∃ k q zs o4' o5', WhileR (lev (n + 12)) (whileT downW) (whileB downW) k (fm dDown.sc none (nestOf dDown.body) (VDown x p o4 o5) cel) [(.lst (KF xs), true)] .next
      (fm dDown.sc none (nestOf dDown.body) (VDown x q o4' o5') cel) [(.lst (KF zs), true)] ∧ q < zs.length ∧ zs.length = xs.length ∧ HeapAt (zs.set q x) ∧ (zs.set q x).Perm (xs.set p x) := by
  intro p
  induction p using Nat.strongRecOn with
  | ind p ih =>
  intro xs o4 o5 hp hz hh hu
  by_cases h0 : p = 0
  · subst h0
    refine ⟨0, 0, xs, o4, o5, ?_, hp, rfl, hole_fill hp hh hu (.inl rfl), .refl _⟩
    apply WhileR.stop; apply test_of; apply t_cmp (by rfl)
    repeat walk_at "s"
    rfl
  have hpp := par_lt (show 0 < p by lia)
  have hq : par p < xs.length := by lia
  have body : ∀ {fl : Fl} {fr' : Fm} {σ' : St}, ExecsR (lev (n + 12)) ((whileB downW).drop 2) (fm dDown.sc none (nestOf dDown.body) (VDown x p (some (.v (.int (par p)))) (some (.v (enc (fa xs (par p)))))) cel) [(.lst (KF xs), true)] fl fr' σ' →
      ExecsR (lev (n + 12)) (whileB downW) (fm dDown.sc none (nestOf dDown.body) (VDown x p o4 o5) cel) [(.lst (KF xs), true)] fl fr' σ' := fun h => by
    walk_at "st"; repeat walk_at "s"
    rw [fdiv_par p (by lia)]
    walk_at "st"; repeat walk_at "s"
    · exact ItR.lst (Int.natCast_nonneg _) (kf_get hq)
    · exact small_nat (by lia)
    exact h
  by_cases hlt : pairLt x.1 x.2 (fa xs (par p)).1 (fa xs (par p)).2 = true
  · have hx := KL.of_lt (a := x) (b := fa xs (par p)) hlt
    obtain ⟨k1, k2⟩ := hole_up hp (by lia) hh hx
    obtain ⟨k, q, zs, o4', o5', w, e1, e2, e3, e4⟩ := ih (par p) hpp (xs.set p (fa xs (par p))) (some (.v (.int (par p)))) (some (.v (enc (fa xs (par p))))) (by simpa using hq) (by simpa using hz) k1 k2
    refine ⟨k + 1, q, zs, o4', o5', ?_, e1, by simpa using e2, e3, e4.trans (hole_perm hp hq (by lia))⟩
    apply WhileR.cont
    · apply test_of; apply t_cmp (by rfl)
      repeat walk_at "s"
      exact decide_eq_true (by lia)
    · apply body
      apply x_cont; apply exec_of; apply ExecS.ifT
      · repeat walk_at "s"
        exact hlt
      walk_at "st"; repeat walk_at "s"
      · exact StR.lst (Int.natCast_nonneg _) (small_nat (by lia)) (by simpa using hp)
      walk_at "st"; repeat walk_at "s"
      apply x_cont; apply exec_of; exact ExecS.cont
    · rw [kf_set]; exact w
  · have hlt : pairLt x.1 x.2 (fa xs (par p)).1 (fa xs (par p)).2 = false := by simpa using hlt
    refine ⟨1, p, xs, some (.v (.int (par p))), some (.v (enc (fa xs (par p)))), ?_, hp, rfl, hole_fill hp hh hu (.inr (KL.of_not hlt)), .refl _⟩
    apply WhileR.brk
    · apply test_of; apply t_cmp (by rfl)
      repeat walk_at "s"
      exact decide_eq_true (by lia)
    · apply body
      apply ExecsR.cons; apply exec_of; apply ExecS.ifF
      · repeat walk_at "s"
        exact hlt
      · exact ExecsR.nil
      apply x_brk; apply exec_of; exact ExecS.brk

set_option maxHeartbeats 1000000 in
/-- _siftdown(heap, 0, pos): what stands at pos goes up -/
theorem down_ok (n : Nat) (x : K) (p : Nat) (xs : List K) (hp : p < xs.length) (hz : xs.length ≤ 64) (hx : fa xs p = x) (hh : Hole xs p) (hu : Under xs p x) :
    ∃ ys, (lev (n + 14)).call dDown none noV [.r 0, .v (.int 0), .v (.int p)] [(.lst (KF xs), true)] (.v .none) [(.lst (KF ys), true)] ∧ HeapAt ys ∧ ys.Perm xs := by
  obtain ⟨k, q, zs, o4, o5, w, e1, e2, e3, e4⟩ := down_loop n x (slot dDown.sc.names []) p xs none none hp hz hh hu
  have hs : xs.set p x = xs := by
    rw [← hx]
    have := fa_get hp
    rw [List.getElem?_eq_getElem hp] at this
    rw [← Option.some.inj this]; exact List.set_getElem_self hp
  refine ⟨zs.set q x, ?_, e3, e4.trans (by rw [hs])⟩
  apply call_pad 3 0 (vs := [some (.r 0), some (.v (.int 0)), some (.v (.int p)), none, none, none]) (cs := []) (by rfl) (by rfl) (by rfl) (hr := RetR.next)
  walk_at "st"; repeat walk_at "s"
  · exact ItR.lst (Int.natCast_nonneg _) (kf_get hp)
  · exact small_nat (by lia)
  rw [hx]
  apply ExecsR.cons; apply exec_of; apply ExecS.while
  · exact w
  walk_at "st"; repeat walk_at "s"
  · exact StR.lst (Int.natCast_nonneg _) (small_nat (by lia)) (by simpa using e1)
  rw [← kf_set]
  exact ExecsR.nil

set_option maxHeartbeats 1000000 in
theorem push_ok (n : Nat) (x : K) (xs : List K) (hz : xs.length < 64) (hh : HeapAt xs) :
    ∃ ys, (lev (n + 20)).call dPush none noV [.r 0, .v (enc x)] [(.lst (KF xs), true)] (.v .none) [(.lst (KF ys), true)] ∧ HeapAt ys ∧ ys.Perm (x :: xs) := by
  obtain ⟨k1, k2⟩ := hole_last hh x
  obtain ⟨ys, w, e1, e2⟩ := down_ok (n + 3) x xs.length (xs ++ [x]) (by simp) (by simp; lia) (by unfold fa; simp [List.getD_eq_getElem?_getD]) k1 k2
  refine ⟨ys, ?_, e1, e2.trans List.perm_append_comm⟩
  apply call_fm (vs := [some (.r 0), some (.v (enc x))]) (cs := []) (by rfl) (hr := RetR.next)
  walk_at "st"; repeat walk_at "s"
  · simp; lia
  walk_at "st"
  · apply ev_of; apply EvS.callG f_down (by with_unfolding_all rfl) (by with_unfolding_all rfl)
    · repeat walk_at "s"
      apply ev_of; apply EvS.blt (by with_unfolding_all rfl) (by with_unfolding_all rfl)
      repeat walk_at "s"
      · exact BltR.lenL (by simp; lia)
      repeat walk_at "s"
    · rfl
    · have e : (((KF xs ++ [enc x]).length : Nat) : Int) - 1 = ((xs.length : Nat) : Int) := by simp
      have hK : KF xs ++ [enc x] = KF (xs ++ [x]) := by simp
      rw [e, hK]
      exact w
    · rfl
    · rfl
  exact ExecsR.nil
end
noncomputable section
noncomputable abbrev VUp (x : K) (N pos c : Nat) (o6 : Option A) : List (Option A) := [some (.r 0), some (.v (.int pos)), some (.v (.int N)), some (.v (.int 0)), some (.v (enc x)), some (.v (.int c)), o6]
noncomputable abbrev upW : Stmt := stmtAt dUp.body 4

set_option maxHeartbeats 1000000 in
theorem up_loop (n N : Nat) (hN : N ≤ 64) (x : K) (cel : Vars) : ∀ (m p : Nat) (xs : List K) (o6 : Option A), N - p = m → p < N → xs.length = N → Hole xs p →
    ∃ k q zs c' o6', WhileR (lev (n + 12)) (whileT upW) (whileB upW) k (fm dUp.sc none (nestOf dUp.body) (VUp x N p (2 * p + 1) o6) cel) [(.lst (KF xs), true)] .next
      (fm dUp.sc none (nestOf dUp.body) (VUp x N q c' o6') cel) [(.lst (KF zs), true)] ∧ q < N ∧ N ≤ 2 * q + 1 ∧ zs.length = N ∧ Hole zs q ∧ (zs.set q x).Perm (xs.set p x) := by
  intro m
  induction m using Nat.strongRecOn with
  | ind m ih =>
  intro p xs o6 hm hp hl hh
  by_cases hc : N ≤ 2 * p + 1
  · refine ⟨0, p, xs, 2 * p + 1, o6, ?_, hp, hc, hl, hh, .refl _⟩
    apply WhileR.stop; apply test_of; apply t_cmp (by rfl)
    repeat walk_at "s"
    exact decide_eq_false (by lia)
  have htest : (lev (n + 12)).test (fm dUp.sc none (nestOf dUp.body) (VUp x N p (2 * p + 1) o6) cel) [(.lst (KF xs), true)] (whileT upW) true [(.lst (KF xs), true)] := by
    apply test_of; apply t_cmp (by rfl)
    repeat walk_at "s"
    exact decide_eq_true (by lia)
  -- the smaller child d comes up
  have step : ∀ d : Nat, (d = 2 * p + 1 ∨ d = 2 * p + 2) → d < N → (∀ i, 0 < i → i < xs.length → par i = p → KL (fa xs d) (fa xs i)) →
      (∀ {fl : Fl} {fr' : Fm} {σ' : St}, ExecsR (lev (n + 12)) ((whileB upW).drop 2) (fm dUp.sc none (nestOf dUp.body) (VUp x N p d (some (.v (.int (2 * p + 2 : Nat))))) cel) [(.lst (KF xs), true)] fl fr' σ' →
        ExecsR (lev (n + 12)) (whileB upW) (fm dUp.sc none (nestOf dUp.body) (VUp x N p (2 * p + 1) o6) cel) [(.lst (KF xs), true)] fl fr' σ') →
      ∃ k q zs c' o6', WhileR (lev (n + 12)) (whileT upW) (whileB upW) k (fm dUp.sc none (nestOf dUp.body) (VUp x N p (2 * p + 1) o6) cel) [(.lst (KF xs), true)] .next
        (fm dUp.sc none (nestOf dUp.body) (VUp x N q c' o6') cel) [(.lst (KF zs), true)] ∧ q < N ∧ N ≤ 2 * q + 1 ∧ zs.length = N ∧ Hole zs q ∧ (zs.set q x).Perm (xs.set p x) := fun d hd hdN hmin pre => by
    have hpd : par d = p := by unfold par; lia
    obtain ⟨k, q, zs, c', o6', w, e1, e2, e3, e4, e5⟩ := ih (N - d) (by lia) d (xs.set p (fa xs d)) (some (.v (.int (2 * p + 2 : Nat)))) rfl hdN (by simpa using hl) (hole_down (by lia) (by lia) (by lia) hpd hh hmin)
    refine ⟨k + 1, q, zs, c', o6', ?_, e1, e2, e3, e4, e5.trans (hole_perm (by lia) (by lia) (by lia))⟩
    apply WhileR.next htest
    · apply pre
      walk_at "st"; repeat walk_at "s"
      · exact ItR.lst (Int.natCast_nonneg _) (kf_get (by lia))
      · exact small_nat (by lia)
      repeat walk_at "s"
      · exact StR.lst (Int.natCast_nonneg _) (small_nat (by lia)) (by simp; lia)
      walk_at "st"; repeat walk_at "s"
      walk_at "st"; repeat walk_at "s"
      exact ExecsR.nil
    · rw [kf_set, show (2 : Int) * ((d : Nat) : Int) + 1 = ((2 * d + 1 : Nat) : Int) from by lia]
      exact w
  have kids : ∀ i, 0 < i → par i = p → i = 2 * p + 1 ∨ i = 2 * p + 2 := fun i h0 h => by unfold par at h; lia
  have pre0 : ∀ {fl : Fl} {fr' : Fm} {σ' : St}, ExecsR (lev (n + 12)) ((whileB upW).drop 1) (fm dUp.sc none (nestOf dUp.body) (VUp x N p (2 * p + 1) (some (.v (.int (2 * p + 2 : Nat))))) cel) [(.lst (KF xs), true)] fl fr' σ' →
        ExecsR (lev (n + 12)) (whileB upW) (fm dUp.sc none (nestOf dUp.body) (VUp x N p (2 * p + 1) o6) cel) [(.lst (KF xs), true)] fl fr' σ' := fun h => by
    walk_at "st"; repeat walk_at "s"
    rw [show (((2 * p + 1 : Nat) : Int) + 1) = ((2 * p + 2 : Nat) : Int) from by lia]
    exact h
  by_cases hr : 2 * p + 2 < N
  · have both : ∀ {z : Bool}, pairLt (fa xs (2 * p + 1)).1 (fa xs (2 * p + 1)).2 (fa xs (2 * p + 2)).1 (fa xs (2 * p + 2)).2 = z → ∀ {t : Expr} {b : List Stmt} {pos : Pos}, stmtAt (whileB upW) 1 = .If t b [] pos →
        (lev (n + 11)).test (fm dUp.sc none (nestOf dUp.body) (VUp x N p (2 * p + 1) (some (.v (.int (2 * p + 2 : Nat))))) cel) [(.lst (KF xs), true)] t (!z) [(.lst (KF xs), true)] := fun {z} hz t b pos e => by
      cases e
      apply test_of; apply TestS.all; apply AllR.go
      · repeat walk_at "s"
        exact decide_eq_true (by lia)
      · rfl
      have two : (lev (n + 10)).test (fm dUp.sc none (nestOf dUp.body) (VUp x N p (2 * p + 1) (some (.v (.int (2 * p + 2 : Nat))))) cel) [(.lst (KF xs), true)]
          (boolE (ifE (stmtAt (whileB upW) 1))) (!z) [(.lst (KF xs), true)] := by
        apply test_of; apply t_not
        · repeat walk_at "s"
          · exact ItR.lst (Int.natCast_nonneg _) (kf_get (by lia))
          · exact small_nat (by lia)
          repeat walk_at "s"
          · exact ItR.lst (Int.natCast_nonneg _) (kf_get (by lia))
          · exact small_nat (by lia)
          repeat walk_at "s"
          exact hz
        · rfl
      cases z with
      | false => exact AllR.go two rfl AllR.nil
      | true => exact AllR.stop two rfl
    cases hz : pairLt (fa xs (2 * p + 1)).1 (fa xs (2 * p + 1)).2 (fa xs (2 * p + 2)).1 (fa xs (2 * p + 2)).2 with
    | true =>
      refine step (2 * p + 1) (.inl rfl) (by lia) (fun i h0 hi h => ?_) fun h => pre0 ?_
      · rcases kids i h0 h with e | e
        · rw [e]; exact KL.refl _
        · rw [e]; exact KL.of_lt hz
      · apply ExecsR.cons; apply exec_of; apply ExecS.ifF
        · exact both hz rfl
        · exact ExecsR.nil
        exact h
    | false =>
      refine step (2 * p + 2) (.inr rfl) (by lia) (fun i h0 hi h => ?_) fun h => pre0 ?_
      · rcases kids i h0 h with e | e
        · rw [e]; exact KL.of_not hz
        · rw [e]; exact KL.refl _
      · apply ExecsR.cons; apply exec_of; apply ExecS.ifT
        · exact both hz rfl
        · walk_at "st"; repeat walk_at "s"
          exact ExecsR.nil
        exact h
  · refine step (2 * p + 1) (.inl rfl) (by lia) (fun i h0 hi h => ?_) fun h => pre0 ?_
    · rcases kids i h0 h with e | e
      · rw [e]; exact KL.refl _
      · lia
    · apply ExecsR.cons; apply exec_of; apply ExecS.ifF
      · apply test_of; apply TestS.all; apply AllR.stop
        · repeat walk_at "s"
          exact decide_eq_false (by lia)
        · rfl
      · exact ExecsR.nil
      exact h

set_option maxHeartbeats 1000000 in
/-- _siftup(heap, 0): what stands at the root finds its place -/
theorem up_ok (n : Nat) (x : K) (xs : List K) (h0 : 0 < xs.length) (hz : xs.length ≤ 64) (hx : fa xs 0 = x) (hh : Hole xs 0) :
    ∃ ys, (lev (n + 20)).call dUp none noV [.r 0, .v (.int 0)] [(.lst (KF xs), true)] (.v .none) [(.lst (KF ys), true)] ∧ HeapAt ys ∧ ys.Perm xs := by
  obtain ⟨k, q, zs, c', o6, w, e1, e2, e3, e4, e5⟩ := up_loop (n + 6) xs.length hz x (slot dUp.sc.names []) _ 0 xs none rfl h0 rfl hh
  have hq : q < zs.length := by lia
  have he : Hole (zs.set q x) q := by
    have hlt : ∀ i, par i = q → 0 < i → q < i := fun i h h0 => by rw [← h]; exact par_lt h0
    refine ⟨fun i i0 hi n1 n2 => ?_, fun q0 i i0 hi h => ?_⟩
    · rw [List.length_set] at hi
      rw [fa_set hq, fa_set hq, if_neg n1, if_neg n2]
      exact e4.a i i0 hi n1 n2
    · rw [List.length_set] at hi; unfold par at h; lia
  obtain ⟨ys, d, d1, d2⟩ := down_ok (n + 3) x q (zs.set q x) (by simpa using hq) (by simp; lia) (by rw [fa_set hq, if_pos rfl]) he (under_end (by simp; lia))
  have hs : xs.set 0 x = xs := by
    rw [← hx]
    have := fa_get h0
    rw [List.getElem?_eq_getElem h0] at this
    rw [← Option.some.inj this]; exact List.set_getElem_self h0
  refine ⟨ys, ?_, d1, d2.trans (e5.trans (by rw [hs]))⟩
  apply call_pad 5 0 (vs := [some (.r 0), some (.v (.int 0)), none, none, none, none, none]) (cs := []) (by rfl) (by rfl) (by rfl) (hr := RetR.next)
  walk_at "st"
  · apply ev_of; apply EvS.blt (by with_unfolding_all rfl) (by with_unfolding_all rfl)
    repeat walk_at "s"
    exact BltR.lenL (by simp; lia)
  rw [List.length_map]
  walk_at "st"; repeat walk_at "s"
  walk_at "st"; repeat walk_at "s"
  · exact ItR.lst (i := ((0 : Nat) : Int)) (Int.natCast_nonneg _) (kf_get h0)
  · decide
  rw [hx]
  walk_at "st"; repeat walk_at "s"
  apply ExecsR.cons; apply exec_of; apply ExecS.while
  · exact w
  walk_at "st"; repeat walk_at "s"
  · exact StR.lst (Int.natCast_nonneg _) (small_nat (by lia)) (by simpa using hq)
  rw [show ([(F.lst (KF zs), true)].set 0 (F.lst ((KF zs).set ((q : Nat) : Int).toNat (enc x)), true)) = [(F.lst (KF (zs.set q x)), true)] from by rw [kf_set]; rfl]
  walk_at "st"
  · apply ev_of; apply EvS.callG f_down (by with_unfolding_all rfl) (by with_unfolding_all rfl)
    · repeat walk_at "s"
    · rfl
    · exact d
    · rfl
    · rfl
  exact ExecsR.nil

set_option maxHeartbeats 1000000 in
/-- heappop: the least of them -/
theorem pop_ok (n : Nat) (xs : List K) (h0 : 0 < xs.length) (hz : xs.length ≤ 64) (hh : HeapAt xs) :
    ∃ ys, (lev (n + 30)).call dPop none noV [.r 0] [(.lst (KF xs), true)] (.v (enc (fa xs 0))) [(.lst (KF ys), true)] ∧ HeapAt ys ∧ (fa xs 0 :: ys).Perm xs ∧ ∀ z ∈ xs, KL (fa xs 0) z := by
  have hmin : ∀ z ∈ xs, KL (fa xs 0) z := fun z hz => by
    obtain ⟨i, hi, rfl⟩ := List.mem_iff_getElem.mp hz
    have := fa_get hi
    rw [List.getElem?_eq_getElem hi] at this
    rw [Option.some.inj this]
    exact heap_min hh i hi
  obtain ⟨ts, l, rfl⟩ : ∃ ts l, xs = ts ++ [l] := ⟨xs.dropLast, xs.getLast (by intro q; rw [q] at h0; simp at h0), (List.dropLast_concat_getLast _).symm⟩
  have hpop : ∀ {fl : Fl} {fr' : Fm} {σ' : St}, ExecsR (lev (n + 29)) (dPop.body.drop 1) (fm dPop.sc none (nestOf dPop.body) [some (.r 0), some (.v (enc l)), none] (slot dPop.sc.names [])) [(.lst (KF ts), true)] fl fr' σ' →
      ExecsR (lev (n + 29)) dPop.body (fm dPop.sc none (nestOf dPop.body) [some (.r 0), none, none] (slot dPop.sc.names [])) [(.lst (KF (ts ++ [l])), true)] fl fr' σ' := fun h => by
    walk_at "st"
    · walk_at "s"
      · walk_at "s"
      · rfl
      · exact MutR.pop (by simp at hz ⊢; lia) (by simp : (KF (ts ++ [l])).getLast? = some (enc l))
    have e : (KF (ts ++ [l])).dropLast = KF ts := by simp
    rw [e]
    exact h
  cases ts with
  | nil =>
    refine ⟨[], ?_, fun i i0 hi => by simp at hi, .refl _, hmin⟩
    apply call_pad 2 0 (vs := [some (.r 0), none, none]) (cs := []) (by rfl) (by rfl) (by rfl) (hr := RetR.ret)
    apply hpop
    apply ExecsR.cons; apply exec_of; apply ExecS.ifF
    · repeat walk_at "s"
      · exact TruR.lst (by simp)
      · rfl
    · exact ExecsR.nil
    apply x_ret; repeat walk_at "s"
  | cons y t =>
    simp only [List.cons_append, List.length_cons, List.length_append, List.length_nil] at hz
    have hd := heap_drop hh
    rw [List.dropLast_concat] at hd
    obtain ⟨ys, u, u1, u2⟩ := up_ok (n + 6) l ((y :: t).set 0 l) (by simp) (by simp; lia) (by rw [fa_set (by simp)]; rfl) (hole_root hd l)
    refine ⟨ys, ?_, u1, ?_, hmin⟩
    · rw [show fa (y :: t ++ [l]) 0 = fa (y :: t) 0 from rfl]
      apply call_pad 2 0 (vs := [some (.r 0), none, none]) (cs := []) (by rfl) (by rfl) (by rfl) (hr := RetR.ret)
      apply hpop
      apply x_ret; apply exec_of; apply ExecS.ifT
      · repeat walk_at "s"
        · exact TruR.lst (by simp; lia)
        · rfl
      walk_at "st"; repeat walk_at "s"
      · exact ItR.lst (i := ((0 : Nat) : Int)) (Int.natCast_nonneg _) (kf_get (by simp))
      · decide
      walk_at "st"; repeat walk_at "s"
      · exact StR.lst (i := ((0 : Nat) : Int)) (Int.natCast_nonneg _) (by decide) (by simp)
      rw [show ([(F.lst (KF (y :: t)), true)].set 0 (F.lst ((KF (y :: t)).set ((0 : Nat) : Int).toNat (enc l)), true)) = [(F.lst (KF ((y :: t).set 0 l)), true)] from rfl]
      walk_at "st"
      · apply ev_of; apply EvS.callG f_up (by with_unfolding_all rfl) (by with_unfolding_all rfl)
        · repeat walk_at "s"
        · rfl
        · exact u
        · rfl
        · rfl
      show ExecsR _ _ _ [(F.lst (KF ys), true)] _ _ _
      apply x_ret; repeat walk_at "s"
    · refine (u2.cons _).trans ?_
      show (y :: l :: t).Perm (y :: (t ++ [l]))
      exact (List.perm_append_comm (l₁ := [l]) (l₂ := t)).cons y
end
noncomputable section
/-! ## dicts of ints -/
noncomputable abbrev DI := List (Int × Int)
noncomputable abbrev DF (l : DI) : List (Int × F) := l.map fun p => (p.1, .int p.2)
noncomputable def dgi (k : Int) : DI → Option Int
  | [] => none
  | (j, x) :: r => if k = j then some x else dgi k r
noncomputable def dsi (k x : Int) : DI → DI
  | [] => [(k, x)]
  | (j, y) :: r => if k = j then (j, x) :: r else (j, y) :: dsi k x r
theorem dget_df (k : Int) : ∀ l : DI, dget k (DF l) = (dgi k l).map .int
  | [] => rfl
  | (j, x) :: r => by
    have := dget_df k r
    simp only [DF, List.map_cons, dget, dgi] at *
    split
    · rfl
    · exact this
theorem dset_df (k x : Int) : ∀ l : DI, dset k (.int x) (DF l) = DF (dsi k x l)
  | [] => rfl
  | (j, y) :: r => by
    have := dset_df k x r
    simp only [DF, List.map_cons, dset, dsi] at *
    split
    · rfl
    · rw [this]; rfl
theorem dsi_keys (k x : Int) : ∀ l : DI, (dsi k x l).map (·.1) = if (dgi k l).isSome then l.map (·.1) else l.map (·.1) ++ [k]
  | [] => rfl
  | (j, y) :: r => by
    have := dsi_keys k x r
    simp only [dsi, dgi]
    split
    · simp
    · simp only [List.map_cons, this]; split <;> rfl
theorem dsi_len (k x : Int) (l : DI) : (dsi k x l).length ≤ l.length + 1 := by
  have h := congrArg List.length (dsi_keys k x l)
  simp only [List.length_map] at h
  rw [h]; split <;> simp
theorem dgi_none {k : Int} : ∀ {l : DI}, dgi k l = none → k ∉ l.map (·.1)
  | [], _ => by simp
  | (j, y) :: r, h => by
    simp only [dgi] at h
    split at h
    · cases h
    · rename_i hk
      simp only [List.map_cons, List.mem_cons, not_or]
      exact ⟨hk, dgi_none h⟩
theorem dgi_mem {k : Int} : ∀ {l : DI}, k ∉ l.map (·.1) → dgi k l = none
  | [], _ => rfl
  | (j, y) :: r, h => by
    simp only [List.map_cons, List.mem_cons, not_or] at h
    simp only [dgi, if_neg h.1]
    exact dgi_mem h.2
theorem dsi_new {k x : Int} : ∀ {l : DI}, k ∉ l.map (·.1) → dsi k x l = l ++ [(k, x)]
  | [], _ => rfl
  | (j, y) :: r, h => by
    simp only [List.map_cons, List.mem_cons, not_or] at h
    simp only [dsi, if_neg h.1, dsi_new h.2, List.cons_append]
theorem dsi_nodup {k x : Int} {l : DI} (h : (l.map (·.1)).Nodup) : ((dsi k x l).map (·.1)).Nodup := by
  rw [dsi_keys]
  split
  · exact h
  · rename_i hn
    have := dgi_none (k := k) (l := l) (by simpa using hn)
    rw [List.nodup_append]
    exact ⟨h, by simp, fun a ha b hb => by simp at hb; subst hb; exact fun e => this (e ▸ ha)⟩
theorem dgi_dsi (k j x : Int) : ∀ l : DI, dgi j (dsi k x l) = if j = k then some x else dgi j l
  | [] => by simp only [dsi, dgi]
  | (i, y) :: r => by
    have := dgi_dsi k j x r
    simp only [dsi]
    by_cases hk : k = i
    · subst hk
      rw [if_pos rfl]
      simp only [dgi]
      split <;> rfl
    · rw [if_neg hk]
      simp only [dgi, this]
      by_cases hj : j = i
      · rw [if_pos hj, if_pos hj, if_neg (fun e => hk (e.symm.trans hj))]
      · rw [if_neg hj, if_neg hj]
/-- what add_callers does -/
noncomputable def addD (t s : DI) : DI := s.foldl (fun d p => dsi p.1 ((dgi p.1 d).getD 0 + p.2) d) t
theorem copyD : ∀ (t d : DI), ((d ++ t).map (·.1)).Nodup → t.foldl (fun d p => dsi p.1 p.2 d) d = d ++ t
  | [], d, _ => by simp
  | (k, x) :: t, d, h => by
    simp only [List.foldl_cons]
    have hk : k ∉ d.map (·.1) := by
      rw [List.map_append, List.nodup_append] at h
      exact fun q => h.2.2 k q k (by simp) rfl
    rw [dsi_new hk, copyD t (d ++ [(k, x)]) (by simpa using h)]
    simp

theorem cat_get {τ : St} {N : Nat} {c : F × Bool} (h : τ.length = N) : (τ ++ [c])[N]? = some c := by subst h; simp
theorem cat_set {τ : St} {N : Nat} {c c' : F × Bool} (h : τ.length = N) : (τ ++ [c]).set N c' = τ ++ [c'] := by subst h; simp

noncomputable abbrev addF1 : Stmt := stmtAt dAdd.body 1
noncomputable abbrev addF2 : Stmt := stmtAt dAdd.body 2
noncomputable abbrev VAdd (a1 a2 : A) (N : Nat) (o3 o4 : Option A) : List (Option A) := [some a1, some a2, some (.r N), o3, o4]

set_option maxHeartbeats 1000000 in
theorem add_loop1 (n : Nat) (a1 a2 : A) (cel : Vars) (N : Nat) (τ : St) (hN : τ.length = N) : ∀ (t d : DI) (o3 o4 : Option A), d.length + t.length ≤ 4000 →
    ∃ o3' o4', ForR (lev (n + 10)) (forT addF1) (forB addF1) (t.map fun p => .tup [.int p.1, .int p.2]) (fm dAdd.sc none (nestOf dAdd.body) (VAdd a1 a2 N o3 o4) cel) (τ ++ [(.dct (DF d), true)]) .next
      (fm dAdd.sc none (nestOf dAdd.body) (VAdd a1 a2 N o3' o4') cel) (τ ++ [(.dct (DF (t.foldl (fun d p => dsi p.1 p.2 d) d)), true)])
  | [], d, o3, o4, _ => ⟨o3, o4, .nil⟩
  | (k, x) :: t, d, o3, o4, h => by
    simp only [List.length_cons] at h
    have := dsi_len k x d
    obtain ⟨o3', o4', ih⟩ := add_loop1 n a1 a2 cel N τ hN t (dsi k x d) (some (.v (.int k))) (some (.v (.int x))) (by lia)
    refine ⟨o3', o4', ?_⟩
    apply ForR.next
    · exact b_tup2 ⟨by rfl, by rfl⟩ ⟨by rfl, by rfl⟩
    · walk_at "st"; repeat walk_at "s"
      · exact cat_get hN
      · exact StR.dct (by simp; lia)
      exact ExecsR.nil
    · rw [cat_set hN, dset_df]; exact ih

set_option maxHeartbeats 1000000 in
theorem add_loop2 (n : Nat) (a1 a2 : A) (cel : Vars) (N : Nat) (τ : St) (hN : τ.length = N) : ∀ (s d : DI) (o3 o4 : Option A), d.length + s.length ≤ 4000 →
    ∃ o3' o4', ForR (lev (n + 10)) (forT addF2) (forB addF2) (s.map fun p => .tup [.int p.1, .int p.2]) (fm dAdd.sc none (nestOf dAdd.body) (VAdd a1 a2 N o3 o4) cel) (τ ++ [(.dct (DF d), true)]) .next
      (fm dAdd.sc none (nestOf dAdd.body) (VAdd a1 a2 N o3' o4') cel) (τ ++ [(.dct (DF (addD d s)), true)])
  | [], d, o3, o4, _ => ⟨o3, o4, .nil⟩
  | (k, x) :: s, d, o3, o4, h => by
    simp only [List.length_cons] at h
    have := dsi_len k ((dgi k d).getD 0 + x) d
    obtain ⟨o3', o4', ih⟩ := add_loop2 n a1 a2 cel N τ hN s (dsi k ((dgi k d).getD 0 + x) d) (some (.v (.int k))) (some (.v (.int x))) (by lia)
    refine ⟨o3', o4', ?_⟩
    have hget : (A.r N).get (τ ++ [(F.dct (DF d), true)]) = some (.dct (DF d)) := by
      show ((τ ++ [(F.dct (DF d), true)])[N]?).map (·.1) = _
      rw [cat_get hN]; rfl
    have body : ExecsR (lev (n + 10)) (forB addF2) (fm dAdd.sc none (nestOf dAdd.body) (VAdd a1 a2 N (some (.v (.int k))) (some (.v (.int x)))) cel) (τ ++ [(.dct (DF d), true)]) .next
        (fm dAdd.sc none (nestOf dAdd.body) (VAdd a1 a2 N (some (.v (.int k))) (some (.v (.int x)))) cel) (τ ++ [(.dct (DF (dsi k ((dgi k d).getD 0 + x) d)), true)]) := by
      cases hg : dgi k d with
      | some u =>
        have e : τ ++ [(F.dct (DF (dsi k ((some u).getD 0 + x) d)), true)] = (τ ++ [(F.dct (DF d), true)]).set N (.dct (dset k (.int (u + x)) (DF d)), true) := by rw [cat_set hN, dset_df]; rfl
        rw [e]
        apply ExecsR.cons; apply exec_of; apply ExecS.ifT
        · apply test_of; apply t_cmp (by rfl)
          · walk_at "s"
          · walk_at "s"
          · rfl
          · exact hget
          · exact CmpR.ind
          · rw [dget_df, hg]; rfl
        · apply ExecsR.cons; apply exec_of; apply ExecS.ifF
          · apply test_of; apply t_plain (by rfl)
            · apply ev_of; apply EvS.isinst (by rfl) (by rfl) (by rfl)
              walk_at "s"
            · rfl
            · exact TruR.bool
            · rfl
          · apply ExecsR.cons; apply exec_of; apply ExecS.augI
            · walk_at "s"
            · walk_at "s"
            · exact hget
            · rw [dget_df, hg]; rfl
            · walk_at "s"
            · exact cat_get hN
            · simp; lia
            exact ExecsR.nil
          exact ExecsR.nil
        exact ExecsR.nil
      | none =>
        have e : τ ++ [(F.dct (DF (dsi k ((none : Option Int).getD 0 + x) d)), true)] = (τ ++ [(F.dct (DF d), true)]).set N (.dct (dset k (.int x) (DF d)), true) := by
          rw [cat_set hN, dset_df, show (none : Option Int).getD 0 + x = x from by simp]
        rw [e]
        apply ExecsR.cons; apply exec_of; apply ExecS.ifF
        · apply test_of; apply t_cmp (by rfl)
          · walk_at "s"
          · walk_at "s"
          · rfl
          · exact hget
          · exact CmpR.ind
          · rw [dget_df, hg]; rfl
        · walk_at "st"; repeat walk_at "s"
          · exact cat_get hN
          · exact StR.dct (by simp; lia)
          exact ExecsR.nil
        exact ExecsR.nil
    apply ForR.next
    · exact b_tup2 ⟨by rfl, by rfl⟩ ⟨by rfl, by rfl⟩
    · exact body
    · exact ih

set_option maxHeartbeats 1000000 in
theorem add_ok (n : Nat) (a1 a2 : A) (N : Nat) (τ τ1 τ2 : St) (t s : DI) (h0 : τ.length = N) (h1 : τ1.length = N) (h2 : τ2.length = N) (f1 : ∀ c, a1.fz (τ ++ [c]) = some (.dct (DF t), τ1 ++ [c])) (f2 : ∀ c, a2.fz (τ1 ++ [c]) = some (.dct (DF s), τ2 ++ [c]))
    (hn : (t.map (·.1)).Nodup) (hl : t.length + s.length ≤ 4000) :
    (lev (n + 12)).call dAdd none noV [a1, a2] τ (.r N) (τ2 ++ [(.dct (DF (addD t s)), true)]) := by
  obtain ⟨o3, o4, l1⟩ := add_loop1 n a1 a2 (slot dAdd.sc.names []) N τ1 h1 t [] none none (by simp; lia)
  obtain ⟨o3', o4', l2⟩ := add_loop2 n a1 a2 (slot dAdd.sc.names []) N τ2 h2 s t o3 o4 hl
  rw [copyD t [] (by simpa using hn), List.nil_append] at l1
  have e : ∀ l : DI, l.map (fun p => F.tup [.int p.1, .int p.2]) = (DF l).map fun p => .tup [.int p.1, p.2] := fun l => by simp [DF]
  rw [e] at l1 l2
  apply call_pad 3 0 (vs := [some a1, some a2, none, none, none]) (cs := []) (by rfl) (by rfl) (by rfl) (hr := RetR.ret)
  walk_at "st"; repeat walk_at "s"
  rw [h0]
  apply ExecsR.cons; apply exec_of; apply ExecS.for (by with_unfolding_all rfl)
  · apply iter_of; apply IterS.items (by with_unfolding_all rfl) (by with_unfolding_all rfl)
    · walk_at "s"
    · exact f1 _
  · exact l1
  apply ExecsR.cons; apply exec_of; apply ExecS.for (by with_unfolding_all rfl)
  · apply iter_of; apply IterS.items (by with_unfolding_all rfl) (by with_unfolding_all rfl)
    · walk_at "s"
    · exact f2 _
  · exact l2
  apply x_ret; repeat walk_at "s"

noncomputable abbrev cntF : Stmt := stmtAt dCount.body 1
theorem count_loop (n : Nat) (a : A) (cel : Vars) (σ : St) : ∀ (l : List Int) (c : Int) (o2 : Option A),
    ∃ o2', ForR (lev (n + 10)) (forT cntF) (forB cntF) (l.map .int) (fm dCount.sc none (nestOf dCount.body) [some a, some (.v (.int c)), o2] cel) σ .next (fm dCount.sc none (nestOf dCount.body) [some a, some (.v (.int (c + l.sum))), o2'] cel) σ
  | [], c, o2 => ⟨o2, by rw [List.sum_nil, Int.add_zero]; exact .nil⟩
  | x :: l, c, o2 => by
    obtain ⟨o2', ih⟩ := count_loop n a cel σ l (c + x) (some (.v (.int x)))
    refine ⟨o2', ?_⟩
    rw [List.sum_cons, ← Int.add_assoc]
    apply ForR.next
    · exact b_loc ⟨by rfl, by rfl⟩
    · apply ExecsR.cons; apply exec_of; apply ExecS.aug (by with_unfolding_all rfl)
      · apply get_loc ⟨by rfl, by rfl⟩; rfl
      · walk_at "s"
      · exact set_loc ⟨by rfl, by rfl⟩
      exact ExecsR.nil
    · exact ih
theorem count_ok (n : Nat) (a : A) (σ σ' : St) (d : DI) (f : a.fz σ = some (.dct (DF d), σ')) :
    (lev (n + 12)).call dCount none noV [a] σ (.v (.int (d.map (·.2)).sum)) σ' := by
  obtain ⟨o2, l⟩ := count_loop n a (slot dCount.sc.names []) σ' (d.map (·.2)) 0 none
  rw [Int.zero_add] at l
  have e : (d.map (·.2)).map F.int = (DF d).map (·.2) := by simp [DF]
  rw [e] at l
  apply call_pad 2 0 (vs := [some a, none, none]) (cs := []) (by rfl) (by rfl) (by rfl) (hr := RetR.ret)
  walk_at "st"; repeat walk_at "s"
  apply ExecsR.cons; apply exec_of; apply ExecS.for (by with_unfolding_all rfl)
  · apply iter_of; apply IterS.values (by with_unfolding_all rfl)
    · walk_at "s"
    · exact f
  · exact l
  apply x_ret; repeat walk_at "s"
end
noncomputable section
theorem addD_nodup : ∀ {s t : DI}, (t.map (·.1)).Nodup → ((addD t s).map (·.1)).Nodup
  | [], _, h => h
  | p :: s, t, h => by
    show ((addD (dsi p.1 ((dgi p.1 t).getD 0 + p.2) t) s).map (·.1)).Nodup
    exact addD_nodup (dsi_nodup h)
theorem addD_len : ∀ (s t : DI), (addD t s).length ≤ t.length + s.length
  | [], t => by simp [addD]
  | p :: s, t => by
    have := dsi_len p.1 ((dgi p.1 t).getD 0 + p.2) t
    have := addD_len s (dsi p.1 ((dgi p.1 t).getD 0 + p.2) t)
    simp only [List.length_cons]
    show (addD (dsi p.1 ((dgi p.1 t).getD 0 + p.2) t) s).length ≤ _
    lia

/-- a dict of ints, in the store or as it is -/
inductive TabA (σ : St) (t : DI) : A → Prop
  | v : TabA σ t (.v (.dct (DF t)))
  | r {k : Nat} {b : Bool} : σ[k]? = some (.dct (DF t), b) → TabA σ t (.r k)

theorem addCall (n : Nat) (σ : St) (x y : A) (t s : DI) (hx : TabA σ t x) (hy : TabA σ s y) (hne : ∀ k, x = .r k → y ≠ .r k) (hn : (t.map (·.1)).Nodup) (hl : t.length + s.length ≤ 4000) :
    ∃ as' τ b a τ' σ2, pack σ [x, y] 0 = some (as', τ, b) ∧ (lev (n + 12)).call dAdd none noV as' τ a τ' ∧ handBack τ' b a = some (.v (.dct (DF (addD t s)))) ∧ unpack σ τ' b = some σ2 ∧ σ2.length = σ.length ∧ ∀ j, x ≠ .r j → y ≠ .r j → σ2[j]? = σ[j]? := by
  cases hx with
  | v =>
    cases hy with
    | v => exact ⟨_, _, _, _, _, σ, rfl, add_ok n _ _ 0 [] [] [] t s rfl rfl rfl (fun _ => rfl) (fun _ => rfl) hn hl, rfl, rfl, rfl, fun _ _ _ => rfl⟩
    | r e =>
      rename_i k b
      refine ⟨[.v (.dct (DF t)), .r 0], [(.dct (DF s), b)], [k], _, _, σ.set k (.dct (DF s), false), ?_, add_ok n _ _ 1 [(.dct (DF s), b)] [(.dct (DF s), b)] [(.dct (DF s), false)] t s rfl rfl rfl (fun _ => rfl) (fun _ => rfl) hn hl, rfl, rfl, by simp, fun j _ h => ?_⟩
      · simp only [pack, e]; rfl
      · exact List.getElem?_set_ne (fun q => h (by rw [q]))
  | r e =>
    rename_i k b
    cases hy with
    | v =>
      refine ⟨[.r 0, .v (.dct (DF s))], [(.dct (DF t), b)], [k], _, _, σ.set k (.dct (DF t), false), ?_, add_ok n _ _ 1 [(.dct (DF t), b)] [(.dct (DF t), false)] [(.dct (DF t), false)] t s rfl rfl rfl (fun _ => rfl) (fun _ => rfl) hn hl, rfl, rfl, by simp, fun j h _ => ?_⟩
      · simp only [pack, e]; rfl
      · exact List.getElem?_set_ne (fun q => h (by rw [q]))
    | r e' =>
      rename_i k' b'
      have hk : k ≠ k' := fun q => hne k rfl (by rw [q])
      refine ⟨[.r 0, .r 1], [(.dct (DF t), b), (.dct (DF s), b')], [k, k'], _, _, (σ.set k (.dct (DF t), false)).set k' (.dct (DF s), false), ?_, add_ok n _ _ 2 [(.dct (DF t), b), (.dct (DF s), b')] [(.dct (DF t), false), (.dct (DF s), b')] [(.dct (DF t), false), (.dct (DF s), false)] t s rfl rfl rfl (fun _ => rfl) (fun _ => rfl) hn hl, rfl, rfl, by simp, fun j h h' => ?_⟩
      · simp only [pack, e, e']
        simp [hk]
      · rw [List.getElem?_set_ne (fun q => h' (by rw [q])), List.getElem?_set_ne (fun q => h (by rw [q]))]

/-! ## _law_counts -/
noncomputable def keyD (p : Nat) (rest k : Int) : Int := k - k.fmod p + p + (k + rest).fmod p
noncomputable def moreD (p : Nat) (rest : Int) (t m : DI) : DI := t.foldl (fun m q => if q.1 < (p : Int) * p then dsi (keyD p rest q.1) q.2 m else m) m
noncomputable def stepD (p : Nat) (t : DI) (x : Int) : DI := addD t (moreD p (x.fmod p) t [])
theorem moreD_len (p : Nat) (rest : Int) : ∀ (t m : DI), (moreD p rest t m).length ≤ m.length + t.length
  | [], m => by simp [moreD]
  | q :: t, m => by
    have h := moreD_len p rest t (if q.1 < (p : Int) * p then dsi (keyD p rest q.1) q.2 m else m)
    have h2 := dsi_len (keyD p rest q.1) q.2 m
    show (moreD p rest t _).length ≤ _
    simp only [List.length_cons]
    split at h <;> split <;> lia
theorem stepD_len (p : Nat) (t : DI) (x : Int) : (stepD p t x).length ≤ 2 * t.length := by
  have h := addD_len (moreD p (x.fmod p) t []) t
  have := moreD_len p (x.fmod p) t []
  unfold stepD
  simp at this; lia

noncomputable abbrev tabF : Stmt := stmtAt dTab.body 1
noncomputable abbrev tabG : Stmt := stmtAt (forB tabF) 2
noncomputable abbrev VTab (xs p ta : A) (o3 o4 o5 o6 o7 : Option A) : List (Option A) := [some xs, some p, some ta, o3, o4, o5, o6, o7]

set_option maxHeartbeats 1000000 in
theorem more_loop (n p : Nat) (hp0 : (p : Int) ≠ 0) (hp1 : (p : Int).natAbs < 1000000) (hps : small (p : Int) = true) (rest : Int) (xs ta x : A) (cel : Vars) (N : Nat) (τ : St) (hN : τ.length = N) : ∀ (t m : DI) (o6 o7 : Option A), m.length + t.length ≤ 4000 →
    ∃ o6' o7', ForR (lev (n + 14)) (forT tabG) (forB tabG) (t.map fun q => .tup [.int q.1, .int q.2]) (fm dTab.sc none (nestOf dTab.body) (VTab xs (.v (.int p)) ta (some x) (some (.v (.int rest))) (some (.r N)) o6 o7) cel) (τ ++ [(.dct (DF m), true)]) .next
      (fm dTab.sc none (nestOf dTab.body) (VTab xs (.v (.int p)) ta (some x) (some (.v (.int rest))) (some (.r N)) o6' o7') cel) (τ ++ [(.dct (DF (moreD p rest t m)), true)])
  | [], m, o6, o7, _ => ⟨o6, o7, .nil⟩
  | (k, v) :: t, m, o6, o7, h => by
    simp only [List.length_cons] at h
    have h2 := dsi_len (keyD p rest k) v m
    obtain ⟨o6', o7', ih⟩ := more_loop n p hp0 hp1 hps rest xs ta x cel N τ hN t (if k < (p : Int) * p then dsi (keyD p rest k) v m else m) (some (.v (.int k))) (some (.v (.int v))) (by split <;> lia)
    refine ⟨o6', o7', ?_⟩
    have body : ExecsR (lev (n + 14)) (forB tabG) (fm dTab.sc none (nestOf dTab.body) (VTab xs (.v (.int p)) ta (some x) (some (.v (.int rest))) (some (.r N)) (some (.v (.int k))) (some (.v (.int v)))) cel) (τ ++ [(.dct (DF m), true)]) .next
        (fm dTab.sc none (nestOf dTab.body) (VTab xs (.v (.int p)) ta (some x) (some (.v (.int rest))) (some (.r N)) (some (.v (.int k))) (some (.v (.int v)))) cel) (τ ++ [(.dct (DF (if k < (p : Int) * p then dsi (keyD p rest k) v m else m)), true)]) := by
      by_cases hk : k < (p : Int) * p
      · have e : τ ++ [(F.dct (DF (if k < (p : Int) * p then dsi (keyD p rest k) v m else m)), true)] = (τ ++ [(F.dct (DF m), true)]).set N (.dct (dset (keyD p rest k) (.int v) (DF m)), true) := by rw [cat_set hN, dset_df, if_pos hk]
        rw [e]
        apply ExecsR.cons; apply exec_of; apply ExecS.ifT
        · repeat walk_at "s"
          exact decide_eq_true hk
        · walk_at "st"; repeat walk_at "s"
          · exact cat_get hN
          · exact StR.dct (by simp; lia)
          exact ExecsR.nil
        exact ExecsR.nil
      · rw [if_neg hk]
        apply ExecsR.cons; apply exec_of; apply ExecS.ifF
        · repeat walk_at "s"
          exact decide_eq_false hk
        · exact ExecsR.nil
        exact ExecsR.nil
    apply ForR.next
    · exact b_tup2 ⟨by rfl, by rfl⟩ ⟨by rfl, by rfl⟩
    · exact body
    · exact ih

noncomputable def tabD (p : Nat) (t : DI) (xs : List Int) : DI := xs.foldl (stepD p) t

set_option maxHeartbeats 1000000 in
/-- one number -/
theorem tab_turn (n p : Nat) (hp : Pr p) (xs ta : A) (cel : Vars) (x : Int) (hx1 : -256 ≤ x) (hx2 : x < 256) (σ : St) (t : DI) (ht : TabA σ t ta) (hn : (t.map (·.1)).Nodup) (hl : t.length ≤ 1000) (o4 o5 o6 o7 : Option A) :
    ∃ o4' o5' o6' o7' σ', ExecsR (lev (n + 130)) (forB tabF) (fm dTab.sc none (nestOf dTab.body) (VTab xs (.v (.int p)) ta (some (.v (.int x))) o4 o5 o6 o7) cel) σ .next
      (fm dTab.sc none (nestOf dTab.body) (VTab xs (.v (.int p)) (.v (.dct (DF (stepD p t x)))) (some (.v (.int x))) o4' o5' o6' o7') cel) σ' := by
  have p2 := hp.two
  have p5 := hp.five
  have hp0 : (p : Int) ≠ 0 := by lia
  have hp1 : (p : Int).natAbs < 1000000 := by lia
  have hps : small (p : Int) = true := by simp only [small, Int.natAbs_natCast, decide_eq_true_eq]; lia
  obtain ⟨σd, hd⟩ := div_ok p hp.h (n + 7) x hx1 hx2
  -- the table as it is gone through
  obtain ⟨σ1, f1, l1, ht1⟩ : ∃ σ1, (∀ c, ta.fz (σ ++ [c]) = some (.dct (DF t), σ1 ++ [c])) ∧ σ1.length = σ.length ∧ ∀ c, TabA (σ1 ++ [c]) t ta := by
    cases ht with
    | v => exact ⟨σ, fun _ => rfl, rfl, fun _ => .v⟩
    | r e =>
      rename_i k b
      have hk := (List.getElem?_eq_some_iff.mp e).1
      refine ⟨σ.set k (.dct (DF t), false), fun c => ?_, by simp, fun c => .r (b := false) ?_⟩
      · simp only [A.fz, List.getElem?_append_left hk, e]
        rw [List.set_append_left _ _ hk]
      · rw [List.getElem?_append_left (by simpa using hk), List.getElem?_set_self hk]
  obtain ⟨o6', o7', lp⟩ := more_loop (n + 115) p hp0 hp1 hps (x.fmod p) xs ta (.v (.int x)) cel σ.length σ1 l1 t [] o6 o7 (by simp; lia)
  have e : t.map (fun p => F.tup [.int p.1, .int p.2]) = (DF t).map fun p => .tup [.int p.1, p.2] := by simp [DF]
  rw [e] at lp
  have hml := moreD_len p (x.fmod p) t []
  obtain ⟨as', τ, b, a, τ', σ2, c1, c2, c3, c4, c5, c6⟩ := addCall (n + 116) (σ1 ++ [(.dct (DF (moreD p (x.fmod p) t [])), true)]) ta (.r σ.length) t (moreD p (x.fmod p) t []) (ht1 _) (.r (cat_get l1))
    (fun k hk q => by
      subst hk
      cases q
      cases ht with
      | r e => have := (List.getElem?_eq_some_iff.mp e).1; lia) hn (by simp at hml; lia)
  refine ⟨some (.v (.int (x.fmod p))), some (.r σ.length), o6', o7', σ2, ?_⟩
  walk_at "st"
  · walk_at "s"
    · apply ev_of; apply EvS.callG f_div (by with_unfolding_all rfl) (by with_unfolding_all rfl)
      · repeat walk_at "s"
      · rfl
      · exact hd
      · rfl
      · exact unpack_nil
    · walk_at "s"
    · rfl
    · exact ItR.tup (x := .int (x.fmod p)) (by decide) rfl
    · decide
  walk_at "st"; repeat walk_at "s"
  apply ExecsR.cons; apply exec_of; apply ExecS.for (by with_unfolding_all rfl)
  · apply iter_of; apply IterS.items (by with_unfolding_all rfl) (by with_unfolding_all rfl)
    · walk_at "s"
    · exact f1 _
  · exact lp
  walk_at "st"
  · apply ev_of; apply EvS.callG f_add (by with_unfolding_all rfl) (by with_unfolding_all rfl)
    · repeat walk_at "s"
    · exact c1
    · exact c2
    · exact c3
    · exact c4
  exact ExecsR.nil

theorem stepD_nodup {p : Nat} {t : DI} {x : Int} (h : (t.map (·.1)).Nodup) : ((stepD p t x).map (·.1)).Nodup := addD_nodup h

theorem tab_loop (n p : Nat) (hp : Pr p) (xs : A) (cel : Vars) : ∀ (ys : List Int) (ta : A) (σ : St) (t : DI) (o3 o4 o5 o6 o7 : Option A), (∀ y ∈ ys, -256 ≤ y ∧ y < 256) → TabA σ t ta → (t.map (·.1)).Nodup → t.length * 2 ^ ys.length ≤ 1000 →
    ∃ ta' o3' o4' o5' o6' o7' σ', ForR (lev (n + 130)) (forT tabF) (forB tabF) (ys.map .int) (fm dTab.sc none (nestOf dTab.body) (VTab xs (.v (.int p)) ta o3 o4 o5 o6 o7) cel) σ .next
      (fm dTab.sc none (nestOf dTab.body) (VTab xs (.v (.int p)) ta' o3' o4' o5' o6' o7') cel) σ' ∧ (ta' = .v (.dct (DF (tabD p t ys))) ∨ (ys = [] ∧ ta' = ta))
  | [], ta, σ, t, o3, o4, o5, o6, o7, _, _, _, _ => ⟨ta, o3, o4, o5, o6, o7, σ, .nil, .inr ⟨rfl, rfl⟩⟩
  | y :: ys, ta, σ, t, o3, o4, o5, o6, o7, hy, ht, hn, hl => by
    have p2 := hp.two
    have p5 := hp.five
    obtain ⟨b1, b2⟩ := hy y (.head _)
    have hl1 : t.length ≤ 1000 := Nat.le_trans (Nat.le_mul_of_pos_right _ (Nat.two_pow_pos _)) hl
    obtain ⟨o4', o5', o6', o7', σ1, body⟩ := tab_turn n p hp xs ta cel y b1 b2 σ t ht hn hl1 o4 o5 o6 o7
    obtain ⟨ta', q3, q4, q5, q6, q7, σ2, lp, h⟩ := tab_loop n p hp xs cel ys (.v (.dct (DF (stepD p t y)))) σ1 (stepD p t y) (some (.v (.int y))) o4' o5' o6' o7' (fun z hz => hy z (.tail _ hz)) .v (stepD_nodup hn) (by
      have := stepD_len p t y
      refine Nat.le_trans (Nat.mul_le_mul_right _ this) ?_
      rw [List.length_cons, Nat.pow_succ, Nat.mul_comm (2 ^ ys.length) 2, ← Nat.mul_assoc, Nat.mul_comm t.length 2] at hl
      exact hl)
    refine ⟨ta', q3, q4, q5, q6, q7, σ2, ?_, .inl ?_⟩
    · apply ForR.next
      · exact b_loc ⟨by rfl, by rfl⟩
      · exact body
      · exact lp
    · rcases h with h | ⟨rfl, rfl⟩
      · exact h
      · rfl

set_option maxHeartbeats 1000000 in
theorem counts_ok (n p : Nat) (hp : Pr p) (xs : List Int) (h0 : xs ≠ []) (h9 : xs.length ≤ 9) (hx : ∀ y ∈ xs, -256 ≤ y ∧ y < 256) :
    ∃ σ', (lev (n + 132)).call dTab none noV [.v (.lst (xs.map .int)), .v (.int p)] [] (.v (.dct (DF (tabD p [(0, 1)] xs)))) σ' := by
  have p2 := hp.two
  have p5 := hp.five
  obtain ⟨ta', q3, q4, q5, q6, q7, σ2, lp, h⟩ := tab_loop n p hp (.v (.lst (xs.map .int))) (slot dTab.sc.names []) xs (.r 0) [(.dct (DF [(0, 1)]), true)] [(0, 1)] none none none none none hx (.r rfl) (by simp) (by
    rw [List.length_singleton, Nat.one_mul]
    exact Nat.le_trans (Nat.pow_le_pow_right (by decide) h9) (by decide))
  rcases h with rfl | ⟨h, _⟩
  · refine ⟨σ2, ?_⟩
    apply call_pad 6 0 (vs := [some (.v (.lst (xs.map .int))), some (.v (.int p)), none, none, none, none, none, none]) (cs := []) (by rfl) (by rfl) (by rfl) (hr := RetR.ret)
    walk_at "st"
    · apply ev_of; apply EvS.dict1
      · walk_at "s"
      · walk_at "s"
      · rfl
    apply ExecsR.cons; apply exec_of; apply ExecS.for (by with_unfolding_all rfl)
    · apply iter_of; apply IterS.plain
      · walk_at "s"
      · rfl
    · exact lp
    apply x_ret; repeat walk_at "s"
  · exact absurd h h0
end
noncomputable section
/-! ## comprehensions -/
theorem comp_fm {sc sc' : Scope} {g : Option (Str × FnD)} {nst : Option (Nat × Nat × Str)} {vs : List (Option A)} {cel : Vars} (k : Nat) : compFm (fm sc g nst vs cel) sc' = fm sc' none none (List.replicate k none) cel := by
  have h := slot_pad (ns := sc'.names) k []
  rw [List.nil_append, ← noV_slot] at h
  show Fm.mk sc' none none noV cel = _
  rw [← h]
theorem e_lcomp {L : Lev} (k : Nat) {sc sc' : Scope} {g : Option (Str × FnD)} {nst : Option (Nat × Nat × Str)} {vs : List (Option A)} {cel : Vars} {fr' : Fm} {σ σ1 σ2 : St} {elt t it : Expr} {ifs : List Expr} {rest : List Comprehension} {p : Pos} {items out : List F}
    (h1 : compOk (fm sc g nst vs cel) sc' = true) (h2 : rest.all (·.is_async == 0) = true) (h3 : plainE it = true) (h4 : L.iter (fm sc g nst vs cel) σ t it items σ1) (h5 : L.comp elt t ifs rest items (fm sc' none none (List.replicate k none) cel) σ1 [] fr' σ2 out) :
    CompE L (fm sc g nst vs cel) σ (.ListComp elt (⟨t, it, ifs, 0⟩ :: rest) sc' p) (.v (.lst out)) σ2 := .lcomp h1 h2 h3 h4 (by rw [comp_fm k]; exact h5)
theorem e_dcomp {L : Lev} (n : Nat) {sc sc' : Scope} {g : Option (Str × FnD)} {nst : Option (Nat × Nat × Str)} {vs : List (Option A)} {cel : Vars} {fr' : Fm} {σ σ1 σ2 : St} {k v t it : Expr} {p : Pos} {items : List F} {out : List (Int × F)}
    (h1 : compOk (fm sc g nst vs cel) sc' = true) (h3 : plainE it = true) (h4 : L.iter (fm sc g nst vs cel) σ t it items σ1) (h6 : items.length ≤ 4096) (h5 : DTurns L t k v items (fm sc' none none (List.replicate n none) cel) σ1 [] fr' σ2 out) :
    CompE L (fm sc g nst vs cel) σ (.DictComp k v [⟨t, it, [], 0⟩] sc' p) (.v (.dct out)) σ2 := .dcomp h1 h3 h4 h6 (by rw [comp_fm n]; exact h5)

/-- one item of a comprehension that leaves the store -/
noncomputable def Turn (L : Lev) (k : Nat) (sc : Scope) (cel : Vars) (σ : St) (t elt : Expr) (ifs : List Expr) (vs : List (Option A)) (x : F) (fx : Option F) : Prop :=
  ∃ vs1, BindR (fm sc none none vs cel) t x (fm sc none none vs1 cel) ∧ vs1.length = k ∧ match fx with
      | none => AllR L (fm sc none none vs1 cel) .And ifs σ false σ
      | some y => AllR L (fm sc none none vs1 cel) .And ifs σ true σ ∧ ∃ a, L.ev (fm sc none none vs1 cel) σ elt a σ ∧ a.fz σ = some (y, σ)
theorem turn_none {L : Lev} {k : Nat} {sc : Scope} {cel : Vars} {σ : St} {t elt : Expr} {ifs : List Expr} {vs vs1 : List (Option A)} {x : F} {fx : Option F}
    (h1 : BindR (fm sc none none vs cel) t x (fm sc none none vs1 cel)) (h2 : vs1.length = k) (h3 : AllR L (fm sc none none vs1 cel) .And ifs σ false σ) (hf : fx = none) : Turn L k sc cel σ t elt ifs vs x fx := by
  subst hf; exact ⟨_, h1, h2, h3⟩
theorem turn_some {L : Lev} {k : Nat} {sc : Scope} {cel : Vars} {σ : St} {t elt : Expr} {ifs : List Expr} {vs vs1 : List (Option A)} {x y : F} {fx : Option F} {a : A}
    (h1 : BindR (fm sc none none vs cel) t x (fm sc none none vs1 cel)) (h2 : vs1.length = k) (h3 : AllR L (fm sc none none vs1 cel) .And ifs σ true σ) (h4 : L.ev (fm sc none none vs1 cel) σ elt a σ) (h5 : a.fz σ = some (y, σ)) (hf : fx = some y) : Turn L k sc cel σ t elt ifs vs x fx := by
  subst hf; exact ⟨_, h1, h2, h3, _, h4, h5⟩
/-- a comprehension that leaves the store: what it gives -/
theorem lcomp_map {n : Nat} (k : Nat) {sc sc' : Scope} {g : Option (Str × FnD)} {nst : Option (Nat × Nat × Str)} {vs : List (Option A)} {cel : Vars} {σ σ1 : St} {elt t it : Expr} {ifs : List Expr} {p : Pos} {items : List F} (out : List F) (f : F → Option F)
    (h1 : compOk (fm sc g nst vs cel) sc' = true) (h3 : plainE it = true) (h4 : (lev (n + 1)).iter (fm sc g nst vs cel) σ t it items σ1) (hl : items.length ≤ 4000)
    (h : ∀ x ∈ items, ∀ vs : List (Option A), vs.length = k → Turn (lev n) k sc' cel σ1 t elt ifs vs x (f x)) (ho : items.filterMap f = out) :
    CompE (lev (n + 1)) (fm sc g nst vs cel) σ (.ListComp elt [⟨t, it, ifs, 0⟩] sc' p) (.v (.lst out)) σ1 := by
  have go : ∀ (items : List F) (out : List F) (vs : List (Option A)), vs.length = k → out.length + items.length ≤ 4000 → (∀ x ∈ items, ∀ vs : List (Option A), vs.length = k → Turn (lev n) k sc' cel σ1 t elt ifs vs x (f x)) →
      ∃ fr', LTurns (lev n) elt t ifs [] items (fm sc' none none vs cel) σ1 out fr' σ1 (out ++ items.filterMap f) := by
    intro items
    induction items with
    | nil => intro out vs _ _ _; exact ⟨_, by rw [List.filterMap_nil, List.append_nil]; exact .nil⟩
    | cons x xs ih =>
      intro out vs hP hl h
      obtain ⟨vs1, hb, hP1, r⟩ := h x (.head _) vs hP
      simp only [List.length_cons] at hl
      cases hf : f x with
      | none =>
        rw [hf] at r
        obtain ⟨fr', q⟩ := ih out vs1 hP1 (by lia) fun y hy => h y (.tail _ hy)
        exact ⟨fr', by rw [List.filterMap_cons_none hf]; exact .cons (.skip hb r) q⟩
      | some y =>
        rw [hf] at r
        obtain ⟨r1, a, r2, r3⟩ := r
        obtain ⟨fr', q⟩ := ih (out ++ [y]) vs1 hP1 (by simp; lia) fun y hy => h y (.tail _ hy)
        refine ⟨fr', ?_⟩
        rw [List.filterMap_cons_some hf]
        rw [List.append_assoc] at q
        exact .cons (.elt rfl hb r1 r2 r3 (by lia)) q
  obtain ⟨fr', q⟩ := go items [] (List.replicate k none) (by simp) (by simpa using hl) h
  rw [List.nil_append, ho] at q
  exact e_lcomp k h1 rfl h3 h4 (.mk (by lia) q)
/-- one item of a dict comprehension that leaves the store -/
noncomputable def DTurn (L : Lev) (k : Nat) (sc : Scope) (cel : Vars) (σ : St) (t ke ve : Expr) (vs : List (Option A)) (x : F) (fx : Int × F) : Prop :=
  ∃ vs1 a, BindR (fm sc none none vs cel) t x (fm sc none none vs1 cel) ∧ vs1.length = k ∧ L.ev (fm sc none none vs1 cel) σ ke (.v (.int fx.1)) σ ∧ L.ev (fm sc none none vs1 cel) σ ve a σ ∧ a.fz σ = some (fx.2, σ)
theorem dturn {L : Lev} {k : Nat} {sc : Scope} {cel : Vars} {σ : St} {t ke ve : Expr} {vs vs1 : List (Option A)} {x y : F} {i : Int} {fx : Int × F} {a : A}
    (h1 : BindR (fm sc none none vs cel) t x (fm sc none none vs1 cel)) (h2 : vs1.length = k) (h3 : L.ev (fm sc none none vs1 cel) σ ke (.v (.int i)) σ) (h4 : L.ev (fm sc none none vs1 cel) σ ve a σ) (h5 : a.fz σ = some (y, σ)) (hf : fx = (i, y)) : DTurn L k sc cel σ t ke ve vs x fx := by
  subst hf; exact ⟨_, _, h1, h2, h3, h4, h5⟩
theorem dcomp_map {n : Nat} (k : Nat) {sc sc' : Scope} {g : Option (Str × FnD)} {nst : Option (Nat × Nat × Str)} {vs : List (Option A)} {cel : Vars} {σ σ1 : St} {ke ve t it : Expr} {p : Pos} {items : List F} (out : List (Int × F)) (f : F → Int × F)
    (h1 : compOk (fm sc g nst vs cel) sc' = true) (h3 : plainE it = true) (h4 : (lev n).iter (fm sc g nst vs cel) σ t it items σ1) (hl : items.length ≤ 4000)
    (h : ∀ x ∈ items, ∀ vs : List (Option A), vs.length = k → DTurn (lev n) k sc' cel σ1 t ke ve vs x (f x))
    (ho : items.foldl (fun d x => dset (f x).1 (f x).2 d) [] = out) : CompE (lev n) (fm sc g nst vs cel) σ (.DictComp ke ve [⟨t, it, [], 0⟩] sc' p) (.v (.dct out)) σ1 := by
  have go : ∀ (items : List F) (out : List (Int × F)) (vs : List (Option A)), vs.length = k → (∀ x ∈ items, ∀ vs : List (Option A), vs.length = k → DTurn (lev n) k sc' cel σ1 t ke ve vs x (f x)) →
      ∃ fr', DTurns (lev n) t ke ve items (fm sc' none none vs cel) σ1 out fr' σ1 (items.foldl (fun d x => dset (f x).1 (f x).2 d) out) := by
    intro items
    induction items with
    | nil => intro out vs _ _; exact ⟨_, .nil⟩
    | cons x xs ih =>
      intro out vs hP h
      obtain ⟨vs1, a, hb, hP1, r1, r2, r3⟩ := h x (.head _) vs hP
      obtain ⟨fr', q⟩ := ih (dset (f x).1 (f x).2 out) vs1 hP1 fun y hy => h y (.tail _ hy)
      exact ⟨fr', .cons hb r1 r2 r3 q⟩
  obtain ⟨fr', q⟩ := go items [] (List.replicate k none) (by simp) h
  rw [ho] at q
  exact e_dcomp k h1 h3 h4 (by lia) q

/-! ## _law_counts_hold -/
noncomputable def nextR (r : List Int) : List Int := ((0 :: r).zip (r ++ [0])).map fun q => q.1 + q.2
noncomputable def rowR (r : List Int) : Nat → List Int
  | 0 => r
  | k + 1 => rowR (nextR r) k
theorem zipF_int : ∀ (a b : List Int), zipF (a.map .int) (b.map .int) = (a.zip b).map fun q => .tup [.int q.1, .int q.2]
  | [], _ => by simp [zipF]
  | _ :: _, [] => by simp [zipF]
  | x :: a, y :: b => by simp only [List.map_cons, zipF, List.zip_cons_cons, zipF_int a b]
noncomputable abbrev VHold (xs : A) (o3 o4 o5 o7 o8 : Option A) : List (Option A) := [some xs, none, none, o3, o4, o5, none, o7, o8]
noncomputable abbrev CHold (p : Nat) (t : A) (o6 : Option A) : List (Option A) := [none, some (.v (.int p)), some t, none, none, none, o6]
noncomputable abbrev holdF1 : Stmt := stmtAt dHold.body 3
noncomputable abbrev holdF2 : Stmt := stmtAt dHold.body 4
noncomputable abbrev holdF3 : Stmt := stmtAt dHold.body 5

set_option maxHeartbeats 1000000 in
theorem hold_row (n p : Nat) (xs ta : A) (σ : St) (o3 : Option A) : ∀ (ys : List Int) (r : List Int) (o5 : Option A), r.length + ys.length ≤ 100 →
    ∃ o5', ForR (lev (n + 20)) (forT holdF1) (forB holdF1) (ys.map .int) (fm dHold.sc none (nestOf dHold.body) (VHold xs o3 (some (.v (.lst (r.map .int)))) o5 none none) (slot dHold.sc.names (CHold p ta none))) σ .next
      (fm dHold.sc none (nestOf dHold.body) (VHold xs o3 (some (.v (.lst ((rowR r ys.length).map .int)))) o5' none none) (slot dHold.sc.names (CHold p ta none))) σ
  | [], r, o5, _ => ⟨o5, .nil⟩
  | y :: ys, r, o5, hl => by
    simp only [List.length_cons] at hl
    have hn : (nextR r).length = r.length + 1 := by simp [nextR]
    obtain ⟨o5', ih⟩ := hold_row n p xs ta σ o3 ys (nextR r) (some (.v (.int y))) (by lia)
    refine ⟨o5', ?_⟩
    have hz : zipF ([F.int 0] ++ r.map .int) (r.map .int ++ [.int 0]) = ((0 :: r).zip (r ++ [0])).map fun q => .tup [.int q.1, .int q.2] := by rw [← zipF_int]; simp
    apply ForR.next
    · exact b_loc ⟨by rfl, by rfl⟩
    · apply ExecsR.cons
      · apply exec_of
        apply x_locC ⟨by rfl, by rfl⟩
        apply lcomp_map 3 ((nextR r).map .int) (fun x => match x with | .tup [.int a, .int b] => some (.int (a + b)) | _ => none) (by rfl) (by rfl)
        · apply iter_of; apply IterS.zip (by rfl) (by rfl) (by rfl) (by rfl)
          · walk_at "s"
            · repeat walk_at "s"
              decide
            · walk_at "s"
            · rfl
            · rfl
            · exact BinR.cat (by simp; lia)
          · rfl
          · walk_at "s"
            · walk_at "s"
            · repeat walk_at "s"
              decide
            · rfl
            · rfl
            · exact BinR.cat (by simp; lia)
          · rfl
        · rw [hz]; simp; lia
        · rw [hz]
          intro x hx vs hv
          obtain ⟨q, _, rfl⟩ := List.mem_map.1 hx
          match vs, hv with
          | [o0, o1, o2], _ =>
            apply turn_some
            · exact b_tup2 ⟨by rfl, by rfl⟩ ⟨by rfl, by rfl⟩
            · rfl
            · exact AllR.nil
            · repeat walk_at "s"
            · rfl
            · rfl
        · rw [hz]; simp [nextR, List.filterMap_map, Function.comp_def]
      · exact ExecsR.nil
    · exact ih

theorem b_cel {sc : Scope} {nst : Option (Nat × Nat × Str)} {vs cs : List (Option A)} {x : Str} {i : Nat} {p : Pos} {v : F} (hs : CelAt sc x i) : BindR (fm sc none nst vs (slot sc.names cs)) (.Name x p) v (fm sc none nst vs (slot sc.names (put cs i (.v v)))) := .name (set_cel hs)
theorem it_int {row : List Int} {k : Nat} {v : Int} (h : row[k]? = some v) : ItR (.lst (row.map .int)) (k : Int) (.int v) := .lst (Int.natCast_nonneg _) (by rw [List.getElem?_map, Int.toNat_natCast, h]; rfl)
noncomputable def colD (k p : Nat) (T : DI) : DI := (List.range p).map fun r : Nat => ((r : Int), (dgi ((k : Int) * p + r) T).getD 0)
theorem rangeF_map : ∀ (n a : Nat), rangeF a n = (List.range' a n).map fun k : Nat => .int (k : Int)
  | 0, _ => rfl
  | n + 1, a => by rw [rangeF, List.range'_succ, List.map_cons, ← rangeF_map n (a + 1)]; rfl
theorem rangeF0 (n : Nat) : rangeF 0 n = (List.range n).map fun k : Nat => .int (k : Int) := by rw [List.range_eq_range']; exact rangeF_map n 0
set_option maxHeartbeats 1000000 in
theorem hold_cols (n p : Nat) (hp : Pr p) (xs o3 : A) (T : DI) (row : List Int) (o5 : Option A) : ∀ (ks : List Nat) (o6 : Option A), (∀ k ∈ ks, k ≤ p ∧ row[k]? = some ((colD k p T).map (·.2)).sum) →
    ∃ o6', ForR (lev (n + 20)) (forT holdF2) (forB holdF2) (ks.map fun k : Nat => .int (k : Int)) (fm dHold.sc none (nestOf dHold.body) (VHold xs (some o3) (some (.v (.lst (row.map .int)))) o5 none none) (slot dHold.sc.names (CHold p (.v (.dct (DF T))) o6))) [] .next
      (fm dHold.sc none (nestOf dHold.body) (VHold xs (some o3) (some (.v (.lst (row.map .int)))) o5 none none) (slot dHold.sc.names (CHold p (.v (.dct (DF T))) o6'))) []
  | [], o6, _ => ⟨o6, .nil⟩
  | k :: ks, o6, hl => by
    have p2 := hp.two
    have p5 := hp.five
    obtain ⟨hk, hr⟩ := hl k (.head _)
    obtain ⟨o6', ih⟩ := hold_cols n p hp xs o3 T row o5 ks (some (.v (.int k))) fun j hj => hl j (.tail _ hj)
    refine ⟨o6', ?_⟩
    have hkp : small (k : Int) = true := small_nat (by lia)
    apply ForR.next
    · exact b_cel ⟨by rfl, by rfl⟩
    · apply ExecsR.cons
      · apply exec_of; apply ExecS.ifF
        · apply test_of; apply t_cmp (by rfl)
          · apply ev_of; apply EvS.callG f_count (by with_unfolding_all rfl) (by with_unfolding_all rfl)
            · apply ArgsR.cons (by rfl)
              · apply ev_of; apply EvS.comp
                apply dcomp_map 2 (DF (colD k p T)) (fun x => match x with | .int r => (r, .int ((dgi (k * p + r) T).getD 0)) | _ => (0, .none)) (by rfl) (by rfl)
                · apply iter_of; apply IterS.range1 (by rfl) (by rfl)
                  · walk_at "s"
                  · rcases hp.h with rfl | rfl | rfl <;> decide
                  · rcases hp.h with rfl | rfl | rfl <;> decide
                · rcases hp.h with rfl | rfl | rfl <;> decide
                · intro x hx vs hv
                  rw [show ((p : Nat) : Int).toNat = p from rfl, rangeF0] at hx
                  obtain ⟨r, _, rfl⟩ := List.mem_map.1 hx
                  match vs, hv with
                  | [o0, o1], _ =>
                    apply dturn
                    · exact b_loc ⟨by rfl, by rfl⟩
                    · rfl
                    · repeat walk_at "s"
                    · repeat walk_at "s"
                    · rw [dget_df]
                      show _ = some (.int ((dgi ((k : Int) * p + r) T).getD 0), _)
                      cases dgi ((k : Int) * p + r) T <;> rfl
                    · rfl
                · rcases hp.h with rfl | rfl | rfl <;> rfl
              · exact ArgsR.nil
            · rfl
            · exact count_ok _ _ _ _ _ rfl
            · rfl
            · rfl
          · repeat walk_at "s"
            · exact it_int hr
            · exact hkp
          · rfl
          · rfl
          · exact CmpR.ne
          · simp
        · exact ExecsR.nil
      · exact ExecsR.nil
    · exact ih

theorem elim_get {T : DI} {i : Int} : (dget i (DF T)).elim (.v (.int 0)) A.v = A.v (.int ((dgi i T).getD 0)) := by rw [dget_df]; cases dgi i T <;> rfl
noncomputable abbrev many (p : Nat) (T : DI) (r : Nat) : Int := (dgi ((p : Int) * p + r) T).getD 0
set_option maxHeartbeats 1000000 in
theorem hold_rests (n p : Nat) (hp : Pr p) (xs o4 : A) (whole : Int) (T : DI) (o5 o6 : Option A) : ∀ (ks : List Nat) (o7 o8 : Option A), (∀ r ∈ ks, r < p ∧ 0 ≤ many p T r ∧ many p T r < 256 ∧ (many p T r).fmod p = (if r = 0 then 1 else 0) ∧ many p T r = (dgi ((p : Int) * p - p + (whole - r).fmod p) T).getD 0) →
    ∃ o7' o8', ForR (lev (n + 140)) (forT holdF3) (forB holdF3) (ks.map fun k : Nat => .int (k : Int)) (fm dHold.sc none (nestOf dHold.body) (VHold xs (some (.v (.int whole))) (some o4) o5 o7 o8) (slot dHold.sc.names (CHold p (.v (.dct (DF T))) o6))) [] .next
      (fm dHold.sc none (nestOf dHold.body) (VHold xs (some (.v (.int whole))) (some o4) o5 o7' o8') (slot dHold.sc.names (CHold p (.v (.dct (DF T))) o6))) []
  | [], o7, o8, _ => ⟨o7, o8, .nil⟩
  | r :: ks, o7, o8, hl => by
    have p2 := hp.two
    have p5 := hp.five
    obtain ⟨h1, h2, h3, h4, h5⟩ := hl r (.head _)
    obtain ⟨o7', o8', ih⟩ := hold_rests n p hp xs o4 whole T o5 o6 ks (some (.v (.int r))) (some (.v (.int (many p T r)))) fun j hj => hl j (.tail _ hj)
    refine ⟨o7', o8', ?_⟩
    have hps : small (p : Int) = true := small_nat (by lia)
    obtain ⟨σ', hd⟩ := div_ok p hp.h (n + 16) (many p T r) (by lia) h3
    apply ForR.next
    · exact b_loc ⟨by rfl, by rfl⟩
    · apply ExecsR.cons
      · apply exec_of
        apply x_loc (by rfl) (by rfl) ⟨by rfl, by rfl⟩ (a := .v (.int (many p T r))) (σ1 := [])
        rw [many, ← elim_get]
        repeat walk_at "s"
      · apply ExecsR.cons
        · apply exec_of; apply ExecS.ifF
          · apply test_of; apply t_cmp (by rfl)
            · walk_at "s"
              · apply ev_of; apply EvS.callG f_div (by with_unfolding_all rfl) (by with_unfolding_all rfl)
                · repeat walk_at "s"
                · rfl
                · exact hd
                · rfl
                · exact unpack_nil
              · walk_at "s"
              · rfl
              · exact ItR.tup (by decide) rfl
              · decide
            · apply ev_of
              by_cases hr : r = 0
              · apply EvS.ifT (a := .v (.int (if r = 0 then 1 else 0))) (σ2 := [])
                · apply test_of; apply t_cmp (by rfl)
                  · walk_at "s"
                  · walk_at "s"
                  · rfl
                  · rfl
                  · exact CmpR.eq
                  · simp [hr]
                · rw [if_pos hr]; exact ev_of EvS.int
              · apply EvS.ifF (a := .v (.int (if r = 0 then 1 else 0))) (σ2 := [])
                · apply test_of; apply t_cmp (by rfl)
                  · walk_at "s"
                  · walk_at "s"
                  · rfl
                  · rfl
                  · exact CmpR.eq
                  · simp; lia
                · rw [if_neg hr]; exact ev_of EvS.int
            · rfl
            · rfl
            · exact CmpR.ne
            · rw [h4]; simp
          · exact ExecsR.nil
        · apply ExecsR.cons
          · apply exec_of; apply ExecS.ifF
            · apply test_of; apply t_cmp (by rfl)
              · repeat walk_at "s"
              · repeat walk_at "s"
              · rfl
              · rw [elim_get]; rfl
              · exact CmpR.ne
              · rw [← h5]; simp
            · exact ExecsR.nil
          · exact ExecsR.nil
    · exact ih

noncomputable def heapD (p : Nat) (a : Int) : List Int := List.replicate (p - 1) a ++ List.replicate (p - 1) (a + 1)
theorem hold_ok (n p : Nat) (hp : Pr p) (xs : List Int) (h9 : xs.length = 2 * p - 1) (hx : ∀ y ∈ xs, -250 ≤ y ∧ y < 250)
    (hA : ∀ k ≤ p, (rowR [1] xs.length)[k]? = some ((colD k p (tabD p [(0, 1)] xs)).map (·.2)).sum)
    (hB : ∀ r < p, 0 ≤ many p (tabD p [(0, 1)] xs) r ∧ many p (tabD p [(0, 1)] xs) r < 256 ∧ (many p (tabD p [(0, 1)] xs) r).fmod p = (if r = 0 then 1 else 0) ∧ many p (tabD p [(0, 1)] xs) r = (dgi ((p : Int) * p - p + (xs.sum - r).fmod p) (tabD p [(0, 1)] xs)).getD 0)
    (hC : ∀ a ∈ xs, dgi ((p : Int) * p) (tabD p [(0, 1)] (heapD p a)) = none) :
    ∃ σ', (lev (n + 150)).call dHold none noV [.v (.lst (xs.map .int)), .v (.int p)] [] (.v (.bool true)) σ' := by
  have p2 := hp.two
  have p5 := hp.five
  obtain ⟨a, xs', rfl⟩ : ∃ a xs', xs = a :: xs' := by
    cases xs with
    | nil => simp at h9; lia
    | cons a r => exact ⟨a, r, rfl⟩
  generalize hxs : a :: xs' = xs at *
  have h0 : xs ≠ [] := by rw [← hxs]; simp
  have ha : a ∈ xs := by rw [← hxs]; simp
  have hg : xs[0]? = some a := by rw [← hxs]; rfl
  have hl9 : xs.length ≤ 9 := by lia
  have hxx := hx a ha
  obtain ⟨σ1, c1⟩ := counts_ok (n + 15) p hp xs h0 hl9 (fun y hy => by have := hx y hy; lia)
  obtain ⟨σ2, c2⟩ := counts_ok (n + 14) p hp (heapD p a) (by rcases hp.h with rfl | rfl | rfl <;> simp [heapD]) (by rcases hp.h with rfl | rfl | rfl <;> simp [heapD]) (fun y hy => by
    simp only [heapD, List.mem_append, List.mem_replicate] at hy; lia)
  obtain ⟨o5, l1⟩ := hold_row (n + 128) p (.v (.lst (xs.map .int))) (.v (.dct (DF (tabD p [(0, 1)] xs)))) [] (some (.v (.int xs.sum))) xs [1] none (by simp; lia)
  obtain ⟨o6, l2⟩ := hold_cols (n + 128) p hp (.v (.lst (xs.map .int))) (.v (.int xs.sum)) (tabD p [(0, 1)] xs) (rowR [1] xs.length) o5 (List.range (p + 1)) none (fun k hk => by
    have := List.mem_range.1 hk
    exact ⟨by lia, hA k (by lia)⟩)
  obtain ⟨o7, o8, l3⟩ := hold_rests (n + 8) p hp (.v (.lst (xs.map .int))) (.v (.lst ((rowR [1] xs.length).map .int))) xs.sum (tabD p [(0, 1)] xs) o5 o6 (List.range p) none none (fun r hr => ⟨List.mem_range.1 hr, hB r (List.mem_range.1 hr)⟩)
  have hps : small (p : Int) = true := small_nat (by lia)
  have hcat : BinR .Add (.lst (List.replicate ((p : Int) - 1).toNat [F.int a]).flatten) (.lst (List.replicate ((p : Int) - 1).toNat [F.int (a + 1)]).flatten) (.lst ((heapD p a).map .int)) := by
    rcases hp.h with rfl | rfl | rfl <;> exact BinR.cat (by simp)
  apply Exists.intro
  apply call_pad 8 5 (vs := VHold (.v (.lst (xs.map .int))) none none none none none) (cs := [none, some (.v (.int p)), none, none, none, none, none]) (by rfl) (by rfl) (by rfl) (hr := RetR.ret)
  walk_at "st"
  · apply ev_of; apply EvS.callG f_tab (by with_unfolding_all rfl) (by with_unfolding_all rfl)
    · repeat walk_at "s"
    · rfl
    · exact c1
    · rfl
    · exact unpack_nil
  walk_at "st"
  · apply ev_of; apply EvS.blt (by with_unfolding_all rfl) (by with_unfolding_all rfl)
    · repeat walk_at "s"
    · rfl
    · exact BltR.sum (by lia)
  walk_at "st"
  · repeat walk_at "s"
    decide
  apply ExecsR.cons; apply exec_of; apply ExecS.for (by with_unfolding_all rfl)
  · apply iter_of; apply IterS.plain
    · walk_at "s"
    · rfl
  · exact l1
  apply ExecsR.cons; apply exec_of; apply ExecS.for (by with_unfolding_all rfl)
  · apply iter_of; apply IterS.range1 (by rfl) (by rfl)
    · repeat walk_at "s"
    · exact small_nat (i := p + 1) (by lia)
    · lia
  · rw [show ((p : Int) + 1).toNat = p + 1 from rfl, rangeF0]
    exact l2
  apply ExecsR.cons; apply exec_of; apply ExecS.for (by with_unfolding_all rfl)
  · apply iter_of; apply IterS.range1 (by rfl) (by rfl)
    · repeat walk_at "s"
    · exact hps
    · lia
  · rw [show ((p : Int)).toNat = p from rfl, rangeF0]
    exact l3
  apply x_ret; walk_at "s"
  walk_at "s"
  · walk_at "s"
    · repeat walk_at "s"
    · repeat walk_at "s"
    · rfl
    · rfl
    · exact BinR.mul hps
  · apply ev_of; apply EvS.callG f_tab (by with_unfolding_all rfl) (by with_unfolding_all rfl)
    · apply ArgsR.cons (by rfl)
      · walk_at "s"
        · apply ev_of; apply EvS.rep
          · apply ev_of; apply EvS.list
            · apply ListR.cons (by rfl)
              · walk_at "s"
                · repeat walk_at "s"
                · walk_at "s"
                · rfl
                · exact it_int (k := 0) hg
                · decide
              · rfl
              · exact ListR.nil
            · simp
          · repeat walk_at "s"
          · rfl
          · lia
          · lia
          · simp
        · apply ev_of; apply EvS.rep
          · apply ev_of; apply EvS.list
            · apply ListR.cons (by rfl)
              · walk_at "s"
                · walk_at "s"
                  · repeat walk_at "s"
                  · walk_at "s"
                  · rfl
                  · exact it_int (k := 0) hg
                  · decide
                · walk_at "s"
                · rfl
                · rfl
                · exact BinR.add
              · rfl
              · exact ListR.nil
            · simp
          · repeat walk_at "s"
          · rfl
          · lia
          · lia
          · simp
        · rfl
        · rfl
        · exact hcat
      · repeat walk_at "s"
    · rfl
    · exact c2
    · rfl
    · exact unpack_nil
  · rfl
  · rfl
  · have := @CmpR.nind ((p : Int) * p) (DF (tabD p [(0, 1)] (heapD p a)))
    rw [dget_df, hC a ha] at this
    exact this
end
noncomputable section
/-! ## how many choices: the tables in plain numbers -/
noncomputable def dv (t : DI) (j : Int) : Int := (dgi j t).getD 0
theorem dv_dsi (k j x : Int) (t : DI) : dv (dsi k x t) j = if j = k then x else dv t j := by
  unfold dv; rw [dgi_dsi]; split <;> rfl
theorem dv_cons (k x j : Int) (t : DI) : dv ((k, x) :: t) j = if j = k then x else dv t j := by
  simp only [dv, dgi]; split <;> rfl
theorem dv_not {k : Int} {t : DI} (h : k ∉ t.map (·.1)) : dv t k = 0 := by rw [dv, dgi_mem h]; rfl
theorem dv_add : ∀ (s t : DI) (j : Int), (s.map (·.1)).Nodup → dv (addD t s) j = dv t j + dv s j
  | [], t, j, _ => (Int.add_zero _).symm
  | (k, x) :: s, t, j, h => by
    rw [List.map_cons, List.nodup_cons] at h
    show dv (addD (dsi k (dv t k + x) t) s) j = _
    rw [dv_add s _ j h.2, dv_dsi, dv_cons]
    by_cases hj : j = k
    · subst hj; rw [if_pos rfl, if_pos rfl, dv_not h.1, Int.add_zero]
    · rw [if_neg hj, if_neg hj]
noncomputable def pre (p : Nat) (rest j : Int) : Int := j - j.fmod p - p + (j - rest).fmod p
theorem fmod5 (p : Nat) (a : Int) : a.fmod p = a % (p : Int) := Int.fmod_eq_emod_of_nonneg _ (Int.natCast_nonneg _)
theorem tr_inv {p : Int} (h : 0 < p) (s c x : Int) : ((x + s) % p + p * (x / p + c) + -s) % p + p * (((x + s) % p + p * (x / p + c)) / p + -c) = x := by
  have h0 : ((x + s) % p) / p = 0 := Int.ediv_eq_zero_of_lt (Int.emod_nonneg _ (Int.ne_of_gt h)) (Int.emod_lt_of_pos _ h)
  rw [Int.add_mul_ediv_left _ _ (Int.ne_of_gt h), h0, Int.zero_add, Int.add_neg_cancel_right, Int.add_right_comm, Int.add_mul_emod_self_left, Int.emod_add_emod, Int.add_neg_cancel_right, Int.emod_add_mul_ediv]
theorem pre_eq (p : Nat) (rest j : Int) : pre p rest j = (j + -rest) % (p : Int) + p * (j / p + -1) := by
  have := Int.emod_add_mul_ediv j p
  unfold pre; simp only [fmod5]
  rw [Int.mul_add, show j - rest = j + -rest from rfl]
  generalize (p : Int) * (j / p) = a at *
  lia
theorem key_eq (p : Nat) (rest k : Int) : keyD p rest k = (k + rest) % (p : Int) + p * (k / p + 1) := by
  have := Int.emod_add_mul_ediv k p
  unfold keyD; simp only [fmod5]
  rw [Int.mul_add]
  generalize (p : Int) * (k / p) = a at *
  lia
theorem key_pre {p : Nat} (hp : Pr p) (rest k j : Int) : j = keyD p rest k ↔ k = pre p rest j := by
  have h : 0 < (p : Int) := Int.natCast_pos.2 (Nat.lt_of_lt_of_le (by decide) hp.two)
  rw [pre_eq, key_eq]
  constructor
  · rintro rfl; exact (tr_inv h rest 1 k).symm
  · rintro rfl
    have := tr_inv h (-rest) (-1) j
    rw [Int.neg_neg, Int.neg_neg] at this
    exact this.symm
theorem more_nodup (p : Nat) (rest : Int) : ∀ (t m : DI), (m.map (·.1)).Nodup → ((moreD p rest t m).map (·.1)).Nodup
  | [], _, h => h
  | q :: t, m, h => more_nodup p rest t _ (by show ((if q.1 < (p : Int) * p then _ else _ : DI).map _).Nodup; split <;> first | exact dsi_nodup h | exact h)
theorem dv_more {p : Nat} (hp : Pr p) (rest j : Int) : ∀ (t m : DI), (t.map (·.1)).Nodup → dv (moreD p rest t m) j = if pre p rest j < (p : Int) * p ∧ pre p rest j ∈ t.map (·.1) then dv t (pre p rest j) else dv m j
  | [], m, _ => by simp [moreD]
  | (k, x) :: t, m, h => by
    have p2 := hp.two
    have p5 := hp.five
    rw [List.map_cons, List.nodup_cons] at h
    show dv (moreD p rest t (if k < (p : Int) * p then dsi (keyD p rest k) x m else m)) j = _
    rw [dv_more hp rest j t _ h.2, dv_cons, List.map_cons]
    by_cases hk : k = pre p rest j
    · have := h.1
      rw [if_neg (fun q => h.1 (by rw [← hk] at q; exact q.2)), if_pos hk.symm, ← hk]
      by_cases hq : k < (p : Int) * p
      · rw [if_pos hq, if_pos ⟨hq, by simp⟩, dv_dsi, if_pos ((key_pre hp rest k j).2 hk)]
      · rw [if_neg hq, if_neg (fun q => hq q.1)]
    · rw [if_neg (Ne.symm hk)]
      have e : dv (if k < (p : Int) * p then dsi (keyD p rest k) x m else m) j = dv m j := by
        split
        · rw [dv_dsi, if_neg (fun q => hk ((key_pre hp rest k j).1 q))]
        · rfl
      rw [e]
      simp only [List.mem_cons, Ne.symm hk, false_or]
theorem dv_step {p : Nat} (hp : Pr p) (t : DI) (x j : Int) (h : (t.map (·.1)).Nodup) : dv (stepD p t x) j = dv t j + if pre p (x.fmod p) j < (p : Int) * p then dv t (pre p (x.fmod p) j) else 0 := by
  have p2 := hp.two
  have p5 := hp.five
  rw [stepD, dv_add _ _ _ (more_nodup p _ t [] (by simp)), dv_more hp _ _ t [] h]
  congr 1
  by_cases hj : pre p (x.fmod p) j ∈ t.map (·.1)
  · simp only [hj, and_true]; rfl
  · rw [if_neg (fun q => hj q.2), dv_not hj]; split <;> rfl
noncomputable def stepG (p x : Nat) (f : Nat → Nat → Nat) (k r : Nat) : Nat := f k r + match k with
  | 0 => 0
  | k + 1 => f k ((r + p - x) % p)
noncomputable def resN (p : Nat) (x : Int) : Nat := (x.fmod p).toNat
theorem pre_neg {p : Nat} (h : 0 < (p : Int)) (rest j : Int) (hj : j < p) : pre p rest j < 0 := by
  rw [pre_eq]
  have h1 := Int.emod_lt_of_pos (j + -rest) h
  have h2 : j / (p : Int) ≤ 0 := Int.lt_add_one_iff.1 (Int.ediv_lt_of_lt_mul h (by rw [Int.zero_add, Int.one_mul]; exact hj))
  have h3 : (p : Int) * (j / p + -1) ≤ p * (-1) := Int.mul_le_mul_of_nonneg_left (Int.add_le_add_right h2 (-1)) (Int.le_of_lt h)
  lia
theorem pre_succ {p : Nat} (h : 0 < (p : Int)) (x : Int) {k r : Nat} (hr : r < p) : pre p (x.fmod p) (((k + 1 : Nat) : Int) * p + r) = (k : Int) * p + ((r + p - resN p x) % p : Nat) := by
  have hx : ((resN p x : Nat) : Int) = x % p := by unfold resN; rw [fmod5]; exact Int.toNat_of_nonneg (Int.emod_nonneg _ (Int.ne_of_gt h))
  have hlt : resN p x < p := Int.ofNat_lt.1 (by rw [hx]; exact Int.emod_lt_of_pos _ h)
  rw [pre_eq, fmod5, ← hx, Int.natCast_emod, Int.ofNat_sub (by lia), Int.add_comm (((k + 1 : Nat) : Int) * p), Int.mul_comm _ (p : Int), Int.add_mul_ediv_left _ _ (Int.ne_of_gt h),
    Int.ediv_eq_zero_of_lt (Int.natCast_nonneg _) (Int.ofNat_lt.2 hr), Int.add_right_comm, Int.add_mul_emod_self_left, Int.zero_add, Int.natCast_add k 1, Int.natCast_add r p, Int.add_comm (r : Int) p, Int.add_sub_assoc, Int.add_comm (p : Int), Int.add_emod_right, Int.add_comm, Int.mul_comm (p : Int)]
  rw [show ((k : Int) + ((1 : Nat) : Int) + -1) = k from Int.add_neg_cancel_right k 1]
  rfl
theorem tab_sem {p : Nat} (hp : Pr p) : ∀ (xs : List Int) (t : DI) (f : Nat → Nat → Nat), (t.map (·.1)).Nodup → (∀ j < 0, dv t j = 0) → (∀ k ≤ p, ∀ r < p, dv t ((k : Int) * p + r) = f k r) →
    ∀ k ≤ p, ∀ r < p, dv (tabD p t xs) ((k : Int) * p + r) = ((xs.foldl (fun f x => stepG p (resN p x) f) f) k r : Nat)
  | [], t, f, _, _, h => h
  | x :: xs, t, f, hn, h0, h => by
    have p2 := hp.two
    have hp0 : 0 < (p : Int) := Int.natCast_pos.2 (Nat.lt_of_lt_of_le (by decide) p2)
    refine tab_sem hp xs (stepD p t x) (stepG p (resN p x) f) (addD_nodup hn) (fun j hj => ?_) (fun k hk r hr => ?_)
    · rw [dv_step hp t x j hn, h0 j hj]
      have : pre p (x.fmod p) j < 0 := pre_neg hp0 _ _ (by lia)
      rw [h0 _ this]; split <;> rfl
    · rw [dv_step hp t x _ hn, h k hk r hr]
      cases k with
      | zero =>
        have : pre p (x.fmod p) (((0 : Nat) : Int) * p + r) < 0 := pre_neg hp0 _ _ (by rw [Int.natCast_zero, Int.zero_mul, Int.zero_add]; exact Int.ofNat_lt.2 hr)
        rw [h0 _ this]; simp [stepG]
      | succ k =>
        have e := pre_succ hp0 x (k := k) hr
        have hr' : (r + p - resN p x) % p < p := Nat.mod_lt _ (by lia)
        have hlt : (k : Int) * p + ((r + p - resN p x) % p : Nat) < (p : Int) * p := by
          have : (k + 1) * p ≤ p * p := Nat.mul_le_mul_right p hk
          rw [Nat.add_mul, Nat.one_mul] at this
          rw [← Int.natCast_mul, ← Int.natCast_mul, ← Int.natCast_add]
          exact Int.ofNat_lt.2 (Nat.lt_of_lt_of_le (Nat.add_lt_add_left hr' _) this)
        rw [e, if_pos hlt, h k (by lia) _ hr']
        simp [stepG]
end
noncomputable section

noncomputable def f0G (k r : Nat) : Nat := if k = 0 ∧ r = 0 then 1 else 0
theorem stepG_comm {p : Nat} (x y : Nat) (hx : x < p) (hy : y < p) (f : Nat → Nat → Nat) : stepG p y (stepG p x f) = stepG p x (stepG p y f) := by
  funext k r
  have e : ((r + p - x) % p + p - y) % p = ((r + p - y) % p + p - x) % p := by
    rw [Nat.add_sub_assoc (Nat.le_of_lt hy) ((r + p - x) % p), Nat.mod_add_mod, Nat.add_sub_assoc (Nat.le_of_lt hx) ((r + p - y) % p), Nat.mod_add_mod]; congr 1; lia
  match k with
  | 0 => rfl
  | 1 => simp only [stepG]; exact Nat.add_right_comm _ _ _
  | k + 2 => simp only [stepG, e]; exact Nat.add_add_add_comm _ _ _ _ |>.trans (by rw [Nat.add_right_comm (f (k + 2) r)] ) 
theorem pr_pos {p : Nat} (hp : Pr p) : 0 < (p : Int) := Int.natCast_pos.2 (Nat.lt_of_lt_of_le (by decide) hp.two)
theorem res_cast {p : Nat} (hp : Pr p) (x : Int) : ((resN p x : Nat) : Int) = x % p := by
  unfold resN; rw [fmod5]; exact Int.toNat_of_nonneg (Int.emod_nonneg _ (Int.ne_of_gt (pr_pos hp)))
theorem res_lt {p : Nat} (hp : Pr p) (x : Int) : resN p x < p := Int.ofNat_lt.1 (by rw [res_cast hp]; exact Int.emod_lt_of_pos _ (pr_pos hp))
theorem res_sum {p : Nat} (hp : Pr p) : ∀ xs : List Int, (((xs.map (resN p)).sum : Nat) : Int) % (p : Int) = xs.sum % (p : Int)
  | [] => rfl
  | x :: xs => by rw [List.map_cons, List.sum_cons, List.sum_cons, Int.natCast_add, res_cast hp, Int.emod_add_emod, ← Int.add_emod_emod, res_sum hp xs, Int.add_emod_emod]
/-- the numbers of choices, as tab_sem has them -/
noncomputable abbrev cntG (p : Nat) (xs : List Int) : Nat → Nat → Nat := xs.foldl (fun f x => stepG p (resN p x) f) f0G
theorem sum_cast : ∀ (l : List Nat), (l.map fun n : Nat => (n : Int)).sum = ((l.sum : Nat) : Int)
  | [] => rfl
  | a :: l => by rw [List.map_cons, List.sum_cons, List.sum_cons, sum_cast l]; lia
theorem tab_cnt {p : Nat} (hp : Pr p) (xs : List Int) : ∀ k ≤ p, ∀ r < p, dv (tabD p [(0, 1)] xs) ((k : Int) * p + r) = (cntG p xs k r : Nat) :=
  tab_sem hp xs [(0, 1)] f0G (by simp) (fun j hj => by rw [dv_cons, if_neg (by lia)]; rfl) fun k hk r hr => by
    rw [dv_cons]
    unfold f0G
    by_cases h : k = 0 ∧ r = 0
    · rw [if_pos h, h.1, h.2, if_pos (by simp)]; rfl
    · rw [if_neg h, if_neg fun e => h ?_]
      · rfl
      · have e : k * p + r = 0 := Int.ofNat_inj.1 (by rw [Int.natCast_add, Int.natCast_mul]; exact e)
        exact ⟨(Nat.mul_eq_zero.1 (Nat.eq_zero_of_add_eq_zero_right e)).resolve_right (by lia), Nat.eq_zero_of_add_eq_zero_left e⟩
/-! a row as one number, 4096 to a rest -/
noncomputable def numG : Nat → (Nat → Nat) → Nat
  | 0, _ => 0
  | n + 1, u => u 0 + 4096 * numG n fun i => u (i + 1)
theorem num_lt : ∀ (n : Nat) (u : Nat → Nat), (∀ r, u r < 4096) → numG n u < 4096 ^ n
  | 0, _, _ => Nat.one_pos
  | n + 1, u, h => by
    have h1 := num_lt n _ fun i => h (i + 1)
    have h2 := h 0
    rw [numG, Nat.pow_succ]; lia
theorem num_add : ∀ (a b : Nat) (u : Nat → Nat), numG (a + b) u = numG a u + 4096 ^ a * numG b fun i => u (i + a)
  | 0, b, u => by rw [Nat.zero_add, Nat.pow_zero, Nat.one_mul]; exact (Nat.zero_add _).symm
  | a + 1, b, u => by
    rw [Nat.add_right_comm, numG, num_add a b, numG, Nat.pow_succ, Nat.mul_add, Nat.mul_comm _ 4096, Nat.mul_assoc, Nat.add_assoc]; rfl
theorem num_congr : ∀ {n : Nat} {u v : Nat → Nat}, (∀ r < n, u r = v r) → numG n u = numG n v
  | 0, _, _, _ => rfl
  | n + 1, u, v, h => by rw [numG, numG, h 0 (Nat.succ_pos _), num_congr fun r hr => h (r + 1) (Nat.succ_lt_succ hr)]
theorem num_plus : ∀ (n : Nat) (u v : Nat → Nat), (numG n fun r => u r + v r) = numG n u + numG n v
  | 0, _, _ => rfl
  | n + 1, u, v => by rw [numG, num_plus n, numG, numG, Nat.mul_add, Nat.add_add_add_comm]
theorem num_div {a b : Nat} {u : Nat → Nat} (h : ∀ r, u r < 4096) : numG (a + b) u / 4096 ^ a = numG b fun i => u (i + a) := by
  rw [num_add, Nat.add_mul_div_left _ _ (Nat.pow_pos (by decide)), Nat.div_eq_of_lt (num_lt a u h), Nat.zero_add]
theorem num_mod {a b : Nat} {u : Nat → Nat} (h : ∀ r, u r < 4096) : numG (a + b) u % 4096 ^ a = numG a u := by
  rw [num_add, Nat.add_mul_mod_self_left, Nat.mod_eq_of_lt (num_lt a u h)]
noncomputable def rotP (p x v : Nat) : Nat := Nat.add (Nat.div v (Nat.pow 4096 (Nat.sub p x))) (Nat.mul (Nat.pow 4096 x) (Nat.mod v (Nat.pow 4096 (Nat.sub p x))))
theorem rot_ok {p x : Nat} (hx : x < p) {u : Nat → Nat} (h : ∀ r, u r < 4096) : rotP p x (numG p u) = numG p fun r => u ((r + p - x) % p) := by
  obtain ⟨y, rfl⟩ := Nat.exists_eq_add_of_le (Nat.le_of_lt hx)
  show numG (x + y) u / 4096 ^ (x + y - x) + 4096 ^ x * (numG (x + y) u % 4096 ^ (x + y - x)) = _
  rw [Nat.add_sub_cancel_left, Nat.add_comm x y, num_div h, num_mod h, Nat.add_comm y x, num_add x y]
  congr 1
  · exact num_congr fun r hr => by rw [show r + (x + y) - x = r + y by lia, Nat.mod_eq_of_lt (by lia)]
  · congr 1
    exact num_congr fun r hr => by rw [Nat.add_right_comm, Nat.add_sub_cancel, Nat.add_mod_right, Nat.mod_eq_of_lt (by lia)]
noncomputable def digG (v r : Nat) : Nat := Nat.mod (Nat.div v (Nat.pow 4096 r)) 4096
theorem dig_ok {n r : Nat} (hr : r < n) {u : Nat → Nat} (h : ∀ r, u r < 4096) : digG (numG n u) r = u r := by
  obtain ⟨m, rfl⟩ := Nat.exists_eq_add_of_lt hr
  show numG (r + m + 1) u / 4096 ^ r % 4096 = _
  rw [Nat.add_assoc, num_div h, numG, Nat.add_mul_mod_self_left, Nat.mod_eq_of_lt (h _), Nat.zero_add]
theorem num_sum : ∀ (n : Nat) (u : Nat → Nat), (∀ r, u r ≤ 512) → ((List.range n).map u).sum ≤ 512 * n ∧ ∃ q, numG n u = ((List.range n).map u).sum + 4095 * q
  | 0, _, _ => ⟨Nat.le_refl _, 0, rfl⟩
  | n + 1, u, h => by
    obtain ⟨h1, q, e⟩ := num_sum n (fun i => u (i + 1)) fun i => h _
    have h0 := h 0
    rw [List.range_succ_eq_map, List.map_cons, List.map_map, List.sum_cons, numG, e]
    change ((List.range n).map (u ∘ Nat.succ)).sum ≤ _ at h1
    change _ ∧ ∃ q', u 0 + 4096 * (((List.range n).map (u ∘ Nat.succ)).sum + _) = _
    exact ⟨by lia, q + (((List.range n).map (u ∘ Nat.succ)).sum + 4095 * q), by lia⟩
noncomputable def stepF (p x : Nat) (V : Nat → Nat) (k : Nat) : Nat := Nat.add (V k) (match k with | 0 => 0 | k + 1 => rotP p x (V k))
theorem stepF_ok {p x : Nat} (hx : x < p) {V : Nat → Nat} {f : Nat → Nat → Nat} (hV : ∀ k, V k = numG p (f k)) (h : ∀ k r, f k r < 4096) : ∀ k, stepF p x V k = numG p (stepG p x f k)
  | 0 => hV 0
  | k + 1 => by
    show V (k + 1) + rotP p x (V k) = _
    rw [hV, hV, rot_ok hx (h k), ← num_plus]; rfl
/-- all below n -/
noncomputable def lp (f : Nat → Bool) : Nat → Bool
  | 0 => true
  | n + 1 => and (f n) (lp f n)
theorem lp_ok {f : Nat → Bool} : ∀ {n : Nat}, lp f n = true → ∀ r < n, f r = true
  | n + 1, h, r, hr => by
    obtain ⟨h1, h2⟩ := Bool.and_eq_true_iff.1 h
    rcases Nat.lt_succ_iff_lt_or_eq.1 hr with hr | rfl
    · exact lp_ok h2 r hr
    · exact h1
noncomputable def rowN : Nat → List Nat
  | 2 => [1, 3, 3]
  | 3 => [1, 5, 10, 10]
  | _ => [1, 9, 36, 84, 126, 126]
noncomputable def testF (p S : Nat) (V : Nat → Nat) : Bool :=
  and (lp (fun k => Nat.beq (Nat.mod (V k) 4095) ((rowN p).getD k 0)) (Nat.succ p)) (lp (fun r => and (and (Nat.ble (digG (V p) r) 255) (Nat.beq (Nat.mod (digG (V p) r) p) (Nat.sub 1 r))) (Nat.beq (digG (V p) r) (digG (V (Nat.pred p)) (Nat.mod (Nat.sub (Nat.add S p) r) p)))) p)
noncomputable def chkF (p : Nat) : Nat → Nat → Nat → (Nat → Nat) → Bool
  | 0, _, S, V => testF p S V
  | n + 1, m, S, V => lp (fun x => or (Nat.blt x m) (chkF p n x (Nat.mod (Nat.add S x) p) (stepF p x V))) p
/-- the table of no number at all -/
noncomputable abbrev V0 (p k : Nat) : Nat := numG p (f0G k)
theorem chk2 : chkF 2 3 0 0 (V0 2) = true := by decide +kernel
theorem chk3 : chkF 3 5 0 0 (V0 3) = true := by decide +kernel
theorem chk5 : chkF 5 9 0 0 (V0 5) = true := by decide +kernel
theorem chk_all {p : Nat} (hp : Pr p) : chkF p (2 * p - 1) 0 0 (V0 p) = true := by
  rcases hp.h with rfl | rfl | rfl
  · exact chk2
  · exact chk3
  · exact chk5
/-- what a test shows of the numbers of choices -/
noncomputable def TestOk (p S : Nat) (f : Nat → Nat → Nat) : Prop := (∀ k ≤ p, ((List.range p).map (f k)).sum = (rowN p).getD k 0) ∧ ∀ r < p, f p r < 256 ∧ f p r % p = 1 - r ∧ f p r = f (p - 1) ((S + p - r) % p)
theorem test_sound {p S : Nat} (hp : Pr p) {V : Nat → Nat} {f : Nat → Nat → Nat} (hV : ∀ k, V k = numG p (f k)) (h : ∀ k r, f k r ≤ 512) (t : testF p S V = true) : TestOk p S f := by
  have p2 := hp.two
  have p5 := hp.five
  have h' : ∀ k r, f k r < 4096 := fun k r => Nat.lt_of_le_of_lt (h k r) (by decide)
  obtain ⟨t1, t2⟩ := Bool.and_eq_true_iff.1 t
  refine ⟨fun k hk => ?_, fun r hr => ?_⟩
  rotate_left
  · obtain ⟨a, b⟩ := Bool.and_eq_true_iff.1 (lp_ok t2 r hr)
    obtain ⟨c, a⟩ := Bool.and_eq_true_iff.1 a
    have a := Nat.eq_of_beq_eq_true a
    have b := Nat.eq_of_beq_eq_true b
    have c := Nat.le_of_ble_eq_true c
    rw [hV, dig_ok hr (h' p)] at a b c
    rw [hV] at b
    exact ⟨Nat.lt_succ_of_le c, a, b.trans (dig_ok (Nat.mod_lt _ (Nat.lt_of_lt_of_le Nat.two_pos p2)) (h' _))⟩
  have a : V k % 4095 = _ := Nat.eq_of_beq_eq_true (lp_ok t1 k (Nat.lt_succ_of_le hk))
  obtain ⟨s1, q, s2⟩ := num_sum p (f k) (h k)
  rw [hV, s2, Nat.add_mul_mod_self_left, Nat.mod_eq_of_lt (by lia)] at a
  exact a
theorem chk_sound {p : Nat} (hp : Pr p) : ∀ (d m S : Nat) (V : Nat → Nat) (f : Nat → Nat → Nat), (∀ k r, f k r * 2 ^ d ≤ 512) → (∀ k, V k = numG p (f k)) → S < p → chkF p d m S V = true → ∀ l : List Nat, l.length = d → l.Pairwise (· ≤ ·) → (∀ x ∈ l, m ≤ x ∧ x < p) →
    TestOk p ((S + l.sum) % p) (l.foldl (fun f x => stepG p x f) f)
  | 0, m, S, V, f, hf, hV, hS, h, l, hl, _, _ => by
    rw [List.length_eq_zero_iff.1 hl, List.sum_nil, Nat.add_zero, Nat.mod_eq_of_lt hS]
    exact test_sound hp hV (fun k r => Nat.le_trans (Nat.le_of_eq (Nat.mul_one _).symm) (hf k r)) h
  | d + 1, m, S, V, f, hf, hV, hS, h, l, hl, hs, hx => by
    cases l with
    | nil => cases hl
    | cons x l =>
      obtain ⟨h1, h2⟩ := hx x (.head _)
      have h := lp_ok h x h2
      have h3 : Nat.blt x m = false := Bool.eq_false_iff.2 fun q => absurd (Nat.blt_eq.mp q) (Nat.not_lt.2 h1)
      rw [h3, Bool.false_or] at h
      rw [List.pairwise_cons] at hs
      have hf2 : ∀ k r, f k r * 2 ^ d * 2 ≤ 512 := fun k r => by rw [Nat.mul_assoc, ← Nat.pow_succ]; exact hf k r
      have hV' := stepF_ok h2 hV fun k r => Nat.lt_of_le_of_lt (Nat.le_trans (Nat.le_mul_of_pos_right _ (Nat.pow_pos (by decide))) (hf k r)) (by decide)
      have := chk_sound hp d x ((S + x) % p) _ _ (fun k r => ?_) hV' (Nat.mod_lt _ (by lia)) h l (Nat.succ.inj hl) hs.2 fun y hy => ⟨hs.1 y hy, (hx y (.tail _ hy)).2⟩
      · rw [Nat.mod_add_mod, Nat.add_assoc, ← List.sum_cons] at this
        exact this
      · have a := hf2 k r
        cases k with
        | zero => show (f 0 r + 0) * _ ≤ _; lia
        | succ k =>
          have b := hf2 k ((r + p - x) % p)
          show (f (k + 1) r + f k ((r + p - x) % p)) * _ ≤ _
          rw [Nat.add_mul]
          lia
theorem rowN_ok {p : Nat} (hp : Pr p) : ∀ k < p + 1, (rowR [1] (2 * p - 1))[k]? = some (((rowN p).getD k 0 : Nat) : Int) := by
  rcases hp.h with rfl | rfl | rfl <;> decide
theorem test_ok {p : Nat} (hp : Pr p) (xs : List Int) (hl : xs.length = 2 * p - 1) : TestOk p ((xs.map (resN p)).sum % p) (cntG p xs) := by
  have p2 := hp.two
  have p5 := hp.five
  have hlt : ∀ x ∈ xs.map (resN p), x < p := fun x hx => by
    obtain ⟨y, _, rfl⟩ := List.mem_map.1 hx; exact res_lt hp y
  have hperm := List.mergeSort_perm (xs.map (resN p)) (fun a b => decide (a ≤ b))
  have hs := List.pairwise_mergeSort (le := fun a b : Nat => decide (a ≤ b)) (fun a b c h1 h2 => by simp at *; lia) (fun a b => by simp; lia) (xs.map (resN p))
  have h := chk_sound hp (2 * p - 1) 0 0 _ f0G (fun k r => ?_) (fun _ => rfl) (by lia) (chk_all hp) _ (by rw [hperm.length_eq, List.length_map, hl]) (hs.imp fun h => by simpa using h) (fun x hx => ⟨by lia, hlt x (hperm.mem_iff.1 hx)⟩)
  · rw [hperm.foldl_eq' (fun x hx y hy z => stepG_comm x y (hlt x (hperm.mem_iff.1 hx)) (hlt y (hperm.mem_iff.1 hy)) z), Nat.zero_add, hperm.sum_nat, List.foldl_map] at h
    exact h
  · have : 2 ^ (2 * p - 1) ≤ 2 ^ 9 := Nat.pow_le_pow_right (by decide) (by lia)
    unfold f0G; split <;> lia
theorem holdA {p : Nat} (hp : Pr p) (xs : List Int) (hl : xs.length = 2 * p - 1) : ∀ k ≤ p, (rowR [1] xs.length)[k]? = some ((colD k p (tabD p [(0, 1)] xs)).map (·.2)).sum := by
  intro k hk
  rw [hl, rowN_ok hp k (Nat.lt_succ_of_le hk), ← (test_ok hp xs hl).1 k hk]
  have : (colD k p (tabD p [(0, 1)] xs)).map (·.2) = ((List.range p).map fun r => cntG p xs k r).map fun n : Nat => (n : Int) := by
    rw [colD, List.map_map, List.map_map]
    exact List.map_congr_left fun r hr => tab_cnt hp xs k hk r (List.mem_range.1 hr)
  rw [this, sum_cast]
theorem holdB {p : Nat} (hp : Pr p) (xs : List Int) (hl : xs.length = 2 * p - 1) : ∀ r < p, 0 ≤ many p (tabD p [(0, 1)] xs) r ∧ many p (tabD p [(0, 1)] xs) r < 256 ∧ (many p (tabD p [(0, 1)] xs) r).fmod p = (if r = 0 then 1 else 0) ∧
    many p (tabD p [(0, 1)] xs) r = (dgi ((p : Int) * p - p + (xs.sum - r).fmod p) (tabD p [(0, 1)] xs)).getD 0 := by
  have p2 := hp.two
  have p5 := hp.five
  intro r hr
  have T := (test_ok hp xs hl).2 r hr
  have hS := res_sum hp xs
  generalize (xs.map (resN p)).sum = S at *
  obtain ⟨h1, h2, h3⟩ := T
  have hr' : (S % p + p - r) % p < p := Nat.mod_lt _ (by lia)
  have e := tab_cnt hp xs p (Nat.le_refl _) r hr
  have e2 := tab_cnt hp xs (p - 1) (by lia) _ hr'
  have e3 : ((p - 1 : Nat) : Int) * p + ((S % p + p - r) % p : Nat) = (p : Int) * p - p + (xs.sum - r).fmod p := by
    have h1 : ((S % p + p - r) % p : Nat) = (xs.sum - r) % (p : Int) := by
      rw [Int.natCast_emod, Int.ofNat_sub (by lia), Int.natCast_add, Int.natCast_emod, show ((S : Int) % p + p - r) = (S : Int) % p - r + p from Int.add_right_comm _ _ _, Int.add_emod_right, hS, Int.emod_sub_emod]
    rw [fmod5, h1, Int.ofNat_sub (Nat.le_of_succ_le p2), Int.sub_mul]
    rw [show ((1 : Nat) : Int) * p = p from Int.one_mul _]
  rw [e3, ← h3] at e2
  show 0 ≤ dv _ _ ∧ dv _ _ < 256 ∧ (dv _ _).fmod p = _ ∧ dv _ _ = dv _ _
  rw [e, e2]
  refine ⟨Int.natCast_nonneg _, Int.ofNat_lt.2 h1, ?_, rfl⟩
  rw [fmod_nat, h2]
  rcases r with _ | r
  · rfl
  · rw [if_neg (Nat.succ_ne_zero r), Nat.sub_eq_zero_of_le (Nat.le_add_left 1 r)]; rfl
theorem tab_res {p : Nat} : ∀ (xs : List Int) (t : DI), tabD p t xs = tabD p t (xs.map (·.fmod p))
  | [], _ => rfl
  | x :: xs, t => by
    show tabD p (stepD p t x) xs = tabD p (stepD p t (x.fmod p)) (xs.map (·.fmod p))
    rw [← tab_res xs]
    congr 1
    simp only [stepD, fmod5, Int.emod_emod_of_dvd _ (Int.dvd_refl _)]
theorem holdC {p : Nat} (hp : Pr p) (a : Int) : dgi ((p : Int) * p) (tabD p [(0, 1)] (heapD p a)) = none := by
  have p2 := hp.two
  have p5 := hp.five
  have e : (heapD p a).map (·.fmod p) = (heapD p (resN p a)).map (·.fmod p) := by
    simp only [heapD, List.map_append, List.map_replicate, fmod5, res_cast hp, Int.emod_emod_of_dvd _ (Int.dvd_refl _), Int.emod_add_emod]
  rw [tab_res, e, ← tab_res]
  have h := res_lt hp a
  generalize resN p a = r at h
  revert r
  rcases hp.h with rfl | rfl | rfl <;> decide +kernel
theorem hold_fin (n p : Nat) (hp : Pr p) (xs : List Int) (h9 : xs.length = 2 * p - 1) (hx : ∀ y ∈ xs, -250 ≤ y ∧ y < 250) :
    ∃ σ', (lev (n + 150)).call dHold none noV [.v (.lst (xs.map .int)), .v (.int p)] [] (.v (.bool true)) σ' :=
  hold_ok n p hp xs h9 hx (holdA hp xs h9) (holdB hp xs h9) fun a _ => holdC hp a
end
noncomputable section
theorem pack_rv {σ : St} {c : F × Bool} {k : Nat} {x : F} (h : σ[k]? = some c) : pack σ [.r k, .v x] 0 = some ([.r 0, .v x], [c], [k]) := by simp only [pack, h]; rfl
theorem pack_r {σ : St} {c : F × Bool} {k : Nat} (h : σ[k]? = some c) : pack σ [.r k] 0 = some ([.r 0], [c], [k]) := by simp only [pack, h]; rfl
theorem unpack_cat {σ0 : St} {N : Nat} {c c' : F × Bool} (h : σ0.length = N) : unpack (σ0 ++ [c]) [c'] [N] = some (σ0 ++ [c']) := by rw [unpack, cat_set h]; rfl
/-! ## _law_some -/
noncomputable abbrev It := Int × List Int
noncomputable abbrev encI (x : It) : F := .tup [.int x.1, .lst (x.2.map .int)]
noncomputable abbrev IF (l : List It) : List F := l.map encI
noncomputable def itA (its : List It) (k : Nat) : It := its.getD k (0, [])
theorem it_get {its : List It} {k : Nat} (h : k < its.length) : ItR (.lst (IF its)) (k : Int) (encI (itA its k)) :=
  .lst (Int.natCast_nonneg _) (by rw [Int.toNat_natCast, List.getElem?_map, itA]; simp [h])
theorem it_getK {xs : List K} {k : Nat} (h : k < xs.length) : ItR (.lst (KF xs)) (k : Int) (enc (fa xs k)) := .lst (Int.natCast_nonneg _) (kf_get h)
noncomputable def keyI (p : Nat) (its : List It) (k : Nat) : K := ((itA its k).1.fmod p, k)
noncomputable abbrev VSome (a : A) (o3 o4 o5 o6 o7 o8 o9 o13 o14 : Option A) : List (Option A) := [some a, none, none, o3, o4, o5, o6, o7, o8, o9, none, none, none, o13, o14]
noncomputable abbrev CSome (p : Nat) (h o10 o11 o12 : Option A) : List (Option A) := [none, some (.v (.int p)), h, none, none, none, none, none, none, none, o10, o11, o12]
noncomputable abbrev someF1 : Stmt := stmtAt dSome.body 1
noncomputable abbrev someF2 : Stmt := stmtAt dSome.body 3
noncomputable abbrev someF3 : Stmt := stmtAt dSome.body 7
noncomputable abbrev someF4 : Stmt := stmtAt (forB someF3) 4
set_option maxHeartbeats 1000000 in
theorem some_push (n p : Nat) (hp : Pr p) (a : A) (its : List It) (σ0 : St) (N : Nat) (hN : σ0.length = N) (hit : ∀ c, a.get (σ0 ++ [c]) = some (.lst (IF its))) :
    ∀ (ks : List Nat) (heap : List K) (o3 : Option A), HeapAt heap → heap.length + ks.length ≤ 60 → (∀ k ∈ ks, k < 60 ∧ k < its.length ∧ -256 ≤ (itA its k).1 ∧ (itA its k).1 < 256) →
    ∃ heap' o3', ForR (lev (n + 140)) (forT someF1) (forB someF1) (ks.map fun k : Nat => .int (k : Int)) (fm dSome.sc none (nestOf dSome.body) (VSome a o3 none none none none none none none none) (slot dSome.sc.names (CSome p (some (.r N)) none none none))) (σ0 ++ [(.lst (KF heap), true)]) .next
      (fm dSome.sc none (nestOf dSome.body) (VSome a o3' none none none none none none none none) (slot dSome.sc.names (CSome p (some (.r N)) none none none))) (σ0 ++ [(.lst (KF heap'), true)]) ∧ HeapAt heap' ∧ heap'.Perm (ks.map (keyI p its) ++ heap)
  | [], heap, o3, hh, _, _ => ⟨heap, o3, .nil, hh, .refl _⟩
  | k :: ks, heap, o3, hh, hz, hl => by
    have p2 := hp.two
    have p5 := hp.five
    obtain ⟨h1, h2, h3, h4⟩ := hl k (.head _)
    simp only [List.length_cons] at hz
    obtain ⟨ys, w, g1, g2⟩ := push_ok (n + 118) (keyI p its k) heap (by lia) hh
    obtain ⟨heap', o3', ih, i1, i2⟩ := some_push n p hp a its σ0 N hN hit ks ys (some (.v (.int k))) g1 (by rw [g2.length_eq]; simp; lia) fun j hj => hl j (.tail _ hj)
    refine ⟨heap', o3', ?_, i1, i2.trans ((List.Perm.append_left _ g2).trans List.perm_middle)⟩
    obtain ⟨σ', hd⟩ := div_ok p hp.h (n + 15) (itA its k).1 h3 h4
    apply ForR.next
    · exact b_loc ⟨by rfl, by rfl⟩
    · walk_at "st"
      · apply ev_of; apply EvS.callG f_push (by with_unfolding_all rfl) (by with_unfolding_all rfl)
        · apply ArgsR.cons (by rfl)
          · walk_at "s"
          · apply ArgsR.cons (by rfl)
            · walk_at "s"
              · apply ListR.cons (by rfl)
                · walk_at "s"
                  · apply ev_of; apply EvS.callG f_div (by with_unfolding_all rfl) (by with_unfolding_all rfl)
                    · apply ArgsR.cons (by rfl)
                      · walk_at "s"
                        · walk_at "s"
                          · walk_at "s"
                          · walk_at "s"
                          · exact hit _
                          · exact it_get h2
                          · exact small_nat (by lia)
                        · walk_at "s"
                        · rfl
                        · exact ItR.tup (by decide) rfl
                        · decide
                      · repeat walk_at "s"
                    · rfl
                    · exact hd
                    · rfl
                    · exact unpack_nil
                  · walk_at "s"
                  · rfl
                  · exact ItR.tup (by decide) rfl
                  · decide
                · rfl
                · repeat walk_at "s"
              · simp
            · exact ArgsR.nil
        · exact pack_rv (cat_get hN)
        · exact w
        · rfl
        · exact unpack_cat hN
      · exact ExecsR.nil
    · exact ih

noncomputable def someC : Expr := asgE (stmtAt dSome.body 2)
theorem some_pop (n : Nat) (cs : List (Option A)) (σ0 : St) (N : Nat) (hN : σ0.length = N) (hc : nth cs 2 = some (.r N)) : ∀ (ks : List Nat) (heap : List K) (out : List F) (o0 o1 : Option A), HeapAt heap → heap.length = ks.length → ks.length ≤ 60 → out.length + ks.length ≤ 1000 →
    ∃ row fr', LTurns (lev (n + 31)) (compE someC) (compT someC) [] [] (ks.map fun k : Nat => .int (k : Int)) (fm (compS someC) none none [o0, o1] (slot dSome.sc.names cs)) (σ0 ++ [(.lst (KF heap), true)]) out fr' (σ0 ++ [(.lst [], true)]) (out ++ KF row) ∧ row.Perm heap ∧ row.Pairwise KL
  | [], heap, out, o0, o1, hh, hl, _, _ => by
    rw [List.length_nil] at hl
    rw [List.length_eq_zero_iff.1 hl]
    exact ⟨[], _, by rw [show KF [] = [] from rfl, List.append_nil]; exact .nil, .refl _, .nil⟩
  | k :: ks, heap, out, o0, o1, hh, hl, hz, ho => by
    simp only [List.length_cons] at hl hz ho
    obtain ⟨ys, w, g1, g2, g3⟩ := pop_ok n heap (by lia) (by lia) hh
    have hy : ys.length = ks.length := by have := g2.length_eq; simp at this; lia
    obtain ⟨row, fr', ih, i1, i2⟩ := some_pop n cs σ0 N hN hc ks ys (out ++ [enc (fa heap 0)]) o0 (some (.v (.int k))) g1 hy (by lia) (by simp; lia)
    refine ⟨fa heap 0 :: row, fr', ?_, (i1.cons _).trans g2, List.pairwise_cons.2 ⟨fun z hz => g3 z (g2.mem_iff.1 (.tail _ (i1.mem_iff.1 hz))), i2⟩⟩
    rw [show KF (fa heap 0 :: row) = enc (fa heap 0) :: KF row from rfl, List.append_cons out]
    refine LTurns.cons (LTurn.elt rfl ?_ .nil (a := .v (enc (fa heap 0))) (σ2 := σ0 ++ [(.lst (KF ys), true)]) ?_ rfl (by lia)) ih
    · exact b_loc (i := 1) ⟨by rfl, by rfl⟩
    · apply ev_of; apply EvS.callG f_pop (by with_unfolding_all rfl) (by with_unfolding_all rfl)
      · apply ArgsR.cons (by rfl)
        · exact ev_of (ev_fre (by rfl) ⟨by rfl, by rfl⟩ hc)
        · exact ArgsR.nil
      · exact pack_r (cat_get hN)
      · exact w
      · rfl
      · exact unpack_cat hN
end
noncomputable section
noncomputable def wayD (p : Nat) (s : Int) (w : DI) : DI := w.foldl (fun d q => dsi ((q.1 + s).fmod p) q.2 d) []
noncomputable def chK (p : Nat) (s : Int) (ks acc : List Int) : List Int := ks.foldl (fun acc k => if acc.contains ((k + s).fmod p) then acc else acc ++ [(k + s).fmod p]) acc
/-! ## behind k pairs there are more than k rests (Cauchy, Davenport) -/
noncomputable def rng (p : Nat) : List Int := (List.range p).map fun n : Nat => (n : Int)
theorem mem_rng {p : Nat} {x : Int} (h0 : 0 ≤ x) (h : x < p) : x ∈ rng p := List.mem_map.2 ⟨x.toNat, List.mem_range.2 ((Int.toNat_lt h0).2 h), Int.toNat_of_nonneg h0⟩
theorem rng_len (p : Nat) : (rng p).length = p := (List.length_map _).trans List.length_range
theorem chK_mem {p : Nat} {s x : Int} : ∀ {ks acc : List Int}, x ∈ chK p s ks acc ↔ x ∈ acc ∨ ∃ k ∈ ks, x = (k + s).fmod p
  | [], acc => ⟨.inl, fun h => h.elim id fun ⟨_, h, _⟩ => nomatch h⟩
  | k :: ks, acc => by
    refine (chK_mem (ks := ks) (acc := if acc.contains ((k + s).fmod p) then acc else acc ++ [(k + s).fmod p])).trans ?_
    have : (∃ j ∈ k :: ks, x = (j + s).fmod p) ↔ x = (k + s).fmod p ∨ ∃ j ∈ ks, x = (j + s).fmod p :=
      ⟨fun ⟨j, h, e⟩ => (List.mem_cons.1 h).imp (fun q : j = k => q ▸ e) fun h => ⟨j, h, e⟩, fun h => h.elim (fun e => ⟨k, .head _, e⟩) fun ⟨j, h, e⟩ => ⟨j, .tail _ h, e⟩⟩
    rw [this, ← or_assoc]
    refine or_congr_left ?_
    split
    · rename_i h; exact ⟨.inl, fun q => q.elim id fun e => e ▸ List.contains_iff_mem.1 h⟩
    · rw [List.mem_append, List.mem_singleton]
theorem add_keys : ∀ t w : DI, (addD w t).map (·.1) = t.foldl (fun acc q => if acc.contains q.1 then acc else acc ++ [q.1]) (w.map (·.1))
  | [], _ => rfl
  | q :: t, w => by
    refine (add_keys t _).trans (congrArg (List.foldl _ · t) ((dsi_keys _ _ _).trans ?_))
    cases h : dgi q.1 w with
    | none => exact (if_neg fun c => dgi_none h (List.contains_iff_mem.1 c)).symm
    | some v =>
      refine (if_pos (List.contains_iff_mem.2 (Classical.byContradiction fun c => ?_))).symm
      rw [dgi_mem c] at h; cases h
theorem dsi_sum (k x : Int) : ∀ w : DI, ((dsi k ((dgi k w).getD 0 + x) w).map (·.2)).sum = (w.map (·.2)).sum + x
  | [] => by show (0 + x) + 0 = 0 + x; rw [Int.add_zero]
  | (j, y) :: w => by
    have ih := dsi_sum k x w
    simp only [dsi, dgi]
    split
    · exact Int.add_right_comm _ _ _
    · exact (congrArg (y + ·) ih).trans (Int.add_assoc _ _ _).symm
theorem add_sum : ∀ t w : DI, ((addD w t).map (·.2)).sum = (w.map (·.2)).sum + (t.map (·.2)).sum
  | [], _ => (Int.add_zero _).symm
  | q :: t, w => by
    refine (add_sum t _).trans ?_
    rw [dsi_sum, List.map_cons, List.sum_cons, Int.add_assoc]
/-- the rests and the numbers of ways behind i - 1 pairs -/
structure WOk (p i : Nat) (w : DI) (ks : List Int) : Prop where
  keys : w.map (·.1) = ks
  nd : ks.Nodup
  rg : ∀ k ∈ ks, 0 ≤ k ∧ k < p
  le : i ≤ ks.length
  sum : (w.map (·.2)).sum = 2 ^ (i - 1)
theorem WOk.len {p i : Nat} {w : DI} {ks : List Int} (W : WOk p i w ks) : ks.length ≤ p := by
  have := W.nd.length_le_of_subset fun k h => mem_rng (W.rg k h).1 (W.rg k h).2
  rwa [rng_len] at this
theorem WOk.zero {p : Nat} {w : DI} {ks : List Int} (hp : 0 < p) (W : WOk p p w ks) : ks.contains 0 = true := by
  refine List.contains_iff_mem.2 (Classical.byContradiction fun c => ?_)
  have := (List.nodup_cons.2 ⟨c, W.nd⟩).length_le_of_subset (l₂ := rng p) fun k h => by
    rcases List.mem_cons.1 h with rfl | h
    · exact mem_rng (Int.le_refl _) (Int.natCast_pos.2 hp)
    · exact mem_rng (W.rg k h).1 (W.rg k h).2
  rw [rng_len] at this
  exact Nat.not_succ_le_self _ (Nat.le_trans (Nat.succ_le_succ W.le) this)
theorem orbit {p : Nat} (hp : Pr p) : ∀ a < p, ∀ s < p, s ≠ 0 → ∀ r < p, ∃ j < p, (a + j * s) % p = r := by
  rcases hp.h with rfl | rfl | rfl <;> decide
theorem grow {p i s : Nat} (hp : Pr p) {w : DI} {ks : List Int} (W : WOk p i w ks) (hs : s < p) (h0 : s ≠ 0) (h1 : 1 ≤ i) (hi : i < p) (hn : (chK p s ks ks).Nodup) : i + 1 ≤ (chK p s ks ks).length := by
  have hp0 : (0 : Int) < p := pr_pos hp
  by_cases c : ∃ k ∈ ks, (k + s).fmod p ∉ ks
  · obtain ⟨k, hk, hc⟩ := c
    refine Nat.le_trans (Nat.succ_le_succ W.le) ((List.nodup_cons.2 ⟨hc, W.nd⟩).length_le_of_subset fun x h => chK_mem.2 ?_)
    exact (List.mem_cons.1 h).symm.imp_right fun e => ⟨k, hk, e⟩
  · refine Nat.le_trans hi (Nat.le_trans ?_ (W.nd.length_le_of_subset fun x h => chK_mem.2 (.inl h)))
    cases ks with
    | nil => exact absurd (Nat.le_trans h1 W.le) (Nat.not_succ_le_zero 0)
    | cons a ks =>
      obtain ⟨g1, g2⟩ := W.rg a (.head _)
      obtain ⟨b, rfl⟩ := Int.eq_ofNat_of_zero_le g1
      have all : ∀ j : Nat, (((b + j * s) % p : Nat) : Int) ∈ (b : Int) :: ks := fun j => by
        induction j with
        | zero => rw [Nat.zero_mul, Nat.add_zero, Nat.mod_eq_of_lt (Int.ofNat_lt.1 g2)]; exact .head _
        | succ j ih =>
          have := Classical.byContradiction fun q => c ⟨_, ih, q⟩
          rw [fmod5, ← Int.natCast_add, ← Int.natCast_emod, Nat.mod_add_mod, Nat.add_assoc, ← Nat.succ_mul] at this
          exact this
      have := (List.nodup_range (n := p)).length_le_of_subset (l₂ := ((b : Int) :: ks).map Int.toNat) fun r h => by
        obtain ⟨j, _, e⟩ := orbit hp b (Int.ofNat_lt.1 g2) s hs h0 r (List.mem_range.1 h)
        exact List.mem_map.2 ⟨_, all j, e⟩
      rwa [List.length_range, List.length_map] at this
theorem WOk.step {p i s : Nat} (hp : Pr p) {w : DI} {ks : List Int} (W : WOk p i w ks) (hs : s < p) (h0 : s ≠ 0) (h1 : 1 ≤ i) (hi : i < p) : WOk p (i + 1) (addD w (wayD p s w)) (chK p s ks ks) := by
  have hp0 : (0 : Int) < p := pr_pos hp
  obtain ⟨rfl, nd, rg, le, sum⟩ := W
  have hk : ((w.map fun q : Int × Int => ((q.1 + s).fmod p, q.2)).map (·.1)).Nodup := by
    rw [List.map_map, List.Nodup, List.pairwise_map]
    rw [List.Nodup, List.pairwise_map] at nd
    refine nd.imp_of_mem fun {x y} hx hy ne e => ne ?_
    obtain ⟨x1, x2⟩ := rg _ (List.mem_map_of_mem hx)
    obtain ⟨y1, y2⟩ := rg _ (List.mem_map_of_mem hy)
    have e : (x.1 + s) % (p : Int) = (y.1 + s) % (p : Int) := by rw [← fmod5, ← fmod5]; exact e
    rw [Int.emod_add_cancel_right, Int.emod_eq_of_lt x1 x2, Int.emod_eq_of_lt y1 y2] at e
    exact e
  have hw : wayD p s w = w.map fun q : Int × Int => ((q.1 + s).fmod p, q.2) := by
    rw [wayD, ← List.foldl_map (f := fun q : Int × Int => ((q.1 + s).fmod p, q.2)) (g := fun (d : DI) q => dsi q.1 q.2 d)]
    exact copyD _ [] hk
  have e : (addD w (wayD p s w)).map (·.1) = chK p s (w.map (·.1)) (w.map (·.1)) := by
    rw [add_keys, hw, List.foldl_map, chK, List.foldl_map]
  have hn : (chK p s (w.map (·.1)) (w.map (·.1))).Nodup := e ▸ addD_nodup nd
  refine ⟨e, hn, fun k h => ?_, grow hp ⟨rfl, nd, rg, le, sum⟩ hs h0 h1 hi hn, ?_⟩
  · rcases chK_mem.1 h with h | ⟨k, _, rfl⟩
    · exact rg k h
    · rw [fmod5]; exact ⟨Int.emod_nonneg _ (Int.ne_of_gt hp0), Int.emod_lt_of_pos _ hp0⟩
  · rw [add_sum, hw, List.map_map, sum]
    show (2 : Int) ^ (i - 1) + (w.map (·.2)).sum = 2 ^ i
    obtain ⟨i, rfl⟩ := Nat.exists_eq_add_of_le' h1
    rw [sum, Nat.add_sub_cancel, Int.pow_succ]; exact (Int.two_mul _).symm.trans (Int.mul_comm _ _)
theorem WOk.one {p s : Nat} (h : s < p) : WOk p 1 [((s : Int), 1)] [(s : Int)] :=
  ⟨rfl, List.nodup_cons.2 ⟨List.not_mem_nil, .nil⟩, fun k q => by rw [List.mem_singleton] at q; subst q; exact ⟨Int.natCast_nonneg _, Int.ofNat_lt.2 h⟩, Nat.le_refl 1, rfl⟩
/-! ## the rows, what is picked -/
structure RowOk (p : Nat) (its : List It) (row : List K) : Prop where
  perm : row.Perm ((List.range (2 * p - 1)).map (keyI p its))
  sorted : row.Pairwise KL
section
variable {p : Nat} {its : List It} {row : List K} (R : RowOk p its row)
include R
theorem RowOk.len : row.length = 2 * p - 1 := by rw [R.perm.length_eq]; simp
theorem RowOk.mem {i : Nat} (h : i < 2 * p - 1) : ∃ k < 2 * p - 1, fa row i = keyI p its k := by
  have hi : i < row.length := by rw [R.len]; exact h
  have h1 := List.mem_of_getElem? (fa_get hi)
  obtain ⟨k, hk, e⟩ := List.mem_map.1 (R.perm.mem_iff.1 h1)
  exact ⟨k, List.mem_range.1 hk, e.symm⟩
theorem RowOk.inj {i j : Nat} (hi : i < 2 * p - 1) (hj : j < 2 * p - 1) (e : (fa row i).2 = (fa row j).2) : i = j := by
  have hn : (row.map (·.2)).Nodup := by
    rw [(R.perm.map (·.2)).nodup_iff, List.map_map]
    rw [List.Nodup, List.pairwise_map]
    exact (List.nodup_range).imp fun {a b} h => by show ((a : Nat) : Int) ≠ b; lia
  have li := R.len
  refine (List.getElem?_inj (by simpa [li] using hi) hn).1 ?_
  rw [List.getElem?_map, List.getElem?_map, fa_get (by lia), fa_get (by lia), Option.map_some, Option.map_some, e]
theorem RowOk.le {i j : Nat} (hj : j < 2 * p - 1) (h : i ≤ j) : (fa row i).1 ≤ (fa row j).1 := by
  have li := R.len
  rcases Nat.eq_or_lt_of_le h with rfl | h
  · exact Int.le_refl _
  · have := List.pairwise_iff_getElem.1 R.sorted i j (by lia) (by lia) h
    have e1 := fa_get (xs := row) (i := i) (by lia)
    have e2 := fa_get (xs := row) (i := j) (by lia)
    rw [List.getElem?_eq_getElem (by lia)] at e1 e2
    rw [Option.some.inj e1, Option.some.inj e2] at this
    unfold KL at this; lia
theorem RowOk.res (hp : Pr p) {i : Nat} (hi : i < 2 * p - 1) : 0 ≤ (fa row i).1 ∧ (fa row i).1 < p := by
  have p2 := hp.two
  have p5 := hp.five
  obtain ⟨k, _, e⟩ := R.mem hi
  rw [e, keyI, fmod5]
  exact ⟨Int.emod_nonneg _ (Int.ne_of_gt (pr_pos hp)), Int.emod_lt_of_pos _ (pr_pos hp)⟩
end
structure PickOk (p : Nat) (its : List It) (kl : List Nat) : Prop where
  len : kl.length = p
  nodup : kl.Nodup
  lt : ∀ k ∈ kl, k < 2 * p - 1
  sum : (kl.map fun k => (itA its k).1).sum.fmod p = 0
theorem sum_mod {p : Nat} : ∀ l : List Int, (l.map fun x : Int => x.fmod p).sum.fmod p = l.sum.fmod p
  | [] => rfl
  | x :: l => by
    have := sum_mod (p := p) l
    rw [fmod5, fmod5] at this
    rw [List.map_cons, List.sum_cons, List.sum_cons, fmod5, fmod5, fmod5, Int.emod_add_emod, ← Int.add_emod_emod, this, Int.add_emod_emod]
theorem sum_const (c : Int) : ∀ n : Nat, ((List.range n).map fun _ => c).sum = n * c
  | 0 => (Int.zero_mul c).symm
  | n + 1 => by
    rw [List.range_succ, List.map_append, List.sum_append, sum_const c n, Int.natCast_add, Int.add_mul]
    show _ + (c + 0) = _ + (1 : Int) * c
    rw [Int.add_zero, Int.one_mul]
theorem pick_of {p : Nat} (hp : Pr p) {its : List It} {row : List K} (R : RowOk p its row) (e : Nat → Nat) (he : ∀ j < p, e j < 2 * p - 1) (inj : ∀ j < p, ∀ i < p, e j = e i → j = i)
    (hs : ((List.range p).map fun j => (fa row (e j)).1).sum.fmod p = 0) : ∃ kl, PickOk p its kl ∧ (List.range p).map (fun j => (fa row (e j)).2) = kl.map fun k : Nat => (k : Int) := by
  have p2 := hp.two
  have p5 := hp.five
  have hk : ∀ i < 2 * p - 1, fa row i = keyI p its (fa row i).2.toNat ∧ (fa row i).2.toNat < 2 * p - 1 := fun i hi => by
    obtain ⟨k, h1, h2⟩ := R.mem hi
    rw [h2]; exact ⟨rfl, h1⟩
  refine ⟨(List.range p).map fun j => (fa row (e j)).2.toNat, ⟨by simp, ?_, ?_, ?_⟩, ?_⟩
  · rw [List.Nodup, List.pairwise_map]
    refine (List.nodup_range).imp_of_mem fun {a b} ha hb hab h => hab ?_
    have ha := List.mem_range.1 ha
    have hb := List.mem_range.1 hb
    obtain ⟨q1, q2⟩ := hk (e a) (he a ha)
    obtain ⟨q3, q4⟩ := hk (e b) (he b hb)
    exact inj a ha b hb (R.inj (he a ha) (he b hb) (by rw [q1, q3, h]))
  · intro k hk'
    obtain ⟨j, hj, rfl⟩ := List.mem_map.1 hk'
    exact (hk _ (he j (List.mem_range.1 hj))).2
  · rw [List.map_map, ← sum_mod, List.map_map]
    rw [← hs]
    congr 2
    refine List.map_congr_left fun j hj => ?_
    show ((itA its (fa row (e j)).2.toNat).1).fmod p = (fa row (e j)).1
    conv => rhs; rw [(hk (e j) (he j (List.mem_range.1 hj))).1]
    rfl
  · rw [List.map_map]
    refine List.map_congr_left fun j hj => ?_
    show (fa row (e j)).2 = (((fa row (e j)).2.toNat : Nat) : Int)
    obtain ⟨q1, _⟩ := hk (e j) (he j (List.mem_range.1 hj))
    rw [q1]; rfl
theorem pick_same {p : Nat} (hp : Pr p) {its : List It} {row : List K} (R : RowOk p its row) {i : Nat} (hi : i < p) (h : (fa row i).1 = (fa row (i + p - 1)).1) :
    ∃ kl, PickOk p its kl ∧ (List.range p).map (fun j => (fa row (i + j)).2) = kl.map fun k : Nat => (k : Int) := by
  have p2 := hp.two
  have p5 := hp.five
  refine pick_of hp R (fun j => i + j) (fun j hj => by lia) (fun j _ k _ q => by lia) ?_
  have e : (List.range p).map (fun j => (fa row (i + j)).1) = (List.range p).map fun _ => (fa row i).1 := List.map_congr_left fun j hj => by
    have hj := List.mem_range.1 hj
    have h1 := R.le (i := i) (j := i + j) (by lia) (by lia)
    have h2 := R.le (i := i + j) (j := i + p - 1) (by lia) (by lia)
    lia
  rw [e, fmod5, sum_const, Int.mul_emod_right]

/-! ## the ways -/
noncomputable def Sel (p i : Nat) (e : Nat → Nat) : Prop := ∀ j < p, e j = j ∨ (1 ≤ j ∧ j < i ∧ e j = j + p - 1)
noncomputable def EntOk (p : Nat) (row : List K) (i : Nat) (q : Int × List Int) : Prop := ∃ e, Sel p i e ∧ q.2 = (List.range p).map (fun j => (fa row (e j)).2) ∧ ((List.range p).map fun j => (fa row (e j)).1).sum.fmod p = q.1
theorem take_fa {p : Nat} {row : List K} (h : p ≤ row.length) : row.take p = (List.range p).map fun j => fa row j := by
  apply List.ext_getElem
  · simp; lia
  · intro j h1 h2
    simp only [List.length_take] at h1
    have := fa_get (xs := row) (i := j) (by lia)
    rw [List.getElem?_eq_getElem (by lia)] at this
    simp [Option.some.inj this]
theorem drop_fa {p i : Nat} {row : List K} (h : i + p ≤ row.length) : (row.drop i).take p = (List.range p).map fun j => fa row (i + j) := by
  apply List.ext_getElem
  · simp; lia
  · intro j h1 h2
    simp only [List.length_take, List.length_drop] at h1
    have := fa_get (xs := row) (i := i + j) (by lia)
    rw [List.getElem?_eq_getElem (by lia)] at this
    simp [Option.some.inj this]
theorem ent_start {p : Nat} {row : List K} (h : p ≤ row.length) : EntOk p row 1 (((row.take p).map fun q : K => q.1).sum.fmod p, (row.take p).map fun q : K => q.2) :=
  ⟨id, fun _ _ => .inl rfl, by show ((row.take p).map fun q : K => q.2) = _; rw [take_fa h, List.map_map]; rfl, by rw [take_fa h, List.map_map]; rfl⟩
theorem ent_keep {p i : Nat} {row : List K} {q : Int × List Int} (h : EntOk p row i q) : EntOk p row (i + 1) q := by
  obtain ⟨e, h1, h2⟩ := h
  exact ⟨e, fun j hj => (h1 j hj).imp id fun ⟨a, b, c⟩ => ⟨a, by lia, c⟩, h2⟩
theorem sum_upd (f : Nat → Int) (v : Int) : ∀ (n i : Nat), i < n → ((List.range n).map fun j => if j = i then v else f j).sum = ((List.range n).map f).sum + (v - f i)
  | 0, _, h => absurd h (Nat.not_lt_zero _)
  | n + 1, i, h => by
    rw [List.range_succ, List.map_append, List.map_append, List.sum_append, List.sum_append]
    by_cases hi : i = n
    · subst hi
      have : (List.range i).map (fun j => if j = i then v else f j) = (List.range i).map f := List.map_congr_left fun j hj => by
        rw [if_neg (Nat.ne_of_lt (List.mem_range.1 hj))]
      rw [this]; simp; lia
    · rw [sum_upd f v n i (by lia)]
      simp [Ne.symm hi]; lia
theorem ent_raise {p : Nat} (hp : Pr p) {its : List It} {row : List K} (R : RowOk p its row) {i : Nat} (h0 : 1 ≤ i) (hi : i < p) {q : Int × List Int} (h : EntOk p row i q) :
    EntOk p row (i + 1) ((q.1 + ((fa row (i + p - 1)).1 - (fa row i).1)).fmod p, q.2.map fun x => if x = (fa row i).2 then (fa row (i + p - 1)).2 else x) := by
  have p2 := hp.two
  have p5 := hp.five
  obtain ⟨e, h1, h2, h3⟩ := h
  have hei : e i = i := (h1 i hi).elim id fun ⟨_, b, _⟩ => absurd b (by lia)
  refine ⟨fun j => if j = i then i + p - 1 else e j, fun j hj => ?_, ?_, ?_⟩
  · by_cases hj' : j = i
    · subst hj'; exact .inr ⟨h0, by lia, if_pos rfl⟩
    · simp only [if_neg hj']
      exact (h1 j hj).imp id fun ⟨a, b, c⟩ => ⟨a, by lia, c⟩
  · rw [h2, List.map_map]
    refine List.map_congr_left fun j hj => ?_
    have hj := List.mem_range.1 hj
    show (if (fa row (e j)).2 = (fa row i).2 then (fa row (i + p - 1)).2 else (fa row (e j)).2) = (fa row (if j = i then i + p - 1 else e j)).2
    by_cases hj' : j = i
    · rw [if_pos hj', hj', hei, if_pos rfl]
    · rw [if_neg hj', if_neg]
      intro q
      have hb : e j < 2 * p - 1 := (h1 j hj).elim (fun q => by lia) fun ⟨a, b, c⟩ => by lia
      have := R.inj hb (j := i) (by lia) q
      rcases h1 j hj with c | ⟨a, b, c⟩ <;> lia
  · have := sum_upd (fun j => (fa row (e j)).1) (fa row (i + p - 1)).1 p i hi
    have e2 : ((List.range p).map fun j => (fa row (if j = i then i + p - 1 else e j)).1) = (List.range p).map fun j => if j = i then (fa row (i + p - 1)).1 else (fa row (e j)).1 := List.map_congr_left fun j _ => by split <;> rfl
    rw [e2, this, hei]
    rw [← h3]
    rw [fmod5, fmod5, fmod5, Int.emod_add_emod]
noncomputable def chD (p : Nat) (s lo hi : Int) (c0 c : List (Int × List Int)) : List (Int × List Int) := c0.foldl (fun c q => if (c.map (·.1)).contains ((q.1 + s).fmod p) then c else c ++ [((q.1 + s).fmod p, q.2.map fun x => if x = lo then hi else x)]) c
theorem chD_keys (p : Nat) (s lo hi : Int) : ∀ c0 c : List (Int × List Int), (chD p s lo hi c0 c).map (·.1) = chK p s (c0.map (·.1)) (c.map (·.1))
  | [], _ => rfl
  | q :: c0, c => by
    show (chD p s lo hi c0 _).map (·.1) = chK p s (c0.map (·.1)) _
    rw [chD_keys p s lo hi c0]
    congr 1
    show _ = if _ then _ else _
    split <;> simp_all
theorem chD_ent {p : Nat} (hp : Pr p) {its : List It} {row : List K} (R : RowOk p its row) {i : Nat} (h0 : 1 ≤ i) (hi : i < p) : ∀ c0 c : List (Int × List Int), (∀ q ∈ c0, EntOk p row i q) → (∀ q ∈ c, EntOk p row (i + 1) q) →
    ∀ q ∈ chD p ((fa row (i + p - 1)).1 - (fa row i).1) (fa row i).2 (fa row (i + p - 1)).2 c0 c, EntOk p row (i + 1) q
  | [], c, _, hc => hc
  | q :: c0, c, h, hc => by
    have p2 := hp.two
    have p5 := hp.five
    refine chD_ent hp R h0 hi c0 _ (fun z hz => h z (.tail _ hz)) ?_
    dsimp only
    split
    · exact hc
    · intro z hz
      rcases List.mem_append.1 hz with hz | hz
      · exact hc z hz
      · rw [List.mem_singleton] at hz; subst hz
        exact ent_raise hp R h0 hi (h q (.head _))
theorem ent_pick {p : Nat} (hp : Pr p) {its : List It} {row : List K} (R : RowOk p its row) {L : List Int} (h : EntOk p row p (0, L)) : ∃ kl, PickOk p its kl ∧ L = kl.map fun k : Nat => (k : Int) := by
  have p2 := hp.two
  have p5 := hp.five
  obtain ⟨e, h1, h2, h3⟩ := h
  simp only at h2 h3
  rw [h2]
  exact pick_of hp R e (fun j hj => (h1 j hj).elim (fun q => by lia) fun ⟨a, b, c⟩ => by lia) (fun j hj i hi q => by
    rcases h1 j hj with c | ⟨a, b, c⟩ <;> rcases h1 i hi with c' | ⟨a', b', c'⟩ <;> lia) h3
end
noncomputable section
theorem clip_nat (n i : Nat) : clip n (i : Int) = min i n := by unfold clip; rw [if_neg (Int.not_lt.2 (Int.natCast_nonneg _))]; rfl
theorem slc_nat {xs : List F} {i j : Nat} (h1 : i ≤ xs.length) (h2 : j ≤ xs.length) : slc xs (some (i : Int)) (some (j : Int)) = (xs.drop i).take (j - i) := by
  have e1 : clip xs.length (i : Int) = i := (clip_nat _ _).trans (Nat.min_eq_left h1)
  have e2 : clip xs.length (j : Int) = j := (clip_nat _ _).trans (Nat.min_eq_left h2)
  show (xs.drop (clip xs.length i)).take (clip xs.length j - clip xs.length i) = _
  rw [e1, e2]
theorem slc_to {xs : List F} {j : Nat} (h2 : j ≤ xs.length) : slc xs none (some (j : Int)) = xs.take j := by
  have e2 : clip xs.length (j : Int) = j := (clip_nat _ _).trans (Nat.min_eq_left h2)
  show (xs.drop 0).take (clip xs.length j - 0) = _
  rw [e2]; rfl
noncomputable abbrev intF (l : List Int) : F := .lst (l.map .int)
noncomputable def sndF : F → Option F
  | .tup [_, b] => some b
  | _ => none
noncomputable def fstF : F → Option F
  | .tup [a, _] => some a
  | _ => none
theorem pair_snd : ∀ seg : List K, (KF seg).filterMap sndF = (seg.map fun q : K => q.2).map .int
  | [] => rfl
  | q :: r => by
    have ih := pair_snd r
    show F.int q.2 :: (KF r).filterMap sndF = F.int q.2 :: _
    rw [ih]
theorem pair_fst : ∀ seg : List K, (KF seg).filterMap fstF = (seg.map fun q : K => q.1).map .int
  | [] => rfl
  | q :: r => by
    have ih := pair_fst r
    show F.int q.1 :: (KF r).filterMap fstF = F.int q.1 :: _
    rw [ih]
noncomputable abbrev rowA (row : List K) : Option A := some (.v (.lst (KF row)))
set_option maxHeartbeats 1000000 in
theorem some_eq (n p : Nat) (hp : Pr p) (a : A) (h : A) (o3 : Option A) (σ : St) (row : List K) (hl : row.length = 2 * p - 1) : ∀ (ks : List Nat) (o5 : Option A), (∀ k ∈ ks, k < p) →
    (∃ i ∈ ks, (fa row i).1 = (fa row (i + p - 1)).1 ∧ ∃ fr', ForR (lev (n + 20)) (forT someF2) (forB someF2) (ks.map fun k : Nat => .int (k : Int)) (fm dSome.sc none (nestOf dSome.body) (VSome a o3 (rowA row) o5 none none none none none none) (slot dSome.sc.names (CSome p (some h) none none none))) σ
        (.ret (.v (intF (((row.drop i).take p).map (·.2))))) fr' σ) ∨
    ((∀ i ∈ ks, (fa row i).1 ≠ (fa row (i + p - 1)).1) ∧ ∃ o5', ForR (lev (n + 20)) (forT someF2) (forB someF2) (ks.map fun k : Nat => .int (k : Int)) (fm dSome.sc none (nestOf dSome.body) (VSome a o3 (rowA row) o5 none none none none none none) (slot dSome.sc.names (CSome p (some h) none none none))) σ
        .next (fm dSome.sc none (nestOf dSome.body) (VSome a o3 (rowA row) o5' none none none none none none) (slot dSome.sc.names (CSome p (some h) none none none))) σ)
  | [], o5, _ => .inr ⟨by simp, o5, .nil⟩
  | k :: ks, o5, hk => by
    have p2 := hp.two
    have p5 := hp.five
    have h1 := hk k (.head _)
    have hidx : (k : Int) + p - 1 = ((k + p - 1 : Nat) : Int) := by lia
    have tst : ∀ c, ((fa row k).1 == (fa row (k + p - 1)).1) = c → (lev (n + 19)).test (fm dSome.sc none (nestOf dSome.body) (VSome a o3 (rowA row) (some (.v (.int k))) none none none none none none) (slot dSome.sc.names (CSome p (some h) none none none))) σ
        (ifE (stmtAt (forB someF2) 0)) c σ := fun c hc => by
      apply test_of; apply t_cmp (by rfl)
      · walk_at "s"
        · walk_at "s"
          · walk_at "s"
          · walk_at "s"
          · rfl
          · exact it_getK (by lia)
          · exact small_nat (by lia)
        · walk_at "s"
        · rfl
        · exact ItR.tup (by decide) rfl
        · decide
      · walk_at "s"
        · walk_at "s"
          · walk_at "s"
          · repeat walk_at "s"
          · rfl
          · rw [hidx]; exact it_getK (by lia)
          · rw [hidx]; exact small_nat (by lia)
        · walk_at "s"
        · rfl
        · exact ItR.tup (by decide) rfl
        · decide
      · rfl
      · rfl
      · exact CmpR.eq
      · exact hc
    by_cases he : (fa row k).1 = (fa row (k + p - 1)).1
    · refine .inl ⟨k, .head _, he, ?_⟩
      apply Exists.intro
      apply ForR.ret
      · exact b_loc ⟨by rfl, by rfl⟩
      · apply x_ret; apply exec_of; apply ExecS.ifT
        · exact tst true (by simp [he])
        · have e : slc (KF row) (some (k : Int)) (some ((k : Int) + p)) = KF ((row.drop k).take p) := by
            rw [show (k : Int) + p = ((k + p : Nat) : Int) from rfl, slc_nat (by simp; lia) (by simp; lia), KF, ← List.map_drop, ← List.map_take, Nat.add_sub_cancel_left]
          apply x_ret; walk_at "s"
          apply ev_of; apply EvS.comp
          apply lcomp_map 3 ((((row.drop k).take p).map fun q : K => q.2).map .int) sndF (by rfl) (by rfl)
          · apply iter_of; apply IterS.plain
            · walk_at "s"
              · walk_at "s"
              · repeat walk_at "s"
              · repeat walk_at "s"
              · rfl
              · simp; lia
            · rfl
          · rw [e]; simp; lia
          · rw [e]
            intro x hx vs hv
            obtain ⟨q, _, rfl⟩ := List.mem_map.1 hx
            match vs, hv with
            | [o0, o1, o2], _ =>
              apply turn_some
              · exact b_tup2 ⟨by rfl, by rfl⟩ ⟨by rfl, by rfl⟩
              · rfl
              · exact AllR.nil
              · repeat walk_at "s"
              · rfl
              · rfl
          · rw [e]; exact pair_snd _
    · rcases some_eq n p hp a h o3 σ row hl ks (some (.v (.int k))) (fun j hj => hk j (.tail _ hj)) with ⟨i, hi, q1, fr', q2⟩ | ⟨q1, o5', q2⟩
      · refine .inl ⟨i, .tail _ hi, q1, fr', ?_⟩
        apply ForR.next
        · exact b_loc ⟨by rfl, by rfl⟩
        · apply ExecsR.cons
          · apply exec_of; apply ExecS.ifF
            · exact tst false (by simp [he])
            · exact ExecsR.nil
          · exact ExecsR.nil
        · exact q2
      · refine .inr ⟨fun i hi => (List.mem_cons.1 hi).elim (fun e => e ▸ he) (q1 i), o5', ?_⟩
        apply ForR.next
        · exact b_loc ⟨by rfl, by rfl⟩
        · apply ExecsR.cons
          · apply exec_of; apply ExecS.ifF
            · exact tst false (by simp [he])
            · exact ExecsR.nil
          · exact ExecsR.nil
        · exact q2

/-! ## the ways, one step -/
noncomputable abbrev CF (c : List (Int × List Int)) : List (Int × F) := c.map fun q => (q.1, intF q.2)
theorem cf_get (k : Int) : ∀ c : List (Int × List Int), (dget k (CF c)).isSome = (c.map (·.1)).contains k
  | [] => rfl
  | (j, l) :: c => by
    have ih := cf_get k c
    show (if k = j then some (intF l) else dget k (CF c)).isSome = _
    rw [List.map_cons, List.contains_cons, ← ih]
    by_cases h : k = j
    · rw [if_pos h]; simp [h]
    · rw [if_neg h]; simp [h]
theorem cf_set {k : Int} {l : List Int} : ∀ {c : List (Int × List Int)}, (c.map (·.1)).contains k = false → dset k (intF l) (CF c) = CF (c ++ [(k, l)])
  | [], _ => rfl
  | (j, l') :: c, h => by
    rw [List.map_cons, List.contains_cons, Bool.or_eq_false_iff] at h
    have ih := cf_set (l := l) h.2
    have hk : k ≠ j := by simpa using h.1
    show (if k = j then _ else (j, intF l') :: dset k (intF l) (CF c)) = (j, intF l') :: CF (c ++ [(k, l)])
    rw [if_neg hk, ih]
theorem get_r {τ : St} {M : Nat} {c : F × Bool} (h : τ[M]? = some c) : (A.r M).get τ = some c.1 := by simp [A.get, h]
noncomputable def upF (lo hi : Int) : F → Option F
  | .int x => some (.int (if x = lo then hi else x))
  | _ => none
noncomputable abbrev lowA (row : List K) (i : Nat) : Option A := some (.v (enc (fa row i)))
noncomputable abbrev intA (l : List Int) : A := .v (intF l)
set_option maxHeartbeats 1000000 in
theorem some_raise (n p : Nat) (hp : Pr p) (row : List K) (i i' : Nat) (s : Int) (a h : A) (o3 o4 o5 o7 o8 : Option A) (M : Nat) : ∀ (c0 c : List (Int × List Int)) (τ : St) (o6 o13 o14 : Option A), τ[M]? = some (.dct (CF c), true) → c.length + c0.length ≤ 1000 → (∀ q ∈ c0, q.2.length ≤ 1000) →
    ∃ o6' o13' o14', ForR (lev (n + 20)) (forT someF4) (forB someF4) (c0.map fun q => .tup [.int q.1, intF q.2]) (fm dSome.sc none (nestOf dSome.body) (VSome a o3 o4 o5 o6 o7 o8 (some (.r M)) o13 o14) (slot dSome.sc.names (CSome p (some h) (lowA row i) (lowA row i') (some (.v (.int s)))))) τ .next
      (fm dSome.sc none (nestOf dSome.body) (VSome a o3 o4 o5 o6' o7 o8 (some (.r M)) o13' o14') (slot dSome.sc.names (CSome p (some h) (lowA row i) (lowA row i') (some (.v (.int s)))))) (τ.set M (.dct (CF (chD p s (fa row i).2 (fa row i').2 c0 c)), true))
  | [], c, τ, o6, o13, o14, hM, _, _ => by
    have p2 := hp.two
    have p5 := hp.five
    refine ⟨o6, o13, o14, ?_⟩
    have : τ.set M (.dct (CF (chD p s (fa row i).2 (fa row i').2 [] c)), true) = τ := by
      obtain ⟨h1, h2⟩ := List.getElem?_eq_some_iff.1 hM
      show τ.set M (.dct (CF c), true) = τ
      rw [← h2, List.set_getElem_self]
    rw [this]; exact .nil
  | q :: c0, c, τ, o6, o13, o14, hM, hz, hq => by
    have p2 := hp.two
    have p5 := hp.five
    simp only [List.length_cons] at hz
    have hps : (p : Int) ≠ 0 := by lia
    have hpl : (p : Int).natAbs < 1000000 := by lia
    by_cases hc : (c.map (·.1)).contains ((q.1 + s).fmod p) = true
    · obtain ⟨o6', o13', o14', ih⟩ := some_raise n p hp row i i' s a h o3 o4 o5 o7 o8 M c0 c τ (some (.v (.int q.1))) (some (intA q.2)) (some (.v (.int ((q.1 + s).fmod p)))) hM (by lia) (fun z hz => hq z (.tail _ hz))
      refine ⟨o6', o13', o14', ?_⟩
      rw [show chD p s (fa row i).2 (fa row i').2 (q :: c0) c = chD p s (fa row i).2 (fa row i').2 c0 c by simp only [chD, List.foldl_cons, hc, if_true]]
      apply ForR.next
      · exact b_tup2 ⟨by rfl, by rfl⟩ ⟨by rfl, by rfl⟩
      · walk_at "st"
        · repeat walk_at "s"
        apply ExecsR.cons
        · apply exec_of; apply ExecS.ifF
          · apply test_of; apply t_cmp (by rfl)
            · walk_at "s"
            · walk_at "s"
            · rfl
            · exact get_r hM
            · exact CmpR.nind
            · rw [cf_get, hc]; rfl
          · exact ExecsR.nil
        · exact ExecsR.nil
      · exact ih
    · have hc := Bool.eq_false_iff.2 hc
      obtain ⟨hM1, hM2⟩ := List.getElem?_eq_some_iff.1 hM
      have hM' : (τ.set M (.dct (CF (c ++ [((q.1 + s).fmod p, q.2.map fun x => if x = (fa row i).2 then (fa row i').2 else x)])), true))[M]? = some (.dct (CF (c ++ [((q.1 + s).fmod p, q.2.map fun x => if x = (fa row i).2 then (fa row i').2 else x)])), true) := List.getElem?_set_self hM1
      obtain ⟨o6', o13', o14', ih⟩ := some_raise n p hp row i i' s a h o3 o4 o5 o7 o8 M c0 _ _ (some (.v (.int q.1))) (some (intA q.2)) (some (.v (.int ((q.1 + s).fmod p)))) hM' (by simp; lia) (fun z hz => hq z (.tail _ hz))
      refine ⟨o6', o13', o14', ?_⟩
      rw [List.set_set] at ih
      rw [show chD p s (fa row i).2 (fa row i').2 (q :: c0) c = chD p s (fa row i).2 (fa row i').2 c0 (c ++ [((q.1 + s).fmod p, q.2.map fun x => if x = (fa row i).2 then (fa row i').2 else x)]) by simp only [chD, List.foldl_cons, hc]; rfl]
      apply ForR.next
      · exact b_tup2 ⟨by rfl, by rfl⟩ ⟨by rfl, by rfl⟩
      · walk_at "st"
        · repeat walk_at "s"
        apply ExecsR.cons
        · apply exec_of; apply ExecS.ifT
          · apply test_of; apply t_cmp (by rfl)
            · walk_at "s"
            · walk_at "s"
            · rfl
            · exact get_r hM
            · exact CmpR.nind
            · rw [cf_get, hc]; rfl
          · walk_at "st"
            · apply ev_of; apply EvS.comp
              apply lcomp_map 2 ((q.2.map fun x => if x = (fa row i).2 then (fa row i').2 else x).map .int) (upF (fa row i).2 (fa row i').2) (by rfl) (by rfl)
              · apply iter_of; apply IterS.plain
                · walk_at "s"
                · rfl
              · rw [List.length_map]; have := hq q (.head _); lia
              · intro x hx vs hv
                obtain ⟨z, _, rfl⟩ := List.mem_map.1 hx
                match vs, hv with
                | [o0, o1], _ =>
                  apply turn_some
                  · exact b_loc ⟨by rfl, by rfl⟩
                  · rfl
                  · exact AllR.nil
                  · apply ev_of
                    by_cases hz : z = (fa row i).2
                    · apply EvS.ifT (a := .v (.int (if z = (fa row i).2 then (fa row i').2 else z))) (σ2 := τ)
                      · apply test_of; apply t_cmp (by rfl)
                        · walk_at "s"
                        · walk_at "s"
                          · walk_at "s"
                          · walk_at "s"
                          · rfl
                          · exact ItR.tup (by decide) rfl
                          · decide
                        · rfl
                        · rfl
                        · exact CmpR.eq
                        · simp [hz]
                      · rw [if_pos hz]
                        walk_at "s"
                        · walk_at "s"
                        · walk_at "s"
                        · rfl
                        · exact ItR.tup (by decide) rfl
                        · decide
                    · apply EvS.ifF (a := .v (.int (if z = (fa row i).2 then (fa row i').2 else z))) (σ2 := τ)
                      · apply test_of; apply t_cmp (by rfl)
                        · walk_at "s"
                        · walk_at "s"
                          · walk_at "s"
                          · walk_at "s"
                          · rfl
                          · exact ItR.tup (by decide) rfl
                          · decide
                        · rfl
                        · rfl
                        · exact CmpR.eq
                        · simp [hz]
                      · rw [if_neg hz]
                        walk_at "s"
                  · rfl
                  · rfl
              · rw [List.filterMap_map, List.map_map]
                simp only [Function.comp_def, upF, List.filterMap_eq_map']
            · rfl
            · walk_at "s"
            · walk_at "s"
            · exact hM
            · exact StR.dct (by simp; lia)
            · exact ExecsR.nil
        · exact ExecsR.nil
      · rw [cf_set hc]
        exact ih
end
noncomputable section
theorem ins_length (x : Int) : ∀ l : List Int, (insSorted x l).length = l.length + 1
  | [] => rfl
  | y :: l => by
    have := ins_length x l
    unfold insSorted
    split <;> simp [this]
theorem isort_length : ∀ l : List Int, (isort l).length = l.length
  | [] => rfl
  | x :: l => by rw [isort, ins_length, isort_length l]; rfl
theorem tabA_fz {σ : St} {w : DI} {wa : A} (h : TabA σ w wa) : ∃ σ2, wa.fz σ = some (.dct (DF w), σ2) ∧ TabA σ2 w wa ∧ ∀ j : Nat, wa ≠ .r j → σ2[j]? = σ[j]? := by
  cases h with
  | v => exact ⟨σ, rfl, .v, fun _ _ => rfl⟩
  | r e =>
    rename_i k b
    refine ⟨σ.set k (.dct (DF w), false), by simp only [A.fz, e], .r (b := false) (List.getElem?_set_self (List.getElem?_eq_some_iff.1 e).1), fun j hj => List.getElem?_set_ne fun q => hj (by rw [q])⟩
theorem tabA_get {σ : St} {w : DI} {wa : A} (h : TabA σ w wa) : wa.get σ = some (.dct (DF w)) := by
  cases h with
  | v => rfl
  | r e => exact get_r e
theorem mapM_r {σ : St} {k : Nat} {c : F × Bool} (h : σ[k]? = some c) : [A.r k].mapM (m := Option) (fun a : A => a.get σ) = some [c.1] := by
  rw [List.mapM_cons, get_r h]; rfl
noncomputable def wayF (p : Nat) (s : Int) : F → Int × F
  | .tup [.int r, v] => ((r + s).fmod p, v)
  | x => (0, x)
theorem way_fold (p : Nat) (s : Int) : ∀ w d : DI, ((DF w).map fun p => (F.tup [.int p.1, p.2])).foldl (fun d x => dset (wayF p s x).1 (wayF p s x).2 d) (DF d) = DF (w.foldl (fun d q => dsi ((q.1 + s).fmod p) q.2 d) d)
  | [], _ => rfl
  | q :: w, d => by
    show (((DF w).map _).foldl _ (dset ((q.1 + s).fmod p) (.int q.2) (DF d))) = _
    rw [dset_df, way_fold p s w]; rfl
theorem way_len (p : Nat) (s : Int) : ∀ w d : DI, (w.foldl (fun d q => dsi ((q.1 + s).fmod p) q.2 d) d).length ≤ d.length + w.length
  | [], d => Nat.le_refl _
  | q :: w, d => by
    have h := way_len p s w (dsi ((q.1 + s).fmod p) q.2 d)
    have h2 := dsi_len ((q.1 + s).fmod p) q.2 d
    simp only [List.foldl_cons, List.length_cons]; lia
set_option maxHeartbeats 2000000 in
theorem some_ways (n p : Nat) (hp : Pr p) (a h : A) (o3 o7 : Option A) {its : List It} {row : List K} (R : RowOk p its row) (hne : ∀ i < p, (fa row i).1 ≠ (fa row (i + p - 1)).1) (M J : Nat) (hJ : J ≤ M) :
    ∀ (d i : Nat) (w : DI) (c : List (Int × List Int)) (σ : St) (wa : A) (o5 o6 o10 o11 o12 o13 o14 : Option A), i + d = p → 1 ≤ i → TabA σ w wa → wa ≠ .r M → (∀ j < J, wa ≠ .r j) → σ[M]? = some (.dct (CF c), true) → (w.map (·.1)).Nodup → w.length ≤ p → c.length ≤ p → WOk p i w (c.map (·.1)) → (∀ q ∈ c, EntOk p row i q) →
    ∃ o5' o6' o10' o11' o12' o13' o14' wa' σ' c', ForR (lev (n + 40)) (forT someF3) (forB someF3) ((List.range' i d).map fun k : Nat => .int (k : Int)) (fm dSome.sc none (nestOf dSome.body) (VSome a o3 (rowA row) o5 o6 o7 (some wa) (some (.r M)) o13 o14) (slot dSome.sc.names (CSome p (some h) o10 o11 o12))) σ .next
      (fm dSome.sc none (nestOf dSome.body) (VSome a o3 (rowA row) o5' o6' o7 (some wa') (some (.r M)) o13' o14') (slot dSome.sc.names (CSome p (some h) o10' o11' o12'))) σ' ∧ σ'[M]? = some (.dct (CF c'), true) ∧ (∀ q ∈ c', EntOk p row p q) ∧ (c'.map (·.1)).contains 0 = true ∧ ∀ j < J, σ'[j]? = σ[j]?
  | 0, i, w, c, σ, wa, o5, o6, o10, o11, o12, o13, o14, hi, h1, hw, hwM, hwJ, hM, hn, hwl, hcl, hk, hE => ⟨o5, o6, o10, o11, o12, o13, o14, wa, σ, c, .nil, hM, (by lia : i = p) ▸ hE, ((by lia : i = p) ▸ hk : WOk p p w (c.map (·.1))).zero (Nat.lt_of_lt_of_le Nat.two_pos hp.two), fun _ _ => rfl⟩
  | d + 1, i, w, c, σ, wa, o5, o6, o10, o11, o12, o13, o14, hi, h1, hw, hwM, hwJ, hM, hn, hwl, hcl, hk, hE => by
    have p2 := hp.two
    have p5 := hp.five
    have hip : i < p := by lia
    have li := R.len
    obtain ⟨s, hs⟩ : ∃ s : Nat, (fa row (i + p - 1)).1 - (fa row i).1 = (s : Int) := ⟨((fa row (i + p - 1)).1 - (fa row i).1).toNat, by have := R.le (i := i) (j := i + p - 1) (by lia) (by lia); lia⟩
    have r1 := R.res hp (i := i) (by lia)
    have r2 := R.res hp (i := i + p - 1) (by lia)
    have hs0 : s ≠ 0 := by have := hne i hip; lia
    have hsp : s < p := by lia
    have k5 := hk.step hp hsp hs0 h1 hip
    have kl : (addD w (wayD p s w)).length = (chK p s (c.map (·.1)) (c.map (·.1))).length := by rw [← k5.keys, List.length_map]
    have k1 : i < (addD w (wayD p s w)).length := by rw [kl]; exact k5.le
    have k2 : ((addD w (wayD p s w)).map (·.2)).sum = 2 ^ i := k5.sum
    have k3 := congrArg isort k5.keys
    have k4 : (addD w (wayD p s w)).length ≤ p := by rw [kl]; exact k5.len
    have hps : (p : Int) ≠ 0 := by lia
    have hpl : (p : Int).natAbs < 1000000 := by lia
    have hidx : (i : Int) + p - 1 = ((i + p - 1 : Nat) : Int) := by lia
    obtain ⟨σ2, f1, f2, f3⟩ := tabA_fz hw
    have hwy : (wayD p s w).length ≤ p := Nat.le_trans (way_len p s w []) (by simpa using hwl)
    obtain ⟨as', τ, b, a', τ', σ3, g1, g2, g3, g4, g5, g6⟩ := addCall (n + 26) σ2 wa (.v (.dct (DF (wayD p s w)))) w (wayD p s w) f2 .v (fun _ _ => by simp) hn (by lia)
    have hM3 : σ3[M]? = some (.dct (CF c), true) := by rw [g6 M hwM (by simp), f3 M hwM, hM]
    have hent := chD_ent hp R h1 hip c c hE (fun q hq => ent_keep (hE q hq))
    have hkey := chD_keys p s (fa row i).2 (fa row (i + p - 1)).2 c c
    rw [hs] at hent
    have hlen : (chD p s (fa row i).2 (fa row (i + p - 1)).2 c c).length ≤ p := by
      rw [← List.length_map (f := (·.1)), hkey]; exact k5.len
    obtain ⟨o6', o13', o14', lp⟩ := some_raise (n + 19) p hp row i (i + p - 1) s a h o3 (rowA row) (some (.v (.int i))) o7 (some (.v (.dct (DF (addD w (wayD p s w)))))) M c c σ3 o6 o13 o14 hM3 (by lia) (fun q hq => by
      obtain ⟨e, _, e2, _⟩ := hE q hq
      rw [e2]; simp; lia)
    have hM4 := List.getElem?_set_self (a := (F.dct (CF (chD p s (fa row i).2 (fa row (i + p - 1)).2 c c)), true)) (List.getElem?_eq_some_iff.1 hM3).1
    obtain ⟨o5', o6'', o10', o11', o12', o13'', o14'', wa', σ', c', ih, i2, i3, i4, i5⟩ := some_ways n p hp a h o3 o7 R hne M J hJ d (i + 1) (addD w (wayD p s w)) (chD p s (fa row i).2 (fa row (i + p - 1)).2 c c) _ (.v (.dct (DF (addD w (wayD p s w))))) (some (.v (.int i))) o6' (lowA row i) (lowA row (i + p - 1)) (some (.v (.int s))) o13' o14' (by lia) (by lia) .v (by simp) (by simp) hM4 (addD_nodup hn) k4 hlen (by rw [hkey]; exact k5) hent
    refine ⟨o5', o6'', o10', o11', o12', o13'', o14'', wa', σ', c', ?_, i2, i3, i4, fun j hj => by rw [i5 j hj, List.getElem?_set_ne (by lia), g6 j (hwJ j hj) (by simp), f3 j (hwJ j hj)]⟩
    rw [List.range'_succ, List.map_cons]
    apply ForR.next
    · exact b_loc ⟨by rfl, by rfl⟩
    · walk_at "st"
      · walk_at "s"
        · walk_at "s"
        · walk_at "s"
        · rfl
        · exact it_getK (by lia)
        · exact small_nat (by lia)
      walk_at "st"
      · walk_at "s"
        · walk_at "s"
        · repeat walk_at "s"
        · rfl
        · rw [hidx]; exact it_getK (by lia)
        · rw [hidx]; exact small_nat (by lia)
      walk_at "st"
      · walk_at "s"
        · walk_at "s"
          · walk_at "s"
          · walk_at "s"
          · rfl
          · exact ItR.tup (by decide) rfl
          · decide
        · walk_at "s"
          · walk_at "s"
          · walk_at "s"
          · rfl
          · exact ItR.tup (by decide) rfl
          · decide
        · rfl
        · rfl
        · exact BinR.sub
      rw [hs]
      walk_at "st"
      · apply ev_of; apply EvS.callG f_add (by with_unfolding_all rfl) (by with_unfolding_all rfl)
        · apply ArgsR.cons (by rfl)
          · walk_at "s"
          · apply ArgsR.cons (by rfl)
            · apply ev_of; apply EvS.comp
              apply dcomp_map 3 (DF (wayD p s w)) (wayF p s) (by rfl) (by rfl)
              · apply iter_of; apply IterS.items (by rfl) (by rfl)
                · walk_at "s"
                · exact f1
              · simp; lia
              · intro x hx vs hv
                obtain ⟨z, hz, rfl⟩ := List.mem_map.1 hx
                obtain ⟨z, _, rfl⟩ := List.mem_map.1 hz
                match vs, hv with
                | [y0, y1, y2], _ =>
                  apply dturn
                  · exact b_tup2 ⟨by rfl, by rfl⟩ ⟨by rfl, by rfl⟩
                  · rfl
                  · repeat walk_at "s"
                  · repeat walk_at "s"
                  · rfl
                  · rfl
              · exact way_fold p s w []
            · exact ArgsR.nil
        · exact g1
        · exact g2
        · exact g3
        · exact g4
      apply ExecsR.cons; apply exec_of; apply ExecS.for (by with_unfolding_all rfl)
      · apply iter_of; apply IterS.plain
        · apply ev_of; apply EvS.items (by rfl) (by rfl)
          · walk_at "s"
          · exact get_r hM3
          · simp; lia
        · rfl
      · rw [List.map_map]
        exact lp
      apply ExecsR.cons
      · apply exec_of; apply ExecS.ifF
        · apply test_of; apply TestS.all
          apply AllR.go (b := false)
          · apply test_of; apply t_cmp (by rfl)
            · apply ev_of; apply EvS.blt (by with_unfolding_all rfl) (by with_unfolding_all rfl)
              · repeat walk_at "s"
              · rfl
              · exact BltR.lenD (by simp; lia)
            · walk_at "s"
            · rfl
            · rfl
            · exact CmpR.le
            · simp; lia
          · rfl
          · apply AllR.go (b := false)
            · apply test_of; apply t_cmp (by rfl)
              · apply ev_of; apply EvS.callG f_count (by with_unfolding_all rfl) (by with_unfolding_all rfl)
                · repeat walk_at "s"
                · rfl
                · exact count_ok _ _ _ _ _ rfl
                · rfl
                · rfl
              · walk_at "s"
                · walk_at "s"
                · walk_at "s"
                · rfl
                · rfl
                · exact BinR.pow (by lia) (by lia) (by decide)
              · rfl
              · rfl
              · exact CmpR.ne
              · rw [k2, Int.toNat_natCast]; simp
            · rfl
            · apply AllR.go (b := false)
              · apply test_of; apply t_cmp (by rfl)
                · apply ev_of; apply EvS.blt (by with_unfolding_all rfl) (by with_unfolding_all rfl)
                  · repeat walk_at "s"
                  · rfl
                  · exact BltR.sortD (by simp; lia)
                · apply ev_of; apply EvS.blt (by with_unfolding_all rfl) (by with_unfolding_all rfl)
                  · repeat walk_at "s"
                  · exact mapM_r hM4
                  · exact BltR.sortD (by simp; lia)
                · rfl
                · rfl
                · exact CmpR.lne (by rw [isort_length]; simp; lia) (by rw [isort_length]; simp; lia)
                · have e1 : (DF (addD w (wayD p s w))).map (·.1) = (addD w (wayD p s w)).map (·.1) := by simp [DF, Function.comp_def]
                  have e2 : (CF (chD p s (fa row i).2 (fa row (i + p - 1)).2 c c)).map (·.1) = (chD p s (fa row i).2 (fa row (i + p - 1)).2 c c).map (·.1) := by simp [CF, Function.comp_def]
                  rw [e1, e2, hkey, k3]; simp
              · rfl
              · exact AllR.nil
        · exact ExecsR.nil
      · exact ExecsR.nil
    · exact ih
end
noncomputable section
theorem cf_zero : ∀ c : List (Int × List Int), (c.map (·.1)).contains 0 = true → ∃ L, (0, L) ∈ c ∧ dget 0 (CF c) = some (intF L)
  | [], h => by simp at h
  | (j, l) :: c, h => by
    by_cases hj : 0 = j
    · subst hj; exact ⟨l, .head _, if_pos rfl⟩
    · rw [List.map_cons, List.contains_cons, Bool.or_eq_true] at h
      obtain ⟨L, h1, h2⟩ := cf_zero c (h.resolve_left (by simpa using hj))
      exact ⟨L, .tail _ h1, (if_neg hj).trans h2⟩
set_option maxHeartbeats 2000000 in
theorem some_ok (n p : Nat) (hp : Pr p) (a : A) (its : List It) (σ0 : St) (hit : ∀ c, a.get (σ0 ++ [c]) = some (.lst (IF its))) (hl : 2 * p - 1 ≤ its.length) (hb : ∀ k < 2 * p - 1, -256 ≤ (itA its k).1 ∧ (itA its k).1 < 256) :
    ∃ kl σ', (lev (n + 150)).call dSome none noV [a, .v (.int p)] σ0 (.v (intF (kl.map fun k : Nat => (k : Int)))) σ' ∧ PickOk p its kl ∧ ∀ j < σ0.length, σ'[j]? = σ0[j]? := by
  have p2 := hp.two
  have p5 := hp.five
  obtain ⟨heap, o3, l1, hh, hpm⟩ := some_push (n + 8) p hp a its σ0 _ rfl hit (List.range (2 * p - 1)) [] none (fun i _ h => by simp at h) (by simp; lia) (fun k hk => by have hk := List.mem_range.1 hk; exact ⟨by lia, by lia, hb k hk⟩)
  have hhl : heap.length = 2 * p - 1 := by rw [hpm.length_eq]; simp
  obtain ⟨row, frc, l2, rp, rs⟩ := some_pop (n + 116) (CSome p (some (.r σ0.length)) none none none) σ0 _ rfl rfl (List.range (2 * p - 1)) heap [] none none hh (by simpa using hhl) (by simp; lia) (by simp; lia)
  have R : RowOk p its row := ⟨rp.trans (hpm.trans (by simp)), rs⟩
  have li := R.len
  have hps : (p : Int) ≠ 0 := by lia
  have hpl : (p : Int).natAbs < 1000000 := by lia
  have hpk : small (p : Int) = true := small_nat (by lia)
  have hrt : (2 * (p : Int) - 1).toNat = 2 * p - 1 := by lia
  have hidx : 2 * (p : Int) - 1 = ((2 * p - 1 : Nat) : Int) := by lia
  have start : ∀ fl fr' σ', ExecsR (lev (n + 149)) (dSome.body.drop 3) (fm dSome.sc none (nestOf dSome.body) (VSome a o3 (rowA row) none none none none none none none) (slot dSome.sc.names (CSome p (some (.r σ0.length)) none none none))) (σ0 ++ [(.lst [], true)]) fl fr' σ' →
      ExecsR (lev (n + 149)) dSome.body (fm dSome.sc none (nestOf dSome.body) (VSome a none none none none none none none none none) (slot dSome.sc.names (CSome p none none none none))) σ0 fl fr' σ' := fun fl fr' σ' hx => by
    walk_at "st"
    · walk_at "s"
    apply ExecsR.cons; apply exec_of; apply ExecS.for (by with_unfolding_all rfl)
    · apply iter_of; apply IterS.range1 (by rfl) (by rfl)
      · walk_at "s"
        · repeat walk_at "s"
        · walk_at "s"
        · rfl
        · rfl
        · exact BinR.sub
      · rw [hidx]; exact small_nat (by lia)
      · lia
    · rw [hrt, rangeF0]; exact l1
    apply ExecsR.cons
    · apply exec_of; apply x_locC ⟨by rfl, by rfl⟩
      apply e_lcomp 2 (by rfl) (by rfl) (by rfl)
      · apply iter_of; apply IterS.range1 (by rfl) (by rfl)
        · walk_at "s"
          · repeat walk_at "s"
          · walk_at "s"
          · rfl
          · rfl
          · exact BinR.sub
        · rw [hidx]; exact small_nat (by lia)
        · lia
      · apply comp_of; apply CompS.mk
        · rw [hrt, rangeF0]; simp; lia
        · rw [hrt, rangeF0]; exact l2
    exact hx
  rcases some_eq (n + 128) p hp a (.r σ0.length) o3 (σ0 ++ [(.lst [], true)]) row li (List.range p) none (fun k hk => List.mem_range.1 hk) with ⟨i, hi, q1, fr', l3⟩ | ⟨hne, o5, l3⟩
  · obtain ⟨kl, k1, k2⟩ := pick_same hp R (List.mem_range.1 hi) q1
    refine ⟨kl, σ0 ++ [(.lst [], true)], ?_, k1, fun j hj => List.getElem?_append_left hj⟩
    rw [← k2]
    have ed : ((row.drop i).take p).map (fun q : K => q.2) = (List.range p).map fun j => (fa row (i + j)).2 := by
      rw [drop_fa (by have := List.mem_range.1 hi; lia), List.map_map]; rfl
    rw [← ed]
    apply call_pad 14 11 (vs := VSome a none none none none none none none none none) (cs := CSome p none none none none) (by rfl) (by rfl) (by rfl) (hr := RetR.ret)
    apply start
    apply x_ret; apply exec_of; apply ExecS.for (by with_unfolding_all rfl)
    · apply iter_of; apply IterS.range1 (by rfl) (by rfl)
      · walk_at "s"
      · exact hpk
      · lia
    · rw [show ((p : Nat) : Int).toNat = p from rfl, rangeF0]; exact l3
  · obtain ⟨s0, hs0⟩ : ∃ s0 : Nat, ((row.take p).map fun q : K => q.1).sum.fmod p = (s0 : Int) := ⟨(((row.take p).map fun q : K => q.1).sum.fmod p).toNat, by rw [fmod5]; have := Int.emod_nonneg ((row.take p).map fun q : K => q.1).sum hps; lia⟩
    have hsp : s0 < p := by
      rw [fmod5] at hs0; have := Int.emod_lt_of_pos ((row.take p).map fun q : K => q.1).sum (show 0 < (p : Int) by lia); lia
    have he := ent_start (p := p) (row := row) (by lia)
    rw [hs0] at he
    obtain ⟨o5', o6, o10, o11, o12, o13, o14, wa, σ', c', l4, m1, m2, m3, m4⟩ := some_ways (n + 108) p hp a (.r σ0.length) o3 (some (.v (.int s0))) R (fun i hi => hne i (List.mem_range.2 hi)) (σ0 ++ [((.lst [], true) : F × Bool)] ++ [((.dct (DF [((s0 : Int), 1)]), true) : F × Bool)]).length σ0.length (by simp) (p - 1) 1 [((s0 : Int), 1)] [((s0 : Int), (row.take p).map fun q : K => q.2)]
      (σ0 ++ [(.lst [], true)] ++ [(.dct (DF [((s0 : Int), 1)]), true)] ++ [(.dct (CF [((s0 : Int), (row.take p).map fun q : K => q.2)]), true)]) (.r (σ0 ++ [((.lst [], true) : F × Bool)]).length) o5 none none none none none none (by lia) (by lia) (.r (b := true) (by simp)) (by simp) (fun j hj => by simp; lia) (by simp) (by simp) (by simp; lia) (by simp; lia) (.one hsp) (fun q hq => by rw [List.mem_singleton] at hq; subst hq; exact he)
    obtain ⟨L, z1, z2⟩ := cf_zero c' m3
    obtain ⟨kl, k1, rfl⟩ := ent_pick hp R (m2 _ z1)
    have hst : slc (KF row) none (some (p : Int)) = KF (row.take p) := by rw [slc_to (by simp; lia), KF, ← List.map_take]
    have hr1 : rangeF 1 ((p : Int) - 1).toNat = (List.range' 1 (p - 1)).map fun k : Nat => .int (k : Int) := by
      rw [show ((p : Int) - 1).toNat = p - 1 by lia]; exact rangeF_map _ 1
    have hz : (dget 0 (CF c')).elim (A.r σ'.length) A.v = .v (intF (kl.map fun k : Nat => (k : Int))) := by rw [z2]; rfl
    have hM1 := (List.getElem?_eq_some_iff.1 m1).1
    have hM2 := (List.getElem?_append_left (l₂ := [(F.lst [], true)]) hM1).trans m1
    rw [List.length_append, List.length_append] at hM1
    refine ⟨kl, σ' ++ [(.lst [], true)], ?_, k1, fun j hj => ?_⟩
    · apply call_pad 14 11 (vs := VSome a none none none none none none none none none) (cs := CSome p none none none none) (by rfl) (by rfl) (by rfl) (hr := RetR.ret)
      apply start
      apply ExecsR.cons; apply exec_of; apply ExecS.for (by with_unfolding_all rfl)
      · apply iter_of; apply IterS.range1 (by rfl) (by rfl)
        · walk_at "s"
        · exact hpk
        · lia
      · rw [show ((p : Nat) : Int).toNat = p from rfl, rangeF0]; exact l3
      walk_at "st"
      · walk_at "s"
        · apply ev_of; apply EvS.blt (by with_unfolding_all rfl) (by with_unfolding_all rfl)
          · apply ArgsR.cons (by rfl)
            · apply ev_of; apply EvS.comp
              apply lcomp_map 3 (((row.take p).map fun q : K => q.1).map .int) fstF (by rfl) (by rfl)
              · apply iter_of; apply IterS.plain
                · walk_at "s"
                  · walk_at "s"
                  · repeat walk_at "s"
                  · repeat walk_at "s"
                  · rfl
                  · simp; lia
                · rfl
              · rw [hst]; simp; lia
              · rw [hst]
                intro x hx vs hv
                obtain ⟨q, _, rfl⟩ := List.mem_map.1 hx
                match vs, hv with
                | [y0, y1, y2], _ =>
                  apply turn_some
                  · exact b_tup2 ⟨by rfl, by rfl⟩ ⟨by rfl, by rfl⟩
                  · rfl
                  · exact AllR.nil
                  · repeat walk_at "s"
                  · rfl
                  · rfl
              · rw [hst]; exact pair_fst _
            · exact ArgsR.nil
          · rfl
          · exact BltR.sum (by simp; lia)
        · walk_at "s"
        · rfl
        · rfl
        · exact BinR.mod hps hpl
      rw [hs0]
      walk_at "st"
      · apply ev_of; apply EvS.dict1
        · walk_at "s"
        · walk_at "s"
        · rfl
      walk_at "st"
      · apply ev_of; apply EvS.dict1
        · walk_at "s"
        · apply ev_of; apply EvS.comp
          apply lcomp_map 3 (((row.take p).map fun q : K => q.2).map .int) sndF (by rfl) (by rfl)
          · apply iter_of; apply IterS.plain
            · walk_at "s"
              · walk_at "s"
              · repeat walk_at "s"
              · repeat walk_at "s"
              · rfl
              · simp; lia
            · rfl
          · rw [hst]; simp; lia
          · rw [hst]
            intro x hx vs hv
            obtain ⟨q, _, rfl⟩ := List.mem_map.1 hx
            match vs, hv with
            | [y0, y1, y2], _ =>
              apply turn_some
              · exact b_tup2 ⟨by rfl, by rfl⟩ ⟨by rfl, by rfl⟩
              · rfl
              · exact AllR.nil
              · repeat walk_at "s"
              · rfl
              · rfl
          · rw [hst]; exact pair_snd _
        · rfl
      apply ExecsR.cons; apply exec_of; apply ExecS.for (by with_unfolding_all rfl)
      · apply iter_of; apply IterS.range2 (by rfl) (by rfl) (by rfl)
        · walk_at "s"
        · walk_at "s"
        · decide
        · exact hpk
        · lia
      · rw [hr1]; exact l4
      apply x_ret; walk_at "s"
      rw [← hz]
      apply ev_of; apply EvS.get (by rfl) (by rfl) (by rfl)
      · walk_at "s"
      · exact get_r m1
      · walk_at "s"
      · walk_at "s"
      · exact get_r hM2
    · rw [List.getElem?_append_left (by lia), m4 j hj]
      simp only [List.append_assoc]
      exact List.getElem?_append_left hj
end
noncomputable section
/-! ## the groups -/
noncomputable def num (nums : List Int) (k : Int) : Int := nums.getD k.toNat 0
structure Good (nums : List Int) (m : Nat) (x : It) : Prop where
  len : x.2.length = m
  sum : (x.2.map (num nums)).sum = m * x.1
  lo : -20 ≤ x.1
  hi : x.1 ≤ 39
  rng : ∀ k ∈ x.2, 0 ≤ k ∧ k < nums.length
noncomputable def flat (l : List It) : List Int := l.flatMap fun x => x.2
theorem flat_good {nums : List Int} {m : Nat} : ∀ {l : List It}, (∀ x ∈ l, Good nums m x) → (flat l).length = l.length * m ∧ ((flat l).map (num nums)).sum = m * (l.map fun x : It => x.1).sum ∧ -20 * (l.length : Int) ≤ (l.map fun x : It => x.1).sum ∧ (l.map fun x : It => x.1).sum ≤ 39 * (l.length : Int) ∧ ∀ k ∈ flat l, 0 ≤ k ∧ k < nums.length
  | [], _ => by simp [flat]
  | x :: l, h => by
    obtain ⟨h1, h2, h3, h4, h5⟩ := flat_good fun y hy => h y (.tail _ hy)
    have hx := h x (.head _)
    have e : flat (x :: l) = x.2 ++ flat l := rfl
    rw [e, List.length_append, List.map_append, List.sum_append, List.map_cons, List.sum_cons, List.length_cons, h1, h2, hx.len, hx.sum]
    have := hx.lo
    have := hx.hi
    refine ⟨by rw [Nat.add_mul]; lia, by rw [Int.mul_add], by lia, by lia, fun k hk => ?_⟩
    exact (List.mem_append.1 hk).elim (hx.rng k) (h5 k)
noncomputable def restI (kl : List Nat) (its : List It) : List It := ((List.range its.length).filter fun k => !kl.contains k).map (itA its)
theorem its_range (its : List It) : (List.range its.length).map (itA its) = its := by
  apply List.ext_getElem
  · simp
  · intro k h1 h2
    simp only [List.getElem_map, List.getElem_range, itA, List.getD_eq_getElem?_getD, List.getElem?_eq_getElem h2, Option.getD_some]
theorem rest_perm {kl : List Nat} {its : List It} (hn : kl.Nodup) (hl : ∀ k ∈ kl, k < its.length) : (kl.map (itA its) ++ restI kl its).Perm its := by
  have h1 : (List.range its.length).filter (fun k => kl.contains k) |>.Perm kl := by
    refine (List.perm_ext_iff_of_nodup (List.nodup_range.filter _) hn).2 fun k => ?_
    simp only [List.mem_filter, List.mem_range, List.contains_iff_mem]
    exact ⟨fun h => h.2, fun h => ⟨hl k h, h⟩⟩
  have h2 := List.filter_append_perm (fun k => kl.contains k) (List.range its.length)
  have h3 := ((h1.symm.append_right _).trans h2).map (itA its)
  rw [List.map_append, its_range] at h3
  exact h3
theorem pick_mem {kl : List Nat} {its : List It} (hl : ∀ k ∈ kl, k < its.length) : ∀ x ∈ kl.map (itA its), x ∈ its := by
  intro x hx
  obtain ⟨k, hk, rfl⟩ := List.mem_map.1 hx
  have := hl k hk
  simp only [itA, List.getD_eq_getElem?_getD, List.getElem?_eq_getElem this, Option.getD_some]
  exact List.getElem_mem this
theorem good_group {p m : Nat} (hp : Pr p) {nums : List Int} {its : List It} {kl : List Nat} (K : PickOk p its kl) (hl : 2 * p - 1 ≤ its.length) (hg : ∀ x ∈ its, Good nums m x) :
    Good nums (p * m) ((kl.map fun k => (itA its k).1).sum.fdiv p, flat (kl.map (itA its))) := by
  have p2 := hp.two
  have p5 := hp.five
  have hk : ∀ k ∈ kl, k < its.length := fun k h => by have := K.lt k h; lia
  obtain ⟨h1, h2, h3, h4, h5⟩ := flat_good (m := m) fun x hx => hg x (pick_mem hk x hx)
  have hs := K.sum
  have e : (kl.map (itA its)).map (fun x : It => x.1) = kl.map fun k => (itA its k).1 := by rw [List.map_map]; rfl
  rw [e] at h2 h3 h4
  rw [List.length_map, K.len] at h1 h3 h4
  generalize (kl.map fun k => (itA its k).1).sum = S at *
  have hS : S = p * S.fdiv p ∧ -20 ≤ S.fdiv p ∧ S.fdiv p ≤ 39 := by
    rw [fmod5] at hs
    rw [Int.fdiv_eq_ediv_of_nonneg _ (Int.natCast_nonneg p)]
    rcases hp.h with rfl | rfl | rfl <;> lia
  refine ⟨h1, ?_, hS.2.1, hS.2.2, h5⟩
  show ((flat (kl.map (itA its))).map (num nums)).sum = ((p * m : Nat) : Int) * S.fdiv p
  rw [h2, Int.natCast_mul, Int.mul_right_comm, Int.mul_comm _ (m : Int), ← hS.1]
theorem flat_perm {a b : List It} (h : a.Perm b) : (flat a).Perm (flat b) := h.flatMap_right _
theorem enumF_idx : ∀ (xs : List F) (i k : Nat), (enumF i xs)[k]? = (xs[k]?).map fun x => .tup [.int ((i + k : Nat) : Int), x]
  | [], _, _ => by simp [enumF]
  | x :: xs, i, 0 => rfl
  | x :: xs, i, k + 1 => by
    show (enumF (i + 1) xs)[k]? = _
    rw [enumF_idx xs (i + 1) k, List.getElem?_cons_succ, show i + 1 + k = i + (k + 1) by lia]
theorem enum_its (its : List It) : enumF 0 (IF its) = (List.range its.length).map fun k : Nat => .tup [.int (k : Int), encI (itA its k)] := by
  apply List.ext_getElem?
  intro k
  rw [enumF_idx, List.getElem?_map, List.getElem?_map, Nat.zero_add]
  by_cases h : k < its.length
  · simp [h, itA]
  · simp [h]
noncomputable def restF (kl : List Nat) : F → Option F
  | .tup [.int i, x] => if kl.contains i.toNat then none else some x
  | _ => none
theorem rest_map (kl : List Nat) (its : List It) : (enumF 0 (IF its)).filterMap (restF kl) = IF (restI kl its) := by
  rw [enum_its, List.filterMap_map]
  have : ∀ l : List Nat, l.filterMap (restF kl ∘ fun k : Nat => .tup [.int (k : Int), encI (itA its k)]) = IF ((l.filter fun k => !kl.contains k).map (itA its)) := fun l => by
    induction l with
    | nil => rfl
    | cons k l ih =>
      by_cases h : kl.contains k = true
      · rw [List.filterMap_cons_none (by show (if kl.contains ((k : Int)).toNat then none else _) = none; rw [Int.toNat_natCast, if_pos h]), ih, List.filter_cons_of_neg (by rw [h]; decide)]
      · rw [List.filterMap_cons_some (b := encI (itA its k)) (by show (if kl.contains ((k : Int)).toNat then none else _) = _; rw [Int.toNat_natCast, if_neg h]), ih, List.filter_cons_of_pos (by rw [Bool.eq_false_iff.2 h]; rfl)]; rfl
  exact this _
end
noncomputable section
inductive ItA (σ : St) (its : List It) : A → Prop
  | v : ItA σ its (.v (.lst (IF its)))
  | r {k : Nat} {b : Bool} : σ[k]? = some (.lst (IF its), b) → ItA σ its (.r k)
theorem ItA.get {σ : St} {its : List It} {a : A} (h : ItA σ its a) : a.get σ = some (.lst (IF its)) := by
  cases h with
  | v => rfl
  | r e => exact get_r e
theorem ItA.fz {σ : St} {its : List It} {a : A} (h : ItA σ its a) : ∃ σ', a.fz σ = some (.lst (IF its), σ') ∧ ItA σ' its a ∧ ∀ j : Nat, a ≠ .r j → σ'[j]? = σ[j]? := by
  cases h with
  | v => exact ⟨σ, rfl, .v, fun _ _ => rfl⟩
  | r e =>
    rename_i k b
    exact ⟨σ.set k (.lst (IF its), false), by simp only [A.fz, e], .r (b := false) (List.getElem?_set_self (List.getElem?_eq_some_iff.1 e).1), fun j hj => List.getElem?_set_ne fun q => hj (by rw [q])⟩
theorem ItA.set {σ : St} {its : List It} {a : A} {G : Nat} {c : F × Bool} (h : ItA σ its a) (hG : a ≠ .r G) : ItA (σ.set G c) its a := by
  cases h with
  | v => exact .v
  | r e => exact .r (by rw [List.getElem?_set_ne (fun q => hG (by rw [q]))]; exact e)
theorem someCall (n p : Nat) (hp : Pr p) {σ : St} {its : List It} {a : A} (h : ItA σ its a) (hl : 2 * p - 1 ≤ its.length) (hb : ∀ x ∈ its, -20 ≤ x.1 ∧ x.1 ≤ 39) :
    ∃ kl as' τ b a' τ', pack σ [a, .v (.int p)] 0 = some (as', τ, b) ∧ (lev (n + 150)).call dSome none noV as' τ a' τ' ∧ handBack τ' b a' = some (.v (intF (kl.map fun k : Nat => (k : Int)))) ∧ unpack σ τ' b = some σ ∧ PickOk p its kl := by
  have p2 := hp.two
  have p5 := hp.five
  have hb' : ∀ k < 2 * p - 1, -256 ≤ (itA its k).1 ∧ (itA its k).1 < 256 := fun k hk => by
    have := hb _ (pick_mem (kl := [k]) (its := its) (fun j hj => by rw [List.mem_singleton] at hj; lia) (itA its k) (by simp))
    lia
  cases h with
  | v =>
    obtain ⟨kl, σ', c, k1, _⟩ := some_ok n p hp (.v (.lst (IF its))) its [] (fun _ => rfl) hl hb'
    exact ⟨kl, _, _, _, _, _, rfl, c, rfl, unpack_nil, k1⟩
  | r e =>
    rename_i k b
    obtain ⟨kl, σ', c, k1, k2⟩ := some_ok n p hp (.r 0) its [(.lst (IF its), b)] (fun _ => rfl) hl hb'
    have k2 := k2 0 (by simp)
    refine ⟨kl, _, _, _, _, _, pack_rv e, c, rfl, ?_, k1⟩
    cases σ' with
    | nil => simp at k2
    | cons c' t =>
      simp only [List.getElem?_cons_zero, Option.some.injEq] at k2
      obtain ⟨e1, e2⟩ := List.getElem?_eq_some_iff.1 e
      rw [unpack, unpack_nil, k2, ← e2, List.set_getElem_self]
noncomputable abbrev VCho (o2 o3 o4 o6 o7 o8 : Option A) : List (Option A) := [none, none, o2, o3, o4, none, o6, o7, o8]
noncomputable abbrev CCho (a : A) (n : Nat) (o5 : Option A) : List (Option A) := [some a, some (.v (.int n)), none, none, none, o5]
noncomputable abbrev choF : Stmt := stmtAt dChoice.body 2
noncomputable def choN : Expr := tup1 (arg0 (exprE (stmtAt (forB choF) 4)))
theorem cho_nest1 {n : Nat} {σ : St} {cel : Vars} : ∀ (ks : List Int) (out : List F) (o0 o1 o2 o3 : Option A), out.length + ks.length ≤ 1000 →
    ∃ o3', LTurns (lev (n + 5)) (compE choN) (compT2 choN) [] [] (ks.map .int) (fm (compS choN) none none [o0, o1, o2, o3] cel) σ out (fm (compS choN) none none [o0, o1, o2, o3'] cel) σ (out ++ ks.map .int)
  | [], out, o0, o1, o2, o3, _ => ⟨o3, by rw [List.map_nil, List.append_nil]; exact .nil⟩
  | k :: ks, out, o0, o1, o2, o3, hl => by
    simp only [List.length_cons] at hl
    obtain ⟨o3', ih⟩ := cho_nest1 (n := n) (σ := σ) (cel := cel) ks (out ++ [.int k]) o0 o1 o2 (some (.v (.int k))) (by simp; lia)
    refine ⟨o3', ?_⟩
    rw [List.map_cons, List.append_cons out]
    refine LTurns.cons (LTurn.elt rfl ?_ .nil (a := .v (.int k)) (σ2 := σ) ?_ rfl (by lia)) ih
    · exact b_loc (i := 3) ⟨by rfl, by rfl⟩
    · exact ev_of (ev_loc (by rfl) ⟨by rfl, by rfl⟩ (by rfl))
theorem cho_nest {n : Nat} {σ : St} {cel : Vars} : ∀ (l : List It) (out : List F) (o0 o1 o2 o3 : Option A), out.length + (flat l).length ≤ 1000 →
    ∃ fr', LTurns (lev (n + 7)) (compE choN) (compT choN) [] (compG2 choN) (IF l) (fm (compS choN) none none [o0, o1, o2, o3] cel) σ out fr' σ (out ++ (flat l).map .int)
  | [], out, o0, o1, o2, o3, _ => ⟨_, by rw [show (flat []).map F.int = [] from rfl, List.append_nil]; exact .nil⟩
  | x :: l, out, o0, o1, o2, o3, hl => by
    have e : flat (x :: l) = x.2 ++ flat l := rfl
    rw [e, List.length_append] at hl
    obtain ⟨o3', h1⟩ := cho_nest1 (n := n + 1) (σ := σ) (cel := cel) x.2 out o0 (some (.v (.int x.1))) (some (.v (intF x.2))) o3 (by lia)
    obtain ⟨fr', ih⟩ := cho_nest (n := n) (σ := σ) (cel := cel) l (out ++ x.2.map .int) o0 (some (.v (.int x.1))) (some (.v (intF x.2))) o3' (by simp; lia)
    refine ⟨fr', ?_⟩
    rw [e, List.map_append, ← List.append_assoc]
    refine LTurns.cons (LTurn.nest rfl (by rfl) (b_tup2 (i := 1) (i' := 2) ⟨by rfl, by rfl⟩ ⟨by rfl, by rfl⟩) .nil ?_ (comp_of (.mk ?_ h1))) ih
    · apply iter_of; apply IterS.plain
      · exact ev_of (ev_loc (i := 2) (by rfl) ⟨by rfl, by rfl⟩ (by rfl))
      · rfl
    · rw [List.length_map]; lia

theorem cont_map (kl : List Nat) (k : Nat) : (kl.map fun k : Nat => (k : Int)).contains (k : Int) = kl.contains k := by
  induction kl with
  | nil => rfl
  | cons a l ih =>
    rw [List.map_cons, List.contains_cons, List.contains_cons, ih]
    have : ((k : Int) == (a : Int)) = (k == a) := by rw [Bool.eq_iff_iff, beq_iff_eq, beq_iff_eq]; lia
    rw [this]
noncomputable def takeF (its : List It) : F → Option F
  | .int k => some (encI (itA its k.toNat))
  | _ => none
theorem take_map (its : List It) (kl : List Nat) : ((kl.map fun k : Nat => (k : Int)).map F.int).filterMap (takeF its) = IF (kl.map (itA its)) := by
  rw [List.filterMap_map, List.filterMap_map, IF, List.map_map]
  simp only [Function.comp_def, takeF, List.filterMap_eq_map', Int.toNat_natCast]
theorem it_fst (l : List It) : (IF l).filterMap fstF = (l.map fun x : It => x.1).map .int := by
  rw [List.filterMap_map, List.map_map]
  simp only [Function.comp_def, fstF, List.filterMap_eq_map']
set_option maxHeartbeats 2000000 in
theorem cho_turns (n N p m : Nat) (hp : Pr p) (nums : List Int) (hm : p * m ≤ 100) (G : Nat) : ∀ (d i : Nat) (its gs : List It) (ia : A) (σ : St) (o4 o5 o6 o7 o8 : Option A), ItA σ its ia → ia ≠ .r G → σ[G]? = some (.lst (IF gs), true) → d * p + p - 1 ≤ its.length → its.length ≤ 60 → gs.length + d ≤ 60 →
    (∀ x ∈ its, Good nums m x) → (∀ x ∈ gs, Good nums (p * m) x) → (flat gs ++ flat its).Nodup →
    ∃ ia' its' gs' o4' o5' o6' o7' o8' σ', ForR (lev (n + 160)) (forT choF) (forB choF) ((List.range' i d).map fun k : Nat => .int (k : Int)) (fm dChoice.sc none (nestOf dChoice.body) (VCho (some (.v (.int p))) (some (.r G)) o4 o6 o7 o8) (slot dChoice.sc.names (CCho ia N o5))) σ .next
      (fm dChoice.sc none (nestOf dChoice.body) (VCho (some (.v (.int p))) (some (.r G)) o4' o6' o7' o8') (slot dChoice.sc.names (CCho ia' N o5'))) σ' ∧ σ'[G]? = some (.lst (IF gs'), true) ∧ gs'.length = gs.length + d ∧ (∀ x ∈ gs', Good nums (p * m) x) ∧ (flat gs' ++ flat its').Nodup
  | 0, i, its, gs, ia, σ, o4, o5, o6, o7, o8, hI, hG, hg, h1, h2, h3, h4, h5, h6 => ⟨ia, its, gs, o4, o5, o6, o7, o8, σ, .nil, hg, rfl, h5, h6⟩
  | d + 1, i, its, gs, ia, σ, o4, o5, o6, o7, o8, hI, hG, hg, h1, h2, h3, h4, h5, h6 => by
    have p2 := hp.two
    have p5 := hp.five
    rw [Nat.add_mul] at h1
    obtain ⟨kl, as', τ, b, a', τ', c1, c2, c3, c4, K⟩ := someCall (n + 8) p hp hI (by lia) (fun x hx => ⟨(h4 x hx).lo, (h4 x hx).hi⟩)
    have hk : ∀ k ∈ kl, k < its.length := fun k h => by have := K.lt k h; lia
    have hgg := good_group hp K (by lia) h4
    have hS := K.sum
    have hperm := rest_perm K.nodup hk
    have hlen : (restI kl its).length + p = its.length := by
      have := hperm.length_eq
      rw [List.length_append, List.length_map, K.len] at this; lia
    obtain ⟨f1, f2, f3, f4, f5⟩ := flat_good (m := m) fun x hx => h4 x (pick_mem hk x hx)
    rw [List.length_map, K.len] at f1 f3 f4
    have e1 : (kl.map (itA its)).map (fun x : It => x.1) = kl.map fun k => (itA its k).1 := by rw [List.map_map]; rfl
    rw [e1] at f3 f4
    obtain ⟨σd, hd⟩ := div_ok p hp.h (n + 38) (kl.map fun k => (itA its k).1).sum (by lia) (by lia)
    have hIF : IF (gs ++ [((kl.map fun k => (itA its k).1).sum.fdiv p, flat (kl.map (itA its)))]) = IF gs ++ [.tup [.int ((kl.map fun k => (itA its k).1).sum.fdiv p), .lst ((flat (kl.map (itA its))).map .int)]] := List.map_append
    have hG1 := (List.getElem?_eq_some_iff.1 hg).1
    have hI1 := hI.set (c := (F.lst (IF gs ++ [.tup [.int ((kl.map fun k => (itA its k).1).sum.fdiv p), .lst ((flat (kl.map (itA its))).map .int)]]), true)) hG
    obtain ⟨σ2, z1, z2, z3⟩ := hI1.fz
    have hg2 := (z3 G hG).trans (List.getElem?_set_self hG1)
    rw [← hIF] at hg2
    have hnd : (flat (gs ++ [((kl.map fun k => (itA its k).1).sum.fdiv p, flat (kl.map (itA its)))]) ++ flat (restI kl its)).Nodup := by
      have e2 : flat (gs ++ [((kl.map fun k => (itA its k).1).sum.fdiv p, flat (kl.map (itA its)))]) ++ flat (restI kl its) = flat gs ++ flat (kl.map (itA its) ++ restI kl its) := by
        simp [flat]
      rw [e2]
      exact (((flat_perm hperm).append_left _).nodup_iff).2 h6
    obtain ⟨ia', its', gs', o4', o5', o6', o7', o8', σ', ih, i1, i2, i3, i4⟩ := cho_turns n N p m hp nums hm G d (i + 1) (restI kl its) _ (.v (.lst (IF (restI kl its)))) σ2 (some (.v (.int i))) (some (.v (intF (kl.map fun k : Nat => (k : Int))))) (some (.v (.lst (IF (kl.map (itA its)))))) (some (.v (.int ((kl.map fun k => (itA its k).1).sum.fdiv p)))) (some (.v (.int ((kl.map fun k => (itA its k).1).sum.fmod p)))) .v (by simp) hg2 (by lia) (by lia) (by simp; lia)
      (fun x hx => h4 x (hperm.mem_iff.1 (List.mem_append.2 (.inr hx)))) (fun x hx => by
        rcases List.mem_append.1 hx with hx | hx
        · exact h5 x hx
        · rw [List.mem_singleton] at hx; subst hx; exact hgg) hnd
    refine ⟨ia', its', gs', o4', o5', o6', o7', o8', σ', ?_, i1, by rw [i2]; simp; lia, i3, i4⟩
    obtain ⟨frn, hn⟩ := cho_nest (n := n + 148) (σ := σ) (cel := slot dChoice.sc.names (CCho ia N (some (.v (intF (kl.map fun k : Nat => (k : Int))))))) (kl.map (itA its)) [] none none none none (by rw [f1]; simp; lia)
    rw [List.nil_append] at hn
    rw [List.range'_succ, List.map_cons]
    apply ForR.next
    · exact b_loc ⟨by rfl, by rfl⟩
    · walk_at "st"
      · apply ev_of; apply EvS.callG f_some (by with_unfolding_all rfl) (by with_unfolding_all rfl)
        · repeat walk_at "s"
        · exact c1
        · exact c2
        · exact c3
        · exact c4
      walk_at "st"
      · apply lcomp_map 2 (IF (kl.map (itA its))) (takeF its) (by rfl) (by rfl)
        · apply iter_of; apply IterS.plain
          · walk_at "s"
          · rfl
        · rw [List.length_map, List.length_map, K.len]; lia
        · intro x hx vs hv
          obtain ⟨z0, hz0, rfl⟩ := List.mem_map.1 hx
          obtain ⟨z, hz, rfl⟩ := List.mem_map.1 hz0
          match vs, hv with
          | [y0, y1], _ =>
            apply turn_some
            · exact b_loc ⟨by rfl, by rfl⟩
            · rfl
            · exact AllR.nil
            · walk_at "s"
              · walk_at "s"
              · walk_at "s"
              · exact hI.get
              · exact it_get (hk z hz)
              · have := hk z hz; exact small_nat (by lia)
            · rfl
            · rfl
        · exact take_map its kl
      walk_at "st"
      · apply ev_of; apply EvS.callG f_div (by with_unfolding_all rfl) (by with_unfolding_all rfl)
        · apply ArgsR.cons (by rfl)
          · apply ev_of; apply EvS.blt (by with_unfolding_all rfl) (by with_unfolding_all rfl)
            · apply ArgsR.cons (by rfl)
              · apply ev_of; apply EvS.comp
                apply lcomp_map 3 ((kl.map fun k => (itA its k).1).map .int) fstF (by rfl) (by rfl)
                · apply iter_of; apply IterS.plain
                  · walk_at "s"
                  · rfl
                · rw [List.length_map, List.length_map, K.len]; lia
                · intro x hx vs hv
                  obtain ⟨z, hz, rfl⟩ := List.mem_map.1 hx
                  match vs, hv with
                  | [y0, y1, y2], _ =>
                    apply turn_some
                    · exact b_tup2 ⟨by rfl, by rfl⟩ ⟨by rfl, by rfl⟩
                    · rfl
                    · exact AllR.nil
                    · repeat walk_at "s"
                    · rfl
                    · rfl
                · rw [it_fst, e1]
              · exact ArgsR.nil
            · rfl
            · exact BltR.sum (by rw [List.length_map, K.len]; lia)
          · repeat walk_at "s"
        · rfl
        · exact hd
        · rfl
        · exact unpack_nil
      apply ExecsR.cons
      · apply exec_of; apply ExecS.ifF
        · apply test_of; apply TestS.all
          apply AllR.go (b := false)
          · apply test_of; apply t_cmp (by rfl)
            · walk_at "s"
            · walk_at "s"
            · rfl
            · rfl
            · exact CmpR.ne
            · rw [hS]; rfl
          · rfl
          · apply AllR.go (b := false)
            · apply test_of; apply t_cmp (by rfl)
              · apply ev_of; apply EvS.blt (by with_unfolding_all rfl) (by with_unfolding_all rfl)
                · repeat walk_at "s"
                · rfl
                · exact BltR.lenL (by rw [List.length_map, List.length_map, K.len]; lia)
              · walk_at "s"
              · rfl
              · rfl
              · exact CmpR.ne
              · rw [List.length_map, List.length_map, K.len]; simp
            · rfl
            · exact AllR.nil
        · exact ExecsR.nil
      walk_at "st"
      · apply ev_of; apply EvS.append (by with_unfolding_all rfl) (by with_unfolding_all rfl)
        · walk_at "s"
        · exact get_r hg
        · walk_at "s"
          · apply ListR.cons (by rfl)
            · walk_at "s"
            · rfl
            · apply ListR.cons (by rfl)
              · apply ev_of; apply EvS.comp
                apply e_lcomp 4 (by rfl) (by rfl) (by rfl)
                · apply iter_of; apply IterS.plain
                  · walk_at "s"
                  · rfl
                · exact comp_of (.mk (by rw [List.length_map, List.length_map, K.len]; lia) hn)
              · rfl
              · exact ListR.nil
          · simp
        · rfl
        · exact hg
        · simp; lia
      walk_at "st"
      · apply lcomp_map 3 (IF (restI kl its)) (restF kl) (by rfl) (by rfl)
        · apply iter_of; apply IterS.enum (by rfl) (by rfl) (by rfl)
          · walk_at "s"
          · exact z1
        · rw [enum_its]; simp; lia
        · intro x hx vs hv
          rw [enum_its] at hx
          obtain ⟨k, hk', rfl⟩ := List.mem_map.1 hx
          match vs, hv with
          | [y0, y1, y2], _ =>
            have tst : ∀ c, (!kl.contains k) = c → (lev (n + 158)).test (fm (compS (asgE (stmtAt (forB choF) 5))) none none [y0, some (.v (.int k)), some (.v (encI (itA its k)))] (slot dChoice.sc.names (CCho ia N (some (.v (intF (kl.map fun k : Nat => (k : Int)))))))) σ2 (ifs0 (asgE (stmtAt (forB choF) 5))) c σ2 := fun c hc => by
              apply test_of; apply t_cmp (by rfl)
              · walk_at "s"
              · walk_at "s"
              · rfl
              · rfl
              · exact CmpR.ninl
              · rw [cont_map]; exact hc
            by_cases hc : kl.contains k = true
            · apply turn_none
              · exact b_tup2 (i := 1) (i' := 2) ⟨by rfl, by rfl⟩ ⟨by rfl, by rfl⟩
              · rfl
              · exact AllR.stop (tst false (by rw [hc]; rfl)) rfl
              · show (if kl.contains ((k : Int)).toNat = true then none else _) = none
                rw [Int.toNat_natCast, if_pos hc]
            · apply turn_some
              · exact b_tup2 (i := 1) (i' := 2) ⟨by rfl, by rfl⟩ ⟨by rfl, by rfl⟩
              · rfl
              · exact AllR.go (tst true (by rw [Bool.eq_false_iff.2 hc]; rfl)) rfl .nil
              · walk_at "s"
              · rfl
              · show (if kl.contains ((k : Int)).toNat = true then none else _) = _
                rw [Int.toNat_natCast, if_neg hc]
        · exact rest_map kl its
      exact ExecsR.nil
    · exact ih
end
noncomputable section
noncomputable def divF (N : Nat) : F → Option F
  | .int k => if N % k.toNat = 0 then some (.int k) else none
  | _ => none
noncomputable def divs (N : Nat) : List Nat := (List.range' 2 (N - 1)).filter fun k => N % k == 0
theorem divs_map {N : Nat} (hN : Nr N) : (rangeF 2 ((N : Int) + 1 - 2).toNat).filterMap (divF N) = ((divs N).map fun k : Nat => (k : Int)).map .int := by
  have n2 := hN.two
  have n6 := hN.six
  rcases hN.h with rfl | rfl | rfl | rfl | rfl <;> rfl
noncomputable def choP : Expr := subO (asgE (stmtAt dChoice.body 0))
theorem ItA.ne {σ : St} {its : List It} {a : A} (h : ItA σ its a) : a ≠ .r σ.length := by
  cases h with
  | v => simp
  | r e => intro q; have := (List.getElem?_eq_some_iff.1 e).1; simp at q; lia
theorem ItA.ext {σ : St} {its : List It} {a : A} {c : F × Bool} (h : ItA σ its a) : ItA (σ ++ [c]) its a := by
  cases h with
  | v => exact .v
  | r e => exact .r ((List.getElem?_append_left (List.getElem?_eq_some_iff.1 e).1).trans e)
set_option maxHeartbeats 2000000 in
theorem cho_start (n N p q m : Nat) (hN : Nr N) (hp : Pr p) (hd : ∃ r, divs N = p :: r) (hq : N = q * p) (nums : List Int) (hm : p * m ≤ 100) (its : List It) (a : A) (σ : St) (hI : ItA σ its a)
    (h1 : 2 * N - 1 ≤ its.length) (h2 : its.length ≤ 60) (h4 : ∀ x ∈ its, Good nums m x) (h6 : (flat its).Nodup) :
    ∃ o4 o6 o7 o8 ia' o5 gs σ1 G, σ1[G]? = some (.lst (IF gs), true) ∧ gs.length = 2 * q - 1 ∧ (∀ x ∈ gs, Good nums (p * m) x) ∧ (flat gs).Nodup ∧
      ∀ fl fr' σ' r, ExecsR (lev (n + 169)) (dChoice.body.drop 3) (fm dChoice.sc none (nestOf dChoice.body) (VCho (some (.v (.int p))) (some (.r G)) o4 o6 o7 o8) (slot dChoice.sc.names (CCho ia' N o5))) σ1 fl fr' σ' → RetR fl r → (lev (n + 170)).call dChoice none noV [a, .v (.int N)] σ r σ' := by
  have p2 := hp.two
  have p5 := hp.five
  have n2 := hN.two
  have n6 := hN.six
  obtain ⟨r, hd⟩ := hd
  have hdp : (divs N)[0]? = some p := by rw [hd]; rfl
  have hq0 : 0 < q := by
    rcases Nat.eq_zero_or_pos q with h | h
    · rw [h] at hq; lia
    · exact h
  have hqq : (2 * q - 1) * p + p - 1 = 2 * N - 1 := by
    rw [hq, Nat.sub_mul, Nat.mul_assoc, Nat.one_mul]
    have : p ≤ q * p := Nat.le_mul_of_pos_left p hq0
    lia
  have hq6 : q ≤ 6 := by
    have : q * 1 ≤ q * p := Nat.mul_le_mul_left q (by lia)
    lia
  obtain ⟨ia', its', gs, o4, o5, o6, o7, o8, σ1, l1, i1, i2, i3, i4⟩ := cho_turns (n + 8) N p m hp nums hm σ.length (2 * q - 1) 0 its [] a (σ ++ [(.lst [], true)]) none none none none none hI.ext hI.ne (by simp) (by lia) h2 (by simp; lia) h4 (by simp) (by simpa [flat] using h6)
  have hps : (p : Int) ≠ 0 := by lia
  have hpl : (p : Int).natAbs < 1000000 := by lia
  have hNp : ((N : Int).fdiv p) = q := by
    rw [fdiv_nat, hq, Nat.mul_div_cancel _ (by lia)]
  refine ⟨o4, o6, o7, o8, ia', o5, gs, σ1, σ.length, i1, by simpa using i2, i3, (List.nodup_append.1 i4).1, fun fl fr' σ' r hx hr => ?_⟩
  apply call_pad 9 4 (vs := VCho none none none none none none) (cs := CCho a N none) (by rfl) (by rfl) (by rfl) (hr := hr)
  walk_at "st"
  · walk_at "s"
    · apply ev_of; apply EvS.comp
      apply lcomp_map 2 (((divs N).map fun k : Nat => (k : Int)).map .int) (divF N) (by rfl) (by rfl)
      · apply iter_of; apply IterS.range2 (by rfl) (by rfl) (by rfl)
        · walk_at "s"
        · repeat walk_at "s"
        · decide
        · exact small_nat (i := N + 1) (by lia)
        · lia
      · rcases hN.h with rfl | rfl | rfl | rfl | rfl <;> decide
      · intro x hx vs hv
        rw [show (2 : Int) = ((2 : Nat) : Int) from rfl, rangeF_map] at hx
        obtain ⟨k, hk, rfl⟩ := List.mem_map.1 hx
        have hk2 := (List.mem_range'_1.1 hk).1
        have hk3 := (List.mem_range'_1.1 hk).2
        match vs, hv with
        | [y0, y1], _ =>
          have tst : ∀ c, (((N % k : Nat) : Int) == 0) = c → (lev (n + 165)).test (fm (compS choP) none none [y0, some (.v (.int k))] (slot dChoice.sc.names (CCho a N none))) σ (ifs0 choP) c σ := fun c hc => by
            apply test_of; apply t_cmp (by rfl)
            · walk_at "s"
              · walk_at "s"
              · walk_at "s"
              · rfl
              · rfl
              · exact BinR.mod (by lia) (by lia)
            · walk_at "s"
            · rfl
            · rfl
            · exact CmpR.eq
            · rw [fmod_nat]; exact hc
          by_cases hc : N % k = 0
          · apply turn_some
            · exact b_loc (i := 1) ⟨by rfl, by rfl⟩
            · rfl
            · exact AllR.go (tst true (by rw [hc]; rfl)) rfl .nil
            · walk_at "s"
            · rfl
            · show (if N % ((k : Int)).toNat = 0 then some _ else none) = _
              rw [Int.toNat_natCast, if_pos hc]
          · apply turn_none
            · exact b_loc (i := 1) ⟨by rfl, by rfl⟩
            · rfl
            · exact AllR.stop (tst false (by rw [beq_eq_false_iff_ne]; lia)) rfl
            · show (if N % ((k : Int)).toNat = 0 then some _ else none) = _
              rw [Int.toNat_natCast, if_neg hc]
      · exact divs_map hN
    · walk_at "s"
    · rfl
    · exact it_int (k := 0) (by rw [List.getElem?_map, hdp]; rfl)
    · decide
  walk_at "st"
  · walk_at "s"
  apply ExecsR.cons; apply exec_of; apply ExecS.for (by with_unfolding_all rfl)
  · apply iter_of; apply IterS.range1 (by rfl) (by rfl)
    · walk_at "s"
      · walk_at "s"
        · walk_at "s"
        · walk_at "s"
          · walk_at "s"
          · walk_at "s"
          · rfl
          · rfl
          · exact BinR.fdiv hps hpl
        · rfl
        · rfl
        · exact BinR.mul (by decide)
      · walk_at "s"
      · rfl
      · rfl
      · exact BinR.sub
    · rw [hNp]; rw [show 2 * (q : Int) - 1 = ((2 * q - 1 : Nat) : Int) by lia]; exact small_nat (by lia)
    · rw [hNp]; lia
  · rw [hNp, show (2 * (q : Int) - 1).toNat = 2 * q - 1 by lia, rangeF0, List.range_eq_range']
    exact l1
  exact hx
theorem one_of {l : List It} (h : l.length = 1) : ∃ g, l = [g] := by
  match l, h with
  | [g], _ => exact ⟨g, rfl⟩
theorem cho_prime (n p m : Nat) (hp : Pr p) (nums : List Int) (hm : p * m ≤ 100) (its : List It) (a : A) (σ : St) (hI : ItA σ its a)
    (h1 : 2 * p - 1 ≤ its.length) (h2 : its.length ≤ 60) (h4 : ∀ x ∈ its, Good nums m x) (h6 : (flat its).Nodup) :
    ∃ g σ', (lev (n + 170)).call dChoice none noV [a, .v (.int p)] σ (.v (encI g)) σ' ∧ Good nums (p * m) g ∧ g.2.Nodup ∧ σ' ≠ [] := by
  have p2 := hp.two
  have p5 := hp.five
  obtain ⟨o4, o6, o7, o8, ia', o5, gs, σ1, G, i1, i2, i3, i4, k⟩ := cho_start n p p 1 m ⟨by have := hp.h; lia⟩ hp (by rcases hp.h with rfl | rfl | rfl <;> exact ⟨[], by decide⟩) (by lia) nums hm its a σ hI h1 h2 h4 h6
  obtain ⟨g, rfl⟩ := one_of i2
  refine ⟨g, σ1, ?_, i3 g (.head _), by simpa [flat] using i4, fun e => by rw [e] at i1; simp at i1⟩
  have kk := fun fr' hx => k (.ret (.v (encI g))) fr' σ1 (.v (encI g)) hx RetR.ret
  apply kk
  apply x_ret; apply exec_of; apply ExecS.ifT
  · apply test_of; apply t_cmp (by rfl)
    · walk_at "s"
    · walk_at "s"
    · rfl
    · rfl
    · exact CmpR.eq
    · simp
  · apply x_ret; walk_at "s"
    walk_at "s"
    · walk_at "s"
    · walk_at "s"
    · exact get_r i1
    · exact ItR.lst (by decide) rfl
    · decide
theorem cho_two (n N q : Nat) (hq : q = 2 ∨ q = 3) (hN : N = q * 2) (nums : List Int) (its : List It) (h1 : 2 * N - 1 ≤ its.length) (h2 : its.length ≤ 60) (h4 : ∀ x ∈ its, Good nums 1 x) (h6 : (flat its).Nodup) :
    ∃ g σ', (lev (n + 180)).call dChoice none noV [.v (.lst (IF its)), .v (.int N)] [] (.v (encI g)) σ' ∧ Good nums N g ∧ g.2.Nodup := by
  obtain ⟨o4, o6, o7, o8, ia', o5, gs, σ1, G, i1, i2, i3, i4, k⟩ := cho_start (n + 10) N 2 q 1 ⟨by lia⟩ ⟨by decide⟩ (by
    rcases hq with rfl | rfl
    · exact ⟨[4], by subst hN; decide⟩
    · exact ⟨[3, 6], by subst hN; decide⟩) hN nums (by decide) its _ [] .v h1 h2 h4 h6
  obtain ⟨g, σ2, c1, c2, c3, c4⟩ := cho_prime (n + 7) q 2 ⟨by lia⟩ nums (by lia) gs (.r 0) [(.lst (IF gs), true)] (.r rfl) (by lia) (by lia) i3 i4
  obtain ⟨c, t, rfl⟩ : ∃ c t, σ2 = c :: t := by
    cases σ2 with
    | nil => exact absurd rfl c4
    | cons c t => exact ⟨c, t, rfl⟩
  have hNq : (N : Int).fdiv ((2 : Nat) : Int) = q := by
    rw [fdiv_nat, hN, Nat.mul_div_cancel _ (by decide)]
  refine ⟨g, σ1.set G c, ?_, hN ▸ c2, c3⟩
  have kk := fun fr' hx => k (.ret (.v (encI g))) fr' (σ1.set G c) (.v (encI g)) hx RetR.ret
  apply kk
  apply ExecsR.cons
  · apply exec_of; apply ExecS.ifF
    · apply test_of; apply t_cmp (by rfl)
      · walk_at "s"
      · walk_at "s"
      · rfl
      · rfl
      · exact CmpR.eq
      · rw [beq_eq_false_iff_ne]; lia
    · exact ExecsR.nil
  apply x_ret; walk_at "s"
  apply ev_of; apply EvS.callG f_choice (by with_unfolding_all rfl) (by with_unfolding_all rfl)
  · apply ArgsR.cons (by rfl)
    · walk_at "s"
    · apply ArgsR.cons (by rfl)
      · walk_at "s"
        · walk_at "s"
        · walk_at "s"
        · rfl
        · rfl
        · exact BinR.fdiv (by decide) (by decide)
      · exact ArgsR.nil
  · exact pack_rv i1
  · rw [hNq]
    exact c1
  · rfl
  · rw [unpack, unpack_nil]
theorem cho_ok (n N : Nat) (hN : Nr N) (nums : List Int) (its : List It) (h1 : 2 * N - 1 ≤ its.length) (h2 : its.length ≤ 60) (h4 : ∀ x ∈ its, Good nums 1 x) (h6 : (flat its).Nodup) :
    ∃ g σ', (lev (n + 190)).call dChoice none noV [.v (.lst (IF its)), .v (.int N)] [] (.v (encI g)) σ' ∧ Good nums N g ∧ g.2.Nodup := by
  have n2 := hN.two
  have n6 := hN.six
  have pr : Pr N → ∃ g σ', (lev (n + 190)).call dChoice none noV [.v (.lst (IF its)), .v (.int N)] [] (.v (encI g)) σ' ∧ Good nums N g ∧ g.2.Nodup := fun hp => by
    obtain ⟨g, σ', c1, c2, c3, _⟩ := cho_prime (n + 20) N 1 hp nums (by have := hp.five; lia) its _ [] .v h1 h2 h4 h6
    exact ⟨g, σ', c1, by rw [Nat.mul_one] at c2; exact c2, c3⟩
  rcases hN.h with h | h | h | h | h
  · exact pr ⟨by lia⟩
  · exact pr ⟨by lia⟩
  · exact cho_two (n + 10) N 2 (.inl rfl) h nums its h1 h2 h4 h6
  · exact pr ⟨by lia⟩
  · exact cho_two (n + 10) N 3 (.inr rfl) h nums its h1 h2 h4 h6
end
noncomputable section
theorem sort_filter (n : Nat) (l : List Int) (hn : l.Nodup) (hl : ∀ k ∈ l, 0 ≤ k ∧ k < n) : ((List.range n).filter fun k : Nat => l.contains (k : Int)).map (fun k : Nat => (k : Int)) = isort l := by
  refine List.Perm.eq_of_pairwise (le := (· ≤ ·)) (fun a b _ _ h1 h2 => Int.le_antisymm h1 h2) ?_ (isort_sorted l) ?_
  · rw [List.pairwise_map]
    exact ((List.pairwise_lt_range (n := n)).filter _).imp fun {a b} h => by show ((a : Nat) : Int) ≤ b; lia
  · refine ((List.perm_ext_iff_of_nodup ?_ hn).2 fun k => ?_).trans (isort_perm l).symm
    · rw [List.Nodup, List.pairwise_map]
      exact ((List.nodup_range (n := n)).filter _).imp fun {a b} h => by show ((a : Nat) : Int) ≠ b; lia
    · simp only [List.mem_map, List.mem_filter, List.mem_range, List.contains_iff_mem]
      constructor
      · rintro ⟨a, ⟨_, h⟩, rfl⟩; exact h
      · intro h
        have := hl k h
        exact ⟨k.toNat, ⟨by lia, by rw [show ((k.toNat : Nat) : Int) = k by lia]; exact h⟩, by lia⟩
noncomputable def itsOf (nums : List Int) : List It := (List.range nums.length).map fun k : Nat => (num nums (k : Int), [(k : Int)])
theorem its_good {nums : List Int} (h : ∀ x ∈ nums, -20 ≤ x ∧ x ≤ 39) : ∀ x ∈ itsOf nums, Good nums 1 x := by
  intro x hx
  obtain ⟨k, hk, rfl⟩ := List.mem_map.1 hx
  have hk := List.mem_range.1 hk
  have hm : num nums (k : Int) ∈ nums := by
    simp only [num, Int.toNat_natCast, List.getD_eq_getElem?_getD, List.getElem?_eq_getElem hk, Option.getD_some]
    exact List.getElem_mem hk
  refine ⟨rfl, by simp, (h _ hm).1, (h _ hm).2, fun j hj => ?_⟩
  rw [List.mem_singleton] at hj; subst hj
  lia
theorem its_nodup (nums : List Int) : (flat (itsOf nums)).Nodup := by
  have : ∀ l : List Nat, flat (l.map fun k : Nat => (num nums (k : Int), [(k : Int)])) = l.map fun k : Nat => (k : Int) := fun l => by
    induction l with
    | nil => rfl
    | cons a l ih =>
      show (a : Int) :: flat _ = _
      rw [ih]; rfl
  rw [itsOf, this, List.Nodup, List.pairwise_map]
  exact (List.nodup_range (n := nums.length)).imp fun {a b} h => by show ((a : Nat) : Int) ≠ b; lia
noncomputable def pairI : F → Option F
  | .tup [a, b] => some (.tup [b, .lst [a]])
  | _ => none
theorem enum_ints (nums : List Int) : enumF 0 (nums.map .int) = (List.range nums.length).map fun k : Nat => .tup [.int (k : Int), .int (num nums (k : Int))] := by
  apply List.ext_getElem?
  intro k
  rw [enumF_idx, List.getElem?_map, List.getElem?_map, Nat.zero_add]
  by_cases h : k < nums.length
  · simp [h, num]
  · simp [h]
theorem pairI_map (nums : List Int) : (enumF 0 (nums.map .int)).filterMap pairI = IF (itsOf nums) := by
  rw [enum_ints, List.filterMap_map, itsOf, IF, List.map_map]
  simp only [Function.comp_def, pairI, List.filterMap_eq_map']
  rfl
theorem num_get {nums : List Int} {k : Int} (h : 0 ≤ k ∧ k < nums.length) : ItR (.lst (nums.map .int)) k (.int (num nums k)) :=
  .lst h.1 (by rw [List.getElem?_map, num]; simp [show k.toNat < nums.length by lia])

theorem x_tupLC {L : Lev} {sc : Scope} {nst : Option (Nat × Nat × Str)} {vs cs : List (Option A)} {σ σ1 : St} {e : Expr} {p : Pos} {x x' : Str} {i i' : Nat} {u v : F} {q q1 q2 : Pos} {k : Nat} (h1 : isCall e = true) (hs : LocAt sc x i) (hs' : CelAt sc x' i') (hv : L.ev (fm sc none nst vs (slot sc.names cs)) σ e (.v (.tup [u, v])) σ1) :
    ExecS L (fm sc none nst vs (slot sc.names cs)) σ (.Assign [.Tuple [.Name x q1, .Name x' q2] k q] e p) .next (fm sc none nst (put vs i (.v u)) (slot sc.names (put cs i' (.v v)))) σ1 :=
  .tup h1 hv (.cons (set_loc hs) (.cons (set_cel hs') .nil))
noncomputable abbrev VLaw (a : A) (o2 o3 o5 : Option A) : List (Option A) := [some a, none, o2, o3, none, o5, none]
noncomputable abbrev CLaw (o1 o4 o6 : Option A) : List (Option A) := [none, o1, none, none, o4, none, o6]
noncomputable def lawP : Expr := subO (asgE (stmtAt dLaw.body 1))
noncomputable def drawF : F → Option F
  | .int x => some (.int (x.fmod 60 - 20))
  | _ => none
noncomputable def tail11 : List Int := [7, -4, 18, 2, -11, 5, 30, -8, 1, 16, 23]
noncomputable def drawn (ns : List Int) : List Int := ((ns.drop 1).take 11).map fun x => x.fmod 60 - 20
theorem slc_12 (ns : List Int) : slc (ns.map .int) (some 1) (some 12) = ((ns.drop 1).take 11).map .int := by
  have e : ∀ i : Nat, clip (ns.map F.int).length (i : Int) = min i ns.length := fun i => by rw [clip_nat, List.length_map]
  show ((ns.map F.int).drop (clip (ns.map F.int).length ((1 : Nat) : Int))).take (clip (ns.map F.int).length ((12 : Nat) : Int) - clip (ns.map F.int).length ((1 : Nat) : Int)) = _
  rw [e, e]
  rw [← List.map_drop, ← List.map_take]
  congr 1
  cases ns with
  | nil => rfl
  | cons a l =>
    have e1 : min 1 (l.length + 1) = 1 := Nat.min_eq_left (Nat.le_add_left 1 _)
    have e2 : min 12 (l.length + 1) = min 11 l.length + 1 := Nat.add_min_add_right 11 l.length 1
    rw [List.length_cons, e1, e2, Nat.add_sub_cancel]
    show l.take _ = _
    rw [← List.take_take, List.take_length]; rfl
theorem slc_1 (ns : List Int) : slc (ns.map .int) none (some 1) = (ns.take 1).map .int := by
  have e : clip (ns.map F.int).length ((1 : Nat) : Int) = min 1 ns.length := by rw [clip_nat, List.length_map]
  show ((ns.map F.int).drop 0).take (clip (ns.map F.int).length ((1 : Nat) : Int) - 0) = _
  rw [e, ← List.map_drop, ← List.map_take]
  congr 1
  rw [List.drop_zero, List.take_eq_take_iff]; lia
noncomputable def lawK : Expr := cmpE (boolE (ifE (stmtAt dLaw.body 5)))
noncomputable def inF (l : List Int) : F → Option F
  | .int k => if l.contains k then some (.int k) else none
  | _ => none
theorem in_map (l : List Int) (ks : List Nat) : (ks.map fun k : Nat => F.int (k : Int)).filterMap (inF l) = ((ks.filter fun k : Nat => l.contains (k : Int)).map fun k : Nat => (k : Int)).map .int := by
  induction ks with
  | nil => rfl
  | cons k ks ih =>
    rw [List.map_cons]
    by_cases h : l.contains (k : Int) = true
    · rw [List.filterMap_cons_some (f := inF l) (a := F.int k) (b := F.int k) (if_pos h), ih, List.filter_cons_of_pos (p := fun k : Nat => l.contains (k : Int)) h]; rfl
    · rw [List.filterMap_cons_none (f := inF l) (a := F.int k) (if_neg h), ih, List.filter_cons_of_neg (p := fun k : Nat => l.contains (k : Int)) h]
noncomputable def getF (nums : List Int) : F → Option F
  | .int k => some (.int (num nums k))
  | _ => none
set_option maxHeartbeats 2000000 in
theorem law_ok (n : Nat) (ns : List Int) (h : ns.length ≤ 63) : ∃ σ', (lev (n + 200)).call dLaw none noV [.v (.lst (ns.map .int))] [] (.v (.bool true)) σ' := by
  obtain ⟨N, hN0⟩ : ∃ N : Nat, 2 + ((ns.take 1).sum + 1).fmod 5 = (N : Int) := ⟨(2 + ((ns.take 1).sum + 1).fmod 5).toNat, by rw [show (5 : Int) = ((5 : Nat) : Int) from rfl, fmod5]; lia⟩
  have hN : Nr N := ⟨by
    rw [show (5 : Int) = ((5 : Nat) : Int) from rfl, fmod5] at hN0; lia⟩
  have n2 := hN.two
  have n6 := hN.six
  obtain ⟨p, hp, hpN, r, hd⟩ : ∃ p, Pr p ∧ p ≤ N ∧ ∃ r, divs N = p :: r := by
    rcases hN.h with rfl | rfl | rfl | rfl | rfl
    · exact ⟨2, ⟨by decide⟩, by decide, [], by decide⟩
    · exact ⟨3, ⟨by decide⟩, by decide, [], by decide⟩
    · exact ⟨2, ⟨by decide⟩, by decide, [4], by decide⟩
    · exact ⟨5, ⟨by decide⟩, by decide, [], by decide⟩
    · exact ⟨2, ⟨by decide⟩, by decide, [3, 6], by decide⟩
  have hdp : (divs N)[0]? = some p := by rw [hd]; rfl
  have p2 := hp.two
  have p5 := hp.five
  obtain ⟨nums, hnums⟩ : ∃ nums, nums = (drawn ns ++ tail11).take (2 * N - 1) := ⟨_, rfl⟩
  have hlen : nums.length = 2 * N - 1 := by
    rw [hnums, List.length_take, List.length_append, show tail11.length = 11 from rfl]; lia
  have hnb : ∀ x ∈ nums, -20 ≤ x ∧ x ≤ 39 := fun x hx => by
    rw [hnums] at hx
    rcases List.mem_append.1 (List.mem_of_mem_take hx) with hx | hx
    · obtain ⟨y, _, rfl⟩ := List.mem_map.1 hx
      rw [show (60 : Int) = ((60 : Nat) : Int) from rfl, fmod5]; lia
    · have : ∀ y ∈ tail11, -20 ≤ y ∧ y ≤ 39 := by decide
      exact this x hx
  obtain ⟨g, σ1, c1, c2, c3⟩ := cho_ok (n + 7) N hN nums (itsOf nums) (by simp [itsOf, hlen]) (by simp [itsOf, hlen]; lia) (its_good hnb) (its_nodup nums)
  obtain ⟨σ2, c4⟩ := hold_fin (n + 46) p hp (nums.take (2 * p - 1)) (by rw [List.length_take, hlen]; lia) (fun y hy => by have := hnb y (List.mem_of_mem_take hy); lia)
  have hg6 := c2.len
  have hN2 : 2 * (N : Int) - 1 = ((2 * N - 1 : Nat) : Int) := by lia
  have hNt : (2 * (N : Int) - 1).toNat = 2 * N - 1 := by lia
  have hsl : slc ((drawn ns).map F.int ++ [.int 7, .int (-4), .int 18, .int 2, .int (-11), .int 5, .int 30, .int (-8), .int 1, .int 16, .int 23]) none (some (2 * (N : Int) - 1)) = nums.map .int := by
    rw [show (drawn ns).map F.int ++ [.int 7, .int (-4), .int 18, .int 2, .int (-11), .int 5, .int 30, .int (-8), .int 1, .int 16, .int 23] = (drawn ns ++ tail11).map F.int by rw [List.map_append]; rfl, hN2,
      slc_to (by rw [List.length_map, List.length_append, show tail11.length = 11 from rfl]; lia), ← List.map_take, hnums]
  have hsp : slc (nums.map F.int) none (some (2 * (p : Int) - 1)) = (nums.take (2 * p - 1)).map .int := by
    rw [show 2 * (p : Int) - 1 = ((2 * p - 1 : Nat) : Int) by lia, slc_to (by rw [List.length_map, hlen]; lia), ← List.map_take]
  have hsf := sort_filter (2 * N - 1) g.2 c3 (fun k hk => by have := c2.rng k hk; lia)
  refine ⟨[], ?_⟩
  apply call_pad 6 7 (vs := VLaw (.v (.lst (ns.map .int))) none none none) (cs := CLaw none none none) (by rfl) (by rfl) (by rfl) (hr := RetR.ret)
  walk_at "st"
  · walk_at "s"
    · walk_at "s"
    · walk_at "s"
      · walk_at "s"
        · apply ev_of; apply EvS.blt (by with_unfolding_all rfl) (by with_unfolding_all rfl)
          · apply ArgsR.cons (by rfl)
            · walk_at "s"
              · walk_at "s"
              · repeat walk_at "s"
              · repeat walk_at "s"
              · rfl
              · simp; lia
            · exact ArgsR.nil
          · rw [slc_1]; rfl
          · exact BltR.sum (by simp; lia)
        · walk_at "s"
        · rfl
        · rfl
        · exact BinR.add
      · walk_at "s"
      · rfl
      · rfl
      · exact BinR.mod (by decide) (by decide)
    · rfl
    · rfl
    · exact BinR.add
  rw [hN0]
  walk_at "st"
  · walk_at "s"
    · apply ev_of; apply EvS.comp
      apply lcomp_map 2 (((divs N).map fun k : Nat => (k : Int)).map .int) (divF N) (by rfl) (by rfl)
      · apply iter_of; apply IterS.range2 (by rfl) (by rfl) (by rfl)
        · walk_at "s"
        · repeat walk_at "s"
        · decide
        · exact small_nat (i := N + 1) (by lia)
        · lia
      · rcases hN.h with rfl | rfl | rfl | rfl | rfl <;> decide
      · intro x hx vs hv
        rw [show (2 : Int) = ((2 : Nat) : Int) from rfl, rangeF_map] at hx
        obtain ⟨k, hk, rfl⟩ := List.mem_map.1 hx
        have hk2 := (List.mem_range'_1.1 hk).1
        have hk3 := (List.mem_range'_1.1 hk).2
        match vs, hv with
        | [y0, y1], _ =>
          have tst : ∀ c, (((N % k : Nat) : Int) == 0) = c → (lev (n + 195)).test (fm (compS lawP) none none [y0, some (.v (.int k))] (slot dLaw.sc.names (CLaw (some (.v (.int N))) none none))) [] (ifs0 lawP) c [] := fun c hc => by
            apply test_of; apply t_cmp (by rfl)
            · walk_at "s"
              · walk_at "s"
              · walk_at "s"
              · rfl
              · rfl
              · exact BinR.mod (by lia) (by lia)
            · walk_at "s"
            · rfl
            · rfl
            · exact CmpR.eq
            · rw [fmod_nat]; exact hc
          by_cases hc : N % k = 0
          · apply turn_some
            · exact b_loc (i := 1) ⟨by rfl, by rfl⟩
            · rfl
            · exact AllR.go (tst true (by rw [hc]; rfl)) rfl .nil
            · walk_at "s"
            · rfl
            · show (if N % ((k : Int)).toNat = 0 then some _ else none) = _
              rw [Int.toNat_natCast, if_pos hc]
          · apply turn_none
            · exact b_loc (i := 1) ⟨by rfl, by rfl⟩
            · rfl
            · exact AllR.stop (tst false (by rw [beq_eq_false_iff_ne]; lia)) rfl
            · show (if N % ((k : Int)).toNat = 0 then some _ else none) = _
              rw [Int.toNat_natCast, if_neg hc]
      · exact divs_map hN
    · walk_at "s"
    · rfl
    · exact it_int (k := 0) (by rw [List.getElem?_map, hdp]; rfl)
    · decide
  walk_at "st"
  · apply lcomp_map 2 ((drawn ns).map .int) drawF (by rfl) (by rfl)
    · apply iter_of; apply IterS.plain
      · walk_at "s"
        · walk_at "s"
        · repeat walk_at "s"
        · repeat walk_at "s"
        · rfl
        · simp; lia
      · rfl
    · rw [slc_12]; simp; lia
    · rw [slc_12]
      intro x hx vs hv
      obtain ⟨z, _, rfl⟩ := List.mem_map.1 hx
      match vs, hv with
      | [y0, y1], _ =>
        apply turn_some
        · exact b_loc ⟨by rfl, by rfl⟩
        · rfl
        · exact AllR.nil
        · repeat walk_at "s"
        · rfl
        · rfl
    · rw [slc_12, List.filterMap_map, drawn, List.map_map]
      simp only [Function.comp_def, drawF, List.filterMap_eq_map']
  walk_at "st"
  · walk_at "s"
    · walk_at "s"
      · walk_at "s"
      · repeat walk_at "s"
        decide
      · rfl
      · rfl
      · exact BinR.cat (by simp [drawn]; lia)
    · walk_at "s"
    · walk_at "s"
      walk_at "s"
      · walk_at "s"
        · walk_at "s"
        · walk_at "s"
        · rfl
        · rfl
        · exact BinR.mul (by decide)
      · walk_at "s"
      · rfl
      · rfl
      · exact BinR.sub
    · rfl
    · simp [drawn]; lia
  rw [hsl]
  apply ExecsR.cons
  · apply exec_of; apply x_tupLC (by rfl) ⟨by rfl, by rfl⟩ ⟨by rfl, by rfl⟩
    apply ev_of; apply EvS.callG f_choice (by with_unfolding_all rfl) (by with_unfolding_all rfl)
    · apply ArgsR.cons (by rfl)
      · apply ev_of; apply EvS.comp
        apply lcomp_map 3 (IF (itsOf nums)) pairI (by rfl) (by rfl)
        · apply iter_of; apply IterS.enum (by rfl) (by rfl) (by rfl)
          · walk_at "s"
          · rfl
        · rw [enum_ints]; simp; lia
        · intro x hx vs hv
          rw [enum_ints] at hx
          obtain ⟨k, _, rfl⟩ := List.mem_map.1 hx
          match vs, hv with
          | [y0, y1, y2], _ =>
            apply turn_some
            · exact b_tup2 ⟨by rfl, by rfl⟩ ⟨by rfl, by rfl⟩
            · rfl
            · exact AllR.nil
            · walk_at "s"
              · apply ListR.cons (by rfl)
                · walk_at "s"
                · rfl
                · apply ListR.cons (by rfl)
                  · walk_at "s"
                    · repeat walk_at "s"
                    · simp
                  · rfl
                  · exact ListR.nil
              · simp
            · rfl
            · rfl
        · exact pairI_map nums
      · repeat walk_at "s"
    · rfl
    · exact c1
    · rfl
    · exact unpack_nil
  apply ExecsR.cons
  · apply exec_of; apply ExecS.ifF
    · apply test_of; apply TestS.all
      apply AllR.go (b := false)
      · apply test_of; apply t_cmp (by rfl)
        · apply ev_of; apply EvS.blt (by with_unfolding_all rfl) (by with_unfolding_all rfl)
          · repeat walk_at "s"
          · rfl
          · exact BltR.lenL (by rw [List.length_map, hg6]; lia)
        · walk_at "s"
        · rfl
        · rfl
        · exact CmpR.ne
        · rw [List.length_map, hg6]; simp
      · rfl
      · apply AllR.go (b := false)
        · apply test_of; apply t_cmp (by rfl)
          · apply ev_of; apply EvS.comp
            apply lcomp_map 2 ((((List.range (2 * N - 1)).filter fun k : Nat => g.2.contains (k : Int)).map fun k : Nat => (k : Int)).map .int) (inF g.2) (by rfl) (by rfl)
            · apply iter_of; apply IterS.range1 (by rfl) (by rfl)
              · walk_at "s"
                · walk_at "s"
                  · walk_at "s"
                  · walk_at "s"
                  · rfl
                  · rfl
                  · exact BinR.mul (by decide)
                · walk_at "s"
                · rfl
                · rfl
                · exact BinR.sub
              · rw [hN2]; exact small_nat (by lia)
              · lia
            · rw [hNt, rangeF0]; simp; lia
            · rw [hNt, rangeF0]
              intro x hx vs hv
              obtain ⟨k, hk, rfl⟩ := List.mem_map.1 hx
              match vs, hv with
              | [y0, y1], _ =>
                have tst : ∀ c, g.2.contains (k : Int) = c → (lev (n + 194)).test (fm (compS lawK) none none [y0, some (.v (.int k))] (slot dLaw.sc.names (CLaw (some (.v (.int N))) (some (.v (intF nums))) (some (.v (intF g.2)))))) [] (ifs0 lawK) c [] := fun c hc => by
                  apply test_of; apply t_cmp (by rfl)
                  · walk_at "s"
                  · walk_at "s"
                  · rfl
                  · rfl
                  · exact CmpR.inl
                  · exact hc
                by_cases hc : g.2.contains (k : Int) = true
                · apply turn_some
                  · exact b_loc (i := 1) ⟨by rfl, by rfl⟩
                  · rfl
                  · exact AllR.go (tst true hc) rfl .nil
                  · walk_at "s"
                  · rfl
                  · exact if_pos hc
                · apply turn_none
                  · exact b_loc (i := 1) ⟨by rfl, by rfl⟩
                  · rfl
                  · exact AllR.stop (tst false (Bool.eq_false_iff.2 hc)) rfl
                  · exact if_neg hc
            · rw [hNt, rangeF0]; exact in_map g.2 _
          · apply ev_of; apply EvS.blt (by with_unfolding_all rfl) (by with_unfolding_all rfl)
            · repeat walk_at "s"
            · rfl
            · exact BltR.sortL (by rw [hg6]; lia)
          · rfl
          · rfl
          · exact CmpR.lne (by rw [hsf, isort_length, hg6]; lia) (by rw [isort_length, hg6]; lia)
          · rw [hsf]; simp
        · rfl
        · exact AllR.nil
    · exact ExecsR.nil
  apply x_ret; walk_at "s"
  apply ev_of; apply EvS.bgo
  · apply ev_of; apply EvS.cmp (by rfl)
    · apply ev_of; apply EvS.blt (by with_unfolding_all rfl) (by with_unfolding_all rfl)
      · apply ArgsR.cons (by rfl)
        · apply ev_of; apply EvS.comp
          apply lcomp_map 2 ((g.2.map (num nums)).map .int) (getF nums) (by rfl) (by rfl)
          · apply iter_of; apply IterS.plain
            · walk_at "s"
            · rfl
          · rw [List.length_map, hg6]; lia
          · intro x hx vs hv
            obtain ⟨k, hk, rfl⟩ := List.mem_map.1 hx
            match vs, hv with
            | [y0, y1], _ =>
              apply turn_some
              · exact b_loc ⟨by rfl, by rfl⟩
              · rfl
              · exact AllR.nil
              · walk_at "s"
                · walk_at "s"
                · walk_at "s"
                · rfl
                · exact num_get (c2.rng k hk)
                · have := c2.rng k hk; rw [show k = ((k.toNat : Nat) : Int) by lia]; exact small_nat (by lia)
              · rfl
              · rfl
          · rw [List.filterMap_map, List.map_map]
            simp only [Function.comp_def, getF, List.filterMap_eq_map']
        · exact ArgsR.nil
      · rfl
      · exact BltR.sum (by rw [List.length_map, hg6]; lia)
    · walk_at "s"
      · walk_at "s"
      · walk_at "s"
      · rfl
      · rfl
      · exact BinR.mul (small_nat (by lia))
    · rfl
    · rfl
    · exact CmpR.eq
  · rw [c2.sum]; simp [short]
  · apply ev_of; apply EvS.callG f_hold (by with_unfolding_all rfl) (by with_unfolding_all rfl)
    · apply ArgsR.cons (by rfl)
      · walk_at "s"
        · walk_at "s"
        · walk_at "s"
        · walk_at "s"
          walk_at "s"
          · walk_at "s"
            · walk_at "s"
            · walk_at "s"
            · rfl
            · rfl
            · exact BinR.mul (by decide)
          · walk_at "s"
          · rfl
          · rfl
          · exact BinR.sub
        · rfl
        · simp; lia
      · repeat walk_at "s"
    · rfl
    · rw [hsp]; exact c4
    · rfl
    · exact unpack_nil
end
end
end Mine
namespace Mine
open PySem PySem.W PyProof.Rows PySem.Spec

noncomputable def lawD : FnD := (fnOf (Str.ofString "law")).getD ⟨[], [], default⟩
theorem fn_law : fnOf (Str.ofString "law") = some lawD := by kernel_rfl
theorem law_same : lawD = dLaw := Option.some.inj (fn_law.symm.trans f_law)
theorem law_true (ns : List Int) (h : ns.length ≤ 63) : ∃ σ', (lev 400).call lawD none noV [.v (.lst (ns.map .int))] [] (.v (.bool true)) σ' := by
  rw [law_same]; exact law_ok 200 ns h

noncomputable def lawR : DefRec := ((recsOf view).find? (·.name == Str.ofString "law")).getD ⟨Str.ofString "law", ⟨[], [], none, [], [], none, []⟩, [], default, default⟩
theorem lawR_name : lawR.name = Str.ofString "law" := by kernel_rfl
theorem lawR_at : defOf view (Str.ofString "law") = some (lawR, []) := by kernel_rfl
theorem lawR_def : PySem.Challenge.rw_pg0189_01.row.prog.theDef PySem.Challenge.rw_pg0189_01.row.name = some (lawR.params, lawR.body, lawR.scope) := by kernel_rfl
theorem lawR_kw : kwWritten? lawR.params.kwonlyargs lawR.params.kw_defaults = some [] := by kernel_rfl

theorem enter_law {prog : Program} {w : World} {s₁ : Shared} {mean : ExcName → Option Value} {mg mb : Str → Option Value} {fa l : Addr} {vs : List Value} {ns : List Int} {args : List WData} {cw : ClaimW} {cl : Str → Option Addr}
    (T : Top view (looseW view []) mean mg mb s₁.heap) (t1 : TabIs s₁.heap s1 30) (t2 : TabIs s₁.heap s2 37) (hmg : mg lawR.name = some (.ref fa)) (hg : s₁.gens = #[]) (hl : s₁.heap.IsList l vs.toArray) (hI : IntsAre vs ns) (hn : ¬ (63 : Int) < (ns.length : Int))
    (hr : ∀ x, cw.raises args x = false) (hp : cw.post args (.bool true) args = true) :
    wpAny (model prog w) callerA (call (.ref fa) [.ref l]) (fun v s' => GoodWG cw cl mean args s₁ (.ok (.ret v)) s') (fun e s' => GoodWG cw cl mean args s₁ (.error e) s') s₁ := by
  obtain ⟨c1, c2, hT, ok⟩ := top_ok (prog := prog) (w := w) T t1 t2
  generalize hX : (⟨prog, w, ghostOf s₁.heap [(c1, 30), (c2, 37)], mg, mb, [tbOf s1 n1 c1 30, tbOf s2 n2 c2 37]⟩ : Cx) = X at ok
  have hb : X.base = ghostOf s₁.heap [(c1, 30), (c2, 37)] := by rw [← hX]
  have ht : ∀ t ∈ X.tabs, (t.c, t.P) ∈ [(c1, 30), (c2, 37)] := fun t h => by
    rw [← hX] at h
    rcases List.mem_cons.mp h with rfl | h
    · exact .head _
    · rcases List.mem_cons.mp h with rfl | h
      · exact .tail _ (.head _)
      · cases h
  obtain ⟨fa', em, F⟩ := ok.fn _ _ fn_law
  have : fa' = fa := by
    have em : mg (Str.ofString "law") = some (.ref fa') := by rw [← em, ← hX]
    rw [lawR_name] at hmg
    rw [em] at hmg; cases hmg; rfl
  subst this
  let B : Addr → Prop := fun a => ∃ t ∈ X.tabs, a = t.P
  have I : Inv X B [] [] s₁.heap := {
    len := rfl, nd := .nil
    ob := fun k a x b e _ => by simp at e
    nB := fun a h => by cases h
    base := fun a o e => of_hideAll _ (hb ▸ e)
    new := fun a h => by cases h
    tab := fun t h => .inl (hT _ (ht t h)).2
    tabB := fun t h => ⟨t, h, rfl⟩
    exB := fun a ⟨t, h, q⟩ => q ▸ ⟨_, (hT _ (ht t h)).2⟩ }
  have nb : ¬ Bad B [] [] l := fun q => by
    rcases q with ⟨t, h, q⟩ | ⟨k, x, e, _⟩
    · obtain ⟨o, e, hc, _⟩ := hl
      have e2 := (hT _ (ht t h)).2
      rw [show (t.c, t.P).2 = l from q.symm, e] at e2
      cases e2; cases hc
    · simp at e
  have ra : ARs X B [] [] s₁.heap [.ref l] [.v (.lst (ns.map .int))] := .cons (FR.lst hl nb (FRs.ofInts hI)) .nil
  obtain ⟨σ', run⟩ := law_true ns (by omega)
  have hm : model prog w = model X.prog X.w := by rw [← hX]
  rw [hm]
  refine (all_ok ok 400).1.call ⟨rfl, by decide, by decide⟩ I F ra run fun v h' tk M' I' K' r' => ?_
  cases r'
  have grown : ∀ t ∈ X.tabs, ∃ ps, h'.get? t.P = some (tabObj ps) := fun t h => by
    rcases I'.tab t h with e | ⟨c', e, _⟩ <;> exact ⟨_, e⟩
  have each : ∀ q ∈ [(c1, 30), (c2, 37)], ∃ t ∈ X.tabs, t.P = q.2 := fun q hq => by
    rw [← hX]
    rcases List.mem_cons.mp hq with rfl | hq
    · exact ⟨_, .head _, rfl⟩
    · rcases List.mem_cons.mp hq with rfl | hq
      · exact ⟨_, .tail _ (.head _), rfl⟩
      · cases hq
  have keep : ∀ b o, b ∉ [(c1, 30), (c2, 37)].map (·.2) → s₁.heap.get? b = some o → h'.get? b = some o := fun b o hn e => I'.base b o (hb ▸ ghost_ne e hn)
  refine ⟨.inl ⟨_, .bool true, [], rfl, hr, .bool true, hp, fun _ => ⟨.nil, fun a h => by cases h⟩⟩, ⟨fun b o e => ?_, fun b o e => ?_⟩, rfl, .of_eq hg⟩
  · by_cases hn : b ∈ [(c1, 30), (c2, 37)].map (·.2)
    · obtain ⟨q, hq, rfl⟩ := List.mem_map.mp hn
      obtain ⟨t, h, hP⟩ := each q hq
      obtain ⟨ps, e'⟩ := grown t h
      have e2 := (hT q hq).2
      rw [e] at e2; cases e2
      exact .inr (.inl ⟨((hT q hq).1.tab (hT q hq).2).isCodeTable, rfl, #[], ps, rfl, by rw [Array.empty_append, ← hP]; exact e'⟩)
    · exact .inl (keep b o hn e)
  · by_cases hn : b ∈ [(c1, 30), (c2, 37)].map (·.2)
    · obtain ⟨q, hq, rfl⟩ := List.mem_map.mp hn
      obtain ⟨t, h, hP⟩ := each q hq
      obtain ⟨ps, e'⟩ := grown t h
      exact ⟨_, hP ▸ e'⟩
    · exact ⟨o, keep b o hn e⟩
end Mine

set_option maxHeartbeats 8000000 in
theorem PySem.Challenge.cw_pg0189_01_holds : PySem.Challenge.rw_pg0189_01.Holds := by
  open PySem PySem.W PyProof.Rows PySem.Spec Mine in
  w_on
  refine PySem.W.holds_law Mine.said_ok fun said => ?_
  refine PySem.W.holds_open (q := Mine.view) (loose := []) (Xt := fun s => PySem.W.xlAt Mine.view [] s && PySem.W.recOk [] s) (XP := PySem.W.XL Mine.view []) (Yf := Mine.theHook.obs) (Ya := Mine.theHook.val) (YP := Mine.theHook.says) (N := 1304)
    Mine.left_ok Mine.theHook.of Mine.theHook.keeps (fun s e => PySem.W.xl_of s (Bool.and_eq_true_iff.mp e).1) PySem.W.XL.keeps (d := Mine.lawR) (kwd := []) Mine.lawR_at Mine.lawR_def Mine.lawR_kw (fun s e => PySem.W.recFacts_of (Bool.and_eq_true_iff.mp e).2) rfl said (by decide +kernel) ⟨rfl, rfl, rfl, rfl, rfl, by decide +kernel⟩ ?hw ?hc
  case hw => w_witness2
  intro w s₀ s₁ mg mb G Y fa o pm cd doc dV kV ho hd hcd hD hmg hg args vals as hpre hlay hrd hwl hlo
  wrow_args hpre hlay hrd hwl hlo
  exact Mine.enter_law G.T Y.1 Y.2 hmg hg (by assumption) (by assumption) (by assumption) (fun _ => rfl) (by wrow_post)

