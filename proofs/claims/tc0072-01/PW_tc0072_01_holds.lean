import PyProof.Rows.All
import Wide.All
import OpenK.AllK
import Wide.FinOn
import PySem.Challenge.RW_tc0072_01
set_option Elab.async false
set_option linter.unusedVariables false
set_option genSizeOf false
set_option genInjectivity false
section
namespace Mine
open PySem

theorem bindE {α β : Type} {o : Option α} {f : α → Option β} {b : β} {P : Prop} (h : o.bind f = some b) (k : ∀ a, o = some a → f a = some b → P) : P := by
  cases o with
  | none => cases h
  | some a => exact k a rfl h
theorem ifE {α : Type} {c : Prop} [Decidable c] {x : Option α} {b : α} {P : Prop} (h : (if c then x else none) = some b) (k : c → x = some b → P) : P := by
  by_cases hc : c
  · rw [if_pos hc] at h; exact k hc h
  · rw [if_neg hc] at h; cases h

/-! ### the executor: values -/
inductive V where
  | nil | bool (b : Bool) | int (i : Int) | str (s : Str)
  | typ (n : String) | fn (n : Str) | blt (n : String)
  | rng (a b c : Int)
  | lst (xs : List V) | own (xs : List V) | tup (xs : List V)
  | dct (kvs : List (Str × Str))
  deriving Inhabited

noncomputable abbrev Sg := Str → Option V
noncomputable def upd (σ : Sg) (x : Str) (v : V) : Sg := fun y => if y = x then some v else σ y

noncomputable def V.flat : V → Bool
  | .nil | .bool _ | .int _ | .str _ | .typ _ | .fn _ | .blt _ => true
  | _ => false
noncomputable def V.isOwn : V → Bool
  | .own _ => true
  | _ => false
noncomputable def V.lend : V → V
  | .own xs => .lst xs
  | v => v
noncomputable def rngLen (a b c : Int) : Nat := (Builtin.Range.rangeSize a b c).toNat
noncomputable def rngList (a b c : Int) : List V := (List.range (rngLen a b c)).map fun (k : Nat) => V.int (a + k * c)
noncomputable def V.items : V → Option (List V)
  | .lst xs => some xs
  | .own xs => some xs
  | .rng a b c => some (rngList a b c)
  | _ => none

theorem len0 {α : Type} {l : List α} (h : 0 = l.length) : l = [] := by cases l with
  | nil => rfl
  | cons => exact absurd h (Nat.ne_of_lt (Nat.succ_pos _))
theorem len_s {α : Type} {l : List α} {n : Nat} (h : n + 1 = l.length) : ∃ v r, l = v :: r ∧ n = r.length := by cases l with
  | nil => exact absurd h (Nat.succ_ne_zero _)
  | cons v r => exact ⟨v, r, rfl, Nat.succ.inj h⟩
theorem ifN {α : Type} {c : Prop} [Decidable c] {x : Option α} {b : α} {P : Prop} (h : (if c then none else x) = some b) (k : ¬ c → x = some b → P) : P := by
  by_cases hc : c
  · rw [if_pos hc] at h; cases h
  · rw [if_neg hc] at h; exact k hc h
noncomputable def big : Nat := 4096
noncomputable def truth : V → Option Bool
  | .nil => some false
  | .bool b => some b
  | .int i => some (i != 0)
  | .str s => if s.length ≤ big then some (s.length != 0) else none
  | _ => none
noncomputable def smallI (i : Int) : Bool := decide (i.natAbs < 2 ^ 62)

set_option genCtorIdx false in
set_option genSizeOf false in
set_option genInjectivity false in
inductive BV : Operator → V → V → Type
  | addI (a b : Int) : BV .Add (.int a) (.int b)
  | addS (a b : Str) : BV .Add (.str a) (.str b)
  | addL (a b : List V) : BV .Add (.lst a) (.lst b)
  | subI (a b : Int) : BV .Sub (.int a) (.int b)
  | mulI (a b : Int) : BV .Mult (.int a) (.int b)
  | mulB (a : Int) (b : Bool) : BV .Mult (.int a) (.bool b)
  | fdivI (a b : Int) : BV .FloorDiv (.int a) (.int b)
  | modI (a b : Int) : BV .Mod (.int a) (.int b)
  | powI (a b : Int) : BV .Pow (.int a) (.int b)
  | xorI (a b : Int) : BV .BitXor (.int a) (.int b)
  | andI (a b : Int) : BV .BitAnd (.int a) (.int b)
  | shrI (a b : Int) : BV .RShift (.int a) (.int b)
  | andB (a b : Bool) : BV .BitAnd (.bool a) (.bool b)
  | orB (a b : Bool) : BV .BitOr (.bool a) (.bool b)
  | xorB (a b : Bool) : BV .BitXor (.bool a) (.bool b)
  | no (op : Operator) (a b : V) : BV op a b
noncomputable def binV : (op : Operator) → (a b : V) → BV op a b
  | .Add, .int a, .int b => .addI a b
  | .Add, .str a, .str b => .addS a b
  | .Add, .lst a, .lst b => .addL a b
  | .Sub, .int a, .int b => .subI a b
  | .Mult, .int a, .int b => .mulI a b
  | .Mult, .int a, .bool b => .mulB a b
  | .FloorDiv, .int a, .int b => .fdivI a b
  | .Mod, .int a, .int b => .modI a b
  | .Pow, .int a, .int b => .powI a b
  | .BitXor, .int a, .int b => .xorI a b
  | .BitAnd, .int a, .int b => .andI a b
  | .RShift, .int a, .int b => .shrI a b
  | .BitAnd, .bool a, .bool b => .andB a b
  | .BitOr, .bool a, .bool b => .orB a b
  | .BitXor, .bool a, .bool b => .xorB a b
  | op, a, b => .no op a b
noncomputable def BV.val {op : Operator} {a b : V} (w : BV op a b) : Option V :=
  BV.casesOn (motive := fun _ _ _ _ => Option V) w
    (fun a b => some (.int (a + b)))
    (fun a b => if a.length + b.length ≤ big then some (.str (a ++ b)) else none)
    (fun a b => if a.length + b.length ≤ big then some (.lst (a ++ b)) else none)
    (fun a b => some (.int (a - b)))
    (fun a b => if smallI a && smallI b then some (.int (a * b)) else none)
    (fun a b => if smallI a then some (.int (a * (if b then 1 else 0))) else none)
    (fun a b => if decide (b ≠ 0) && smallI b then some (.int (a.fdiv b)) else none)
    (fun a b => if b ≠ 0 then some (.int (a.fmod b)) else none)
    (fun a b => if 0 ≤ b ∧ b ≤ 1000000 ∧ a.natAbs < 2 ^ 64 then some (.int (a ^ b.toNat)) else none)
    (fun a b => some (.int (Builtin.bitXor a b)))
    (fun a b => some (.int (Builtin.bitAnd a b)))
    (fun a b => if 0 ≤ b then some (.int (a.fdiv (2 ^ b.toNat))) else none)
    (fun a b => some (.bool (a && b)))
    (fun a b => some (.bool (a || b)))
    (fun a b => some (.bool (a != b)))
    (fun _ _ _ => none)
noncomputable def bin (op : Operator) (a b : V) : Option V := (binV op a b).val

noncomputable def intL : List V → Option (List Int)
  | [] => some []
  | .int i :: r => (intL r).map (i :: ·)
  | _ => none
noncomputable def boolL : List V → Option (List Bool)
  | [] => some []
  | .bool b :: r => (boolL r).map (b :: ·)
  | _ => none
noncomputable def strL : List V → Option (List Str)
  | [] => some []
  | .str b :: r => (strL r).map (b :: ·)
  | _ => none
noncomputable def V.elems : V → Option (List V)
  | .lst xs => some xs
  | .own xs => some xs
  | _ => none
/-- two lists that hold numbers alone, or bools alone -/
noncomputable def eqL (a b : List V) : Option Bool :=
  match intL a, intL b with
  | some x, some y => some (x == y)
  | _, _ => match boolL a, boolL b with
    | some x, some y => some (x == y)
    | _, _ => none
noncomputable def b2i (b : Bool) : Int := if b then 1 else 0
set_option genCtorIdx false in
set_option genSizeOf false in
set_option genInjectivity false in
inductive CV : CmpOp → V → V → Type
  | eqI (a : Int) (b : Int) : CV .Eq (.int a) (.int b)
  | neI (a : Int) (b : Int) : CV .NotEq (.int a) (.int b)
  | ltI (a : Int) (b : Int) : CV .Lt (.int a) (.int b)
  | leI (a : Int) (b : Int) : CV .LtE (.int a) (.int b)
  | gtI (a : Int) (b : Int) : CV .Gt (.int a) (.int b)
  | geI (a : Int) (b : Int) : CV .GtE (.int a) (.int b)
  | eqS (a : Str) (b : Str) : CV .Eq (.str a) (.str b)
  | neS (a : Str) (b : Str) : CV .NotEq (.str a) (.str b)
  | eqB (a : Bool) (b : Bool) : CV .Eq (.bool a) (.bool b)
  | neB (a : Bool) (b : Bool) : CV .NotEq (.bool a) (.bool b)
  | ltB (a : Bool) (b : Bool) : CV .Lt (.bool a) (.bool b)
  | leB (a : Bool) (b : Bool) : CV .LtE (.bool a) (.bool b)
  | gtB (a : Bool) (b : Bool) : CV .Gt (.bool a) (.bool b)
  | geB (a : Bool) (b : Bool) : CV .GtE (.bool a) (.bool b)
  | isT (a : String) (b : String) : CV .Is (.typ a) (.typ b)
  | isnT (a : String) (b : String) : CV .IsNot (.typ a) (.typ b)
  | isnS (a : Str) : CV .IsNot (.str a) .nil
  | isnN : CV .IsNot .nil .nil
  | inS (a : Str) (b : Str) : CV .In (.str a) (.str b)
  | ninS (a : Str) (b : Str) : CV .NotIn (.str a) (.str b)
  | inD (a : Str) (b : List (Str × Str)) : CV .In (.str a) (.dct b)
  | inI (a : Int) (b : V) : CV .In (.int a) b
  | inB (a : Bool) (b : V) : CV .In (.bool a) b
  | eqE (a : V) (b : V) : CV .Eq a b
  | neE (a : V) (b : V) : CV .NotEq a b
  | no (op : CmpOp) (a b : V) : CV op a b
noncomputable def cmpV : (op : CmpOp) → (a b : V) → CV op a b
  | .Eq, .int a, .int b => .eqI a b
  | .NotEq, .int a, .int b => .neI a b
  | .Lt, .int a, .int b => .ltI a b
  | .LtE, .int a, .int b => .leI a b
  | .Gt, .int a, .int b => .gtI a b
  | .GtE, .int a, .int b => .geI a b
  | .Eq, .str a, .str b => .eqS a b
  | .NotEq, .str a, .str b => .neS a b
  | .Eq, .bool a, .bool b => .eqB a b
  | .NotEq, .bool a, .bool b => .neB a b
  | .Lt, .bool a, .bool b => .ltB a b
  | .LtE, .bool a, .bool b => .leB a b
  | .Gt, .bool a, .bool b => .gtB a b
  | .GtE, .bool a, .bool b => .geB a b
  | .Is, .typ a, .typ b => .isT a b
  | .IsNot, .typ a, .typ b => .isnT a b
  | .IsNot, .str a, .nil => .isnS a
  | .IsNot, .nil, .nil => .isnN
  | .In, .str a, .str b => .inS a b
  | .NotIn, .str a, .str b => .ninS a b
  | .In, .str a, .dct b => .inD a b
  | .In, .int a, b => .inI a b
  | .In, .bool a, b => .inB a b
  | .Eq, a, b => .eqE a b
  | .NotEq, a, b => .neE a b
  | op, a, b => .no op a b
noncomputable def CV.val {op : CmpOp} {a b : V} (w : CV op a b) : Option V :=
  CV.casesOn (motive := fun _ _ _ _ => Option V) w
    (fun a b => some (.bool (a == b)))
    (fun a b => some (.bool (a != b)))
    (fun a b => some (.bool (decide (a < b))))
    (fun a b => some (.bool (decide (a ≤ b))))
    (fun a b => some (.bool (decide (b < a))))
    (fun a b => some (.bool (decide (b ≤ a))))
    (fun a b => some (.bool (a == b)))
    (fun a b => some (.bool (a != b)))
    (fun a b => some (.bool (a == b)))
    (fun a b => some (.bool (a != b)))
    (fun a b => some (.bool (decide (b2i a < b2i b))))
    (fun a b => some (.bool (decide (b2i a ≤ b2i b))))
    (fun a b => some (.bool (decide (b2i b < b2i a))))
    (fun a b => some (.bool (decide (b2i b ≤ b2i a))))
    (fun a b => some (.bool (a == b)))
    (fun a b => some (.bool (a != b)))
    (fun a => some (.bool true))
    (some (.bool false))
    (fun a b => some (.bool (Txt.contains b a)))
    (fun a b => some (.bool (!Txt.contains b a)))
    (fun a b => some (.bool ((b.lookup a).isSome)))
    (fun a b => b.elems.bind fun xs => (intL xs).map fun l => .bool (l.contains a))
    (fun a b => b.elems.bind fun xs => (boolL xs).map fun l => .bool (l.contains a))
    (fun a b => a.elems.bind fun xs => b.elems.bind fun ys => (eqL xs ys).map .bool)
    (fun a b => a.elems.bind fun xs => b.elems.bind fun ys => (eqL xs ys).map fun c => .bool (!c))
    (fun _ _ _ => none)
noncomputable def cmp (op : CmpOp) (a b : V) : Option V := (cmpV op a b).val

noncomputable def un : UnaryOp → V → Option V
  | .USub, .int a => some (.int (-a))
  | .Not, v => (truth v).map fun b => .bool (!b)
  | _, _ => none

noncomputable def item : V → V → Option V
  | .str x, .int k => if smallI k then (Txt.charAt x k).map fun c => .str ⟨#[c]⟩ else none
  | .lst xs, .int k => if decide (0 ≤ k) && smallI k then xs[k.toNat]? else none
  | .own xs, .int k => if decide (0 ≤ k) && smallI k then xs[k.toNat]? else none
  | .tup xs, .int k => if decide (0 ≤ k) && smallI k then xs[k.toNat]? else none
  | .dct kvs, .str a => (kvs.lookup a).map .str
  | _, _ => none
noncomputable def bound : V → Option (Option Int)
  | .nil => some none
  | .int k => some (some k)
  | _ => none
noncomputable def cut (x lo hi : V) : Option V :=
  match x with
  | .str x => (bound lo).bind fun l => (bound hi).bind fun h => if x.length ≤ big then some (.str (Txt.slice x l h)) else none
  | _ => none

noncomputable def typeName : V → Option String
  | .bool _ => some "bool"
  | .int _ => some "int"
  | .str _ => some "str"
  | _ => none

set_option genCtorIdx false in
set_option genSizeOf false in
set_option genInjectivity false in
inductive LV : List V → Type
  | cS (x : Str) : LV [.str x]
  | cL (x : List V) : LV [.lst x]
  | cO (x : List V) : LV [.own x]
  | cII (a b : Int) : LV [.int a, .int b]
  | cI (a : Int) : LV [.int a]
  | cIII (a b c : Int) : LV [.int a, .int b, .int c]
  | cR (a b c : Int) : LV [.rng a b c]
  | cB (x : Bool) : LV [.bool x]
  | no (as : List V) : LV as
noncomputable def viewL : (as : List V) → LV as
  | [.str x] => .cS x
  | [.lst x] => .cL x
  | [.own x] => .cO x
  | [.int a, .int b] => .cII a b
  | [.int a] => .cI a
  | [.int a, .int b, .int c] => .cIII a b c
  | [.rng a b c] => .cR a b c
  | [.bool x] => .cB x
  | as => .no as
noncomputable def LV.blt (n : String) {as : List V} : LV as → Option V
  | .cS x =>
    if n = "len" then (if x.length ≤ big then some (.int x.length) else none)
    else if n = "ord" then (match x.cps.toList with
      | [c] => some (.int c)
      | _ => none) else none
  | .cL x => if n = "len" then (if x.length ≤ big then some (.int x.length) else none)
    else if n = "sum" then (intL x).map fun l => .int l.sum
    else none
  | .cO x => if n = "len" then (if x.length ≤ big then some (.int x.length) else none) else none
  | .cII a b => if n = "min" then some (.int (if b < a then b else a)) else if n = "max" then some (.int (if b > a then b else a)) else none
  | .cI i => if n = "chr" then (if 0 ≤ i ∧ i ≤ 1114111 then some (.str ⟨#[i.toNat]⟩) else none) else none
  | _ => none
noncomputable def blt (n : String) (as : List V) : Option V := (viewL as).blt n
noncomputable def smallR (a b c : Int) : Bool := decide (a.natAbs ≤ 2 ^ 30) && decide (b.natAbs ≤ 2 ^ 30) && decide (c.natAbs ≤ 2 ^ 30) && c != 0
noncomputable def LV.mkT (n : String) {as : List V} : LV as → Option V
  | .cI b => if n = "range" then (if smallR 0 b 1 then some (.rng 0 b 1) else none) else if n = "type" then some (.typ "int") else none
  | .cII a b => if n = "range" then (if smallR a b 1 then some (.rng a b 1) else none) else none
  | .cIII a b c => if n = "range" then (if smallR a b c then some (.rng a b c) else none) else none
  | .cR a b c => if n = "list" then (if rngLen a b c ≤ big then some (.lst (rngList a b c)) else none) else none
  | .cB _ => if n = "type" then some (.typ "bool") else none
  | .cS _ => if n = "type" then some (.typ "str") else none
  | _ => none
noncomputable def mkT (n : String) (as : List V) : Option V := (viewL as).mkT n
noncomputable def meth (m : Str) : V → List V → Option V
  | .str x, [] => if m = "lower" then (if (Txt.lower x).length ≤ big then some (.str (Txt.lower x)) else none) else none
  | .str x, [.lst xs] => if m = "join" then ((strL xs).bind fun l => if (l.map (·.length + x.length)).sum ≤ big then some (.str (Txt.join x l)) else none) else none
  | _, _ => none

/-! ### the executor: a scope, the calls -/
structure Cx where
  /-- the kind that a name has here -/
  K : Str → Option NameKind
  /-- the names whose lists the text turns -/
  O : Str → Bool
  /-- the globals -/
  G : Str → Option V
  /-- calls of the text's defs -/
  C : Str → List V → Option V

inductive Fl where
  | next | ret (v : V)
  deriving Inhabited

noncomputable def flatRes : V → Bool
  | .own xs => xs.all V.flat
  | v => v.flat
noncomputable def guardOwn (as : List V) (r : Option V) : Option V := r.bind fun v => if flatRes v || as.all (fun a => !a.isOwn) then some v.lend else none
noncomputable def app (X : Cx) : V → List V → Option V
  | .fn n, as => guardOwn as (X.C n as)
  | .blt n, as => blt n as
  | .typ n, as => mkT n as
  | _, _ => none

noncomputable def relK (K : Str → Option NameKind) (names : List (Str × NameKind)) : List (Str × NameKind) :=
  names.map fun (n, k) => if (k == .free && K n == some .cell) then (n, .cell) else (n, k)
/-- the scope of a comprehension, as it is called -/
noncomputable def compOk (X : Cx) (x : Str) (sc : Scope) : Bool :=
  sc.kind == .function && sc.names.all (fun p => p.2 != .cell && (p.2 != .free || X.K p.1 == some .cell) && (p.2 != .local || sc.names.lookup p.1 == some .local)) && sc.names.lookup x == some .local
noncomputable def compCx (X : Cx) (sc : Scope) : Cx := { X with K := fun y => (relK X.K sc.names).lookup y, O := fun _ => false }
noncomputable def compSg (σ : Sg) (x : Str) (sc : Scope) (v : V) : Sg := fun y => if y = x then some v else if sc.names.lookup y = some .free then σ y else none

noncomputable def noOwn (vs : List V) : Bool := vs.all fun v => !v.isOwn
noncomputable def plainName (x : Str) : Bool := !(x == ("__debug__" : Str))

/-- plain values, told by themselves -/
noncomputable def V.scalar : V → Bool
  | .int _ | .bool _ | .str _ => true
  | _ => false
noncomputable def compL (test : V → Option Bool) (elt : V → Option V) : List V → Option (List V)
  | [] => some []
  | a :: r => if a.scalar then (test a).bind fun t => if t then (elt a).bind fun b => if b.flat then (compL test elt r).map (b :: ·) else none else compL test elt r else none
noncomputable def plainSub : Expr → Bool
  | .Slice _ _ none _ => false
  | _ => true
noncomputable def plainT : Expr → Bool
  | .UnaryOp .Not _ _ => false
  | .BoolOp _ _ _ => false
  | .IfExp _ _ _ _ => false
  | .Compare _ _ _ _ => false
  | _ => true
set_option genCtorIdx false in
set_option genSizeOf false in
set_option genInjectivity false in
inductive TV : Expr → Type
  | neg (x : Expr) (p : Pos) : TV (.UnaryOp .Not x p)
  | all (vs : List Expr) (p : Pos) : TV (.BoolOp .And vs p)
  | any (vs : List Expr) (p : Pos) : TV (.BoolOp .Or vs p)
  | cmp (l : Expr) (op : CmpOp) (r : Expr) (p : Pos) : TV (.Compare l [op] [r] p)
  | val (e : Expr) (h : plainT e = true) : TV e
  | no (e : Expr) : TV e
noncomputable def viewT : (e : Expr) → TV e
  | .UnaryOp .Not x p => .neg x p
  | .BoolOp .And vs p => .all vs p
  | .BoolOp .Or vs p => .any vs p
  | .Compare l [op] [r] p => .cmp l op r p
  | e => if h : plainT e = true then .val e h else .no e
set_option genCtorIdx false in
set_option genSizeOf false in
set_option genInjectivity false in
inductive EV : Expr → Type
  | const (c : Const) (k : Nat) (p : Pos) : EV (.Constant c k p)
  | name (x : Str) (p : Pos) : EV (.Name x p)
  | bin (l : Expr) (op : Operator) (r : Expr) (p : Pos) : EV (.BinOp l op r p)
  | un (op : UnaryOp) (x : Expr) (p : Pos) : EV (.UnaryOp op x p)
  | bool (op : BoolOp) (x y : Expr) (p : Pos) : EV (.BoolOp op [x, y] p)
  | ife (t b o : Expr) (p : Pos) : EV (.IfExp t b o p)
  | cmp (l : Expr) (op : CmpOp) (r : Expr) (p : Pos) : EV (.Compare l [op] [r] p)
  | call (f : Str) (np : Pos) (args : List Expr) (p : Pos) : EV (.Call (.Name f np) args [] p)
  | repl (o : Expr) (m : Str) (ap : Pos) (a : Str) (k1 : Nat) (p1 : Pos) (b : Str) (k2 : Nat) (p2 : Pos) (p : Pos) : EV (.Call (.Attribute o m ap) [.Constant (.str a) k1 p1, .Constant (.str b) k2 p2] [] p)
  | meth (o : Expr) (m : Str) (ap : Pos) (args : List Expr) (p : Pos) : EV (.Call (.Attribute o m ap) args [] p)
  | cut (v : Expr) (lo hi : Option Expr) (q p : Pos) : EV (.Subscript v (.Slice lo hi none q) p)
  | sub (v i : Expr) (p : Pos) (h : plainSub i = true) : EV (.Subscript v i p)
  | list (es : List Expr) (p : Pos) : EV (.List es p)
  | tuple (es : List Expr) (k : Nat) (p : Pos) : EV (.Tuple es k p)
  | dict (ks : List (Option Expr)) (vs : List Expr) (p : Pos) : EV (.Dict ks vs p)
  | comp (elt : Expr) (x : Str) (px : Pos) (iter : Expr) (ifs : List Expr) (sc : Scope) (p : Pos) : EV (.ListComp elt [⟨.Name x px, iter, ifs, 0⟩] sc p)
  | no (e : Expr) : EV e
noncomputable def view : (e : Expr) → EV e
  | .Constant c k p => .const c k p
  | .Name x p => .name x p
  | .BinOp l op r p => .bin l op r p
  | .UnaryOp op x p => .un op x p
  | .BoolOp op [x, y] p => .bool op x y p
  | .IfExp t b o p => .ife t b o p
  | .Compare l [op] [r] p => .cmp l op r p
  | .Call (.Name f np) args [] p => .call f np args p
  | .Call (.Attribute o m ap) [.Constant (.str a) k1 p1, .Constant (.str b) k2 p2] [] p => .repl o m ap a k1 p1 b k2 p2 p
  | .Call (.Attribute o m ap) args [] p => .meth o m ap args p
  | .Subscript v (.Slice lo hi none q) p => .cut v lo hi q p
  | .Subscript v i p => if h : plainSub i = true then .sub v i p h else .no _
  | .List es p => .list es p
  | .Tuple es k p => .tuple es k p
  | .Dict ks vs p => .dict ks vs p
  | .ListComp elt [⟨.Name x px, iter, ifs, 0⟩] sc p => .comp elt x px iter ifs sc p
  | e => .no e
/-- what a method may be asked of here -/
noncomputable def EV.base {e : Expr} : EV e → Bool
  | .name _ _ => true
  | .const _ _ _ => true
  | _ => false
noncomputable def baseOk (e : Expr) : Bool := (view e).base
noncomputable def Const.str? : Const → Option Str
  | .str s => some s
  | _ => none
noncomputable def Const.int? : Const → Option Int
  | .int s => some s
  | _ => none
noncomputable def EV.con {e : Expr} : EV e → Option Const
  | .const c _ _ => some c
  | _ => none
noncomputable def strOf (e : Expr) : Option Str := (view e).con.bind Const.str?
noncomputable def intOf (e : Expr) : Option Int := (view e).con.bind Const.int?
theorem con_is {e : Expr} {c : Const} (h : (view e).con = some c) : ∃ k p, e = .Constant c k p := by
  generalize view e = w at h
  induction w <;> first | (obtain rfl := Option.some.inj h; exact ⟨_, _, rfl⟩) | exact nomatch h
theorem str_is {c : Const} {s : Str} (h : Const.str? c = some s) : c = .str s := by
  unfold Const.str? at h
  split at h
  · rw [Option.some.inj h]
  · exact nomatch h
theorem int_is {c : Const} {s : Int} (h : Const.int? c = some s) : c = .int s := by
  unfold Const.int? at h
  split at h
  · rw [Option.some.inj h]
  · exact nomatch h
theorem strOf_is {e : Expr} {s : Str} (h : strOf e = some s) : ∃ k p, e = .Constant (.str s) k p := by
  refine bindE h fun c h1 h2 => ?_
  rw [← str_is h2]
  exact con_is h1
theorem intOf_is {e : Expr} {s : Int} (h : intOf e = some s) : ∃ k p, e = .Constant (.int s) k p := by
  refine bindE h fun c h1 h2 => ?_
  rw [← int_is h2]
  exact con_is h1
/-- a written table of texts -/
noncomputable def dictC : List (Option Expr) → List Expr → Option (List (Str × Str))
  | [], [] => some []
  | some k :: ks, v :: vs => (strOf k).bind fun a => (strOf v).bind fun b => (dictC ks vs).map ((a, b) :: ·)
  | _, _ => none
mutual
noncomputable def ev (X : Cx) : Nat → Expr → Sg → Option V
  | 0, _, _ => none
  | n + 1, e, σ => match e, view e with
    | _, .const c _ _ => (match c with
        | .none => some .nil
        | .bool b => some (.bool b)
        | .int i => some (.int i)
        | .str s => some (.str s)
        | _ => none)
    | _, .name x _ => if plainName x then (if X.K x = some .globalImplicit then X.G x else σ x) else none
    | _, .bin l op r _ => (ev X n l σ).bind fun a => (ev X n r σ).bind fun b => bin op a b
    | _, .un op x _ => (ev X n x σ).bind fun a => un op a
    | _, .bool op x y _ => (ev X n x σ).bind fun a => (truth a).bind fun t => (match op, t with
        | .And, true => ev X n y σ
        | .Or, false => ev X n y σ
        | _, _ => some a)
    | _, .ife t b o _ => (tst X n t σ).bind fun c => if c then ev X n b σ else ev X n o σ
    | _, .cmp l op r _ => if behindInMarks op r then none else (ev X n l σ).bind fun a => (ev X n r σ).bind fun b => cmp op a b
    | _, .call f _ args _ => if plainName f && !args.isEmpty then (if X.K f = some .globalImplicit then X.G f else σ f).bind fun fv => (evs X n args σ).bind fun as => app X fv as else none
    | _, .repl o m ap a _ _ b _ _ p => if (ap.endLine == p.line && baseOk o) && (decide (m = "replace") && !(a == b)) then (ev X n o σ).bind fun ov => (match ov with
        | .str x => if x.length ≤ 64 ∧ b.length ≤ 16 then some (.str (Txt.replace x a b)) else none
        | _ => none) else none
    | _, .meth o m ap args p => if (ap.endLine == p.line && baseOk o) && decide (args.length ≤ 1) then (ev X n o σ).bind fun ov => (evs X n args σ).bind fun as => meth m ov as else none
    | _, .cut v lo hi _ _ => (ev X n v σ).bind fun a => (evo X n lo σ).bind fun l => (evo X n hi σ).bind fun h => cut a l h
    | _, .sub v i _ _ => (ev X n v σ).bind fun a => (ev X n i σ).bind fun k => item a k
    | _, .list es _ => (evs X n es σ).bind fun vs => if noOwn vs && vs.length ≤ big then some (.lst vs) else none
    | _, .tuple es _ _ => (evs X n es σ).bind fun vs => if noOwn vs && vs.length ≤ big then some (.tup vs) else none
    | _, .dict ks vs _ => (dictC ks vs).bind fun kv => if kv ≠ [] ∧ kv.length ≤ 15 ∧ (kv.map (·.1)).Nodup then some (.dct kv) else none
    | _, .comp elt x _ iter ifs sc _ =>
        if compOk X x sc && ifs.length ≤ 1 then
          (ev X n iter σ).bind fun it => it.items.bind fun xs => if xs.length ≤ big then
            (compL (fun v => tsts (compCx X sc) n ifs (compSg σ x sc v)) (fun v => ev (compCx X sc) n elt (compSg σ x sc v)) xs).map .lst else none
        else none
    | _, .no _ => none
noncomputable def evo (X : Cx) : Nat → Option Expr → Sg → Option V
  | 0, _, _ => none
  | n + 1, e, σ => match e with
    | none => some .nil
    | some e => ev X n e σ
noncomputable def evs (X : Cx) : Nat → List Expr → Sg → Option (List V)
  | 0, _, _ => none
  | n + 1, es, σ => match es with
    | [] => some []
    | .Starred _ _ :: _ => none
    | e :: r => (ev X n e σ).bind fun a => (evs X n r σ).map (a :: ·)
noncomputable def tst (X : Cx) : Nat → Expr → Sg → Option Bool
  | 0, _, _ => none
  | n + 1, e, σ => match e, viewT e with
    | _, .neg x _ => (tst X n x σ).map (!·)
    | _, .all vs _ => tsts X n vs σ
    | _, .any vs _ => tstO X n vs σ
    | _, .cmp l op r p => (ev X n (.Compare l [op] [r] p) σ).bind truth
    | _, .val e _ => (ev X n e σ).bind truth
    | _, .no _ => none
noncomputable def tsts (X : Cx) : Nat → List Expr → Sg → Option Bool
  | 0, _, _ => none
  | n + 1, es, σ => match es with
    | [] => some true
    | e :: r => (tst X n e σ).bind fun t => if t then tsts X n r σ else some false
noncomputable def tstO (X : Cx) : Nat → List Expr → Sg → Option Bool
  | 0, _, _ => none
  | n + 1, es, σ => match es with
    | [] => some false
    | e :: r => (tst X n e σ).bind fun t => if t then some true else tstO X n r σ
end

/-- a name that is stored -/
noncomputable def put (X : Cx) (x : Str) (v : V) (σ : Sg) : Option Sg :=
  if (X.K x = some .local ∨ X.K x = some .cell) ∧ v.isOwn = false ∧ X.O x = false then some (upd σ x v) else none
noncomputable def names : List Expr → Option (List Str)
  | [] => some []
  | .Name x _ :: r => (names r).map (x :: ·)
  | _ => none
noncomputable def puts (X : Cx) : List Str → List V → Sg → Option Sg
  | [], [], σ => some σ
  | x :: xs, v :: vs, σ => (put X x v σ).bind fun σ' => puts X xs vs σ'
  | _, _, _ => none
noncomputable def V.tup? : V → Option (List V)
  | .tup vs => some vs
  | _ => none
theorem tup_is {v : V} {vs : List V} (h : v.tup? = some vs) : v = .tup vs := by cases v <;> first | (cases h; rfl) | cases h
noncomputable def EV.bindT (X : Cx) (v : V) (σ : Sg) {t : Expr} : EV t → Option Sg
  | .name x _ => put X x v σ
  | .tuple es _ _ => v.tup?.bind fun vs => (names es).bind fun xs => if xs.length = vs.length then puts X xs vs σ else none
  | _ => none
noncomputable def bindT (X : Cx) (t : Expr) (v : V) (σ : Sg) : Option Sg := (view t).bindT X v σ
noncomputable def isTyp : Option V → String → Bool
  | some (.typ n), m => n == m
  | _, _ => false
/-- an expression that makes a list anew -/
noncomputable def EV.makes (X : Cx) {e : Expr} : EV e → Bool
  | .list _ _ => true
  | .call f _ _ _ => X.K f == some .globalImplicit && isTyp (X.G f) "list"
  | _ => false
noncomputable def makes (X : Cx) (e : Expr) : Bool := (view e).makes X
noncomputable def putOwn (X : Cx) (x : Str) (v : V) (σ : Sg) : Option Sg := match v with
  | .lst xs => if (X.K x = some .local ∨ X.K x = some .cell) ∧ X.O x = true then some (upd σ x (.own xs)) else none
  | _ => none
noncomputable def putsOwn (X : Cx) : List Str → List V → Sg → Option Sg
  | [], [], σ => some σ
  | x :: xs, v :: vs, σ => (putOwn X x v σ).bind fun σ' => putsOwn X xs vs σ'
  | _, _, _ => none
noncomputable def ownOf (X : Cx) (σ : Sg) (x : Str) : Option (List V) :=
  if plainName x = true ∧ (X.K x = some .local ∨ X.K x = some .cell) ∧ X.O x = true then (match σ x with
    | some (.own xs) => some xs
    | _ => none) else none

noncomputable def forL (step : V → Sg → Option (Fl × Sg)) : List V → Sg → Option (Fl × Sg)
  | [], σ => some (.next, σ)
  | v :: r, σ => (step v σ).bind fun p => match p with
    | (.next, σ') => forL step r σ'
    | (.ret u, σ') => some (.ret u, σ')
noncomputable def whileL (test : Sg → Option Bool) (step : Sg → Option (Fl × Sg)) : Nat → Sg → Option (Fl × Sg)
  | 0, _ => none
  | k + 1, σ => (test σ).bind fun t => if t then (step σ).bind fun p => (match p with
      | (.next, σ') => whileL test step k σ'
      | (.ret u, σ') => some (.ret u, σ')) else some (.next, σ)
noncomputable def thenS (p : Option (Fl × Sg)) (k : Sg → Option (Fl × Sg)) : Option (Fl × Sg) := p.bind fun q => match q with
  | (.next, σ') => k σ'
  | (.ret u, σ') => some (.ret u, σ')

set_option genCtorIdx false in
set_option genSizeOf false in
set_option genInjectivity false in
inductive SV : Stmt → Type
  | one (x : Str) (px : Pos) (e : Expr) (p : Pos) : SV (.Assign [.Name x px] e p)
  | two (x : Str) (px : Pos) (y : Str) (py : Pos) (e : Expr) (p : Pos) : SV (.Assign [.Name x px, .Name y py] e p)
  | swap (x : Str) (p : Pos) (y : Str) (q : Pos) (k1 : Nat) (p1 : Pos) (a b : Expr) (k2 : Nat) (p2 p3 : Pos) : SV (.Assign [.Tuple [.Name x p, .Name y q] k1 p1] (.Tuple [a, b] k2 p2) p3)
  | tup (ts : List Expr) (k1 : Nat) (p1 : Pos) (es : List Expr) (k2 : Nat) (p2 p3 : Pos) : SV (.Assign [.Tuple ts k1 p1] (.Tuple es k2 p2) p3)
  | set (x : Str) (px : Pos) (i : Expr) (pi : Pos) (e : Expr) (p : Pos) : SV (.Assign [.Subscript (.Name x px) i pi] e p)
  | aug (x : Str) (px : Pos) (op : Operator) (e : Expr) (p : Pos) : SV (.AugAssign (.Name x px) op e p)
  | cond (t : Expr) (b o : List Stmt) (p : Pos) : SV (.If t b o p)
  | loop (t : Expr) (b : List Stmt) (p : Pos) : SV (.While t b [] p)
  | each (t it : Expr) (b : List Stmt) (p : Pos) : SV (.For t it b [] p)
  | ret (e : Expr) (p : Pos) : SV (.Return (some e) p)
  | expr (x : Str) (px : Pos) (m : Str) (ap : Pos) (args : List Expr) (p q : Pos) : SV (.Expr (.Call (.Attribute (.Name x px) m ap) args [] p) q)
  | tries (b : List Stmt) (h : ExceptHandler) (hs : List ExceptHandler) (p : Pos) : SV (.Try b (h :: hs) [] [] p)
  | no (st : Stmt) : SV st
noncomputable def viewS : (st : Stmt) → SV st
  | .Assign [.Name x px] e p => .one x px e p
  | .Assign [.Name x px, .Name y py] e p => .two x px y py e p
  | .Assign [.Tuple [.Name x p, .Name y q] k1 p1] (.Tuple [a, b] k2 p2) p3 => .swap x p y q k1 p1 a b k2 p2 p3
  | .Assign [.Tuple ts k1 p1] (.Tuple es k2 p2) p3 => .tup ts k1 p1 es k2 p2 p3
  | .Assign [.Subscript (.Name x px) i pi] e p => .set x px i pi e p
  | .AugAssign (.Name x px) op e p => .aug x px op e p
  | .If t b o p => .cond t b o p
  | .While t b [] p => .loop t b p
  | .For t it b [] p => .each t it b p
  | .Return (some e) p => .ret e p
  | .Expr (.Call (.Attribute (.Name x px) m ap) args [] p) q => .expr x px m ap args p q
  | .Try b (h :: hs) [] [] p => .tries b h hs p
  | st => .no st
mutual
noncomputable def ex (X : Cx) : Nat → Stmt → Sg → Option (Fl × Sg)
  | 0, _, _ => none
  | n + 1, st, σ => match st, viewS st with
    | _, .one x _ e _ =>
        if X.O x then (if makes X e then (ev X n e σ).bind fun v => (putOwn X x v σ).map (Fl.next, ·) else none)
        else (ev X n e σ).bind fun v => (put X x v σ).map (Fl.next, ·)
    | _, .two x _ y _ e _ => (ev X n e σ).bind fun v => (put X x v σ).bind fun σ' => (put X y v σ').map (Fl.next, ·)
    | _, .swap x p y q _ _ a b _ _ _ =>
        if (X.K x = some .local ∧ X.K y = some .local ∧ x ≠ y) ∧ p.line = q.line ∧ constantsAlone 8 a = false ∧ foldedForSure 8 a = false then (evs X n [a, b] σ).bind fun vs => (match vs with
          | [u, v] => (put X y v σ).bind fun σ' => (put X x u σ').map (Fl.next, ·)
          | _ => none) else none
    | _, .tup ts _ _ es _ _ _ => (names ts).bind fun xs => if es.all (makes X) && decide (xs.length = es.length) && xs.any (fun x => X.K x != some .local) && decide (es.length ≤ big) then (evs X n es σ).bind fun vs =>
        (putsOwn X xs vs σ).map (Fl.next, ·) else none
    | _, .set x _ i _ e _ => (ev X n e σ).bind fun v => (ownOf X σ x).bind fun xs => (ev X n i σ).bind fun k => (match k with
        | .int k => if 0 ≤ k ∧ k < xs.length ∧ xs.length ≤ big ∧ v.isOwn = false then some (.next, upd σ x (.own (xs.set k.toNat v))) else none
        | _ => none)
    | _, .aug x _ op e _ => if plainName x && X.K x != some .globalImplicit then (σ x).bind fun a => (ev X n e σ).bind fun b => (match op, a, b with
        | .Add, .int a, .int b => (put X x (.int (a + b)) σ).map (Fl.next, ·)
        | .Sub, .int a, .int b => (put X x (.int (a - b)) σ).map (Fl.next, ·)
        | _, _, _ => none) else none
    | _, .cond t b o _ => (tst X n t σ).bind fun c => if c then exs X n b σ else exs X n o σ
    | _, .loop t b _ => whileL (fun σ => tst X n t σ) (fun σ => exs X n b σ) n σ
    | _, .each t it b _ => (ev X n it σ).bind fun v => v.items.bind fun xs => if decide (xs.length ≤ big) && !v.isOwn then
        forL (fun v σ => (bindT X t v σ).bind fun σ' => exs X n b σ') xs σ else none
    | _, .ret e _ => (ev X n e σ).map fun v => (.ret v, σ)
    | _, .expr x _ m ap args p _ => if ap.endLine == p.line then (ownOf X σ x).bind fun xs => (evs X n args σ).bind fun as => (match as with
        | [v] => if m = "append" ∧ v.isOwn = false ∧ xs.length ≤ big then some (.next, upd σ x (.own (xs ++ [v]))) else none
        | [.int k, v] => if m = "insert" ∧ v.isOwn = false ∧ 0 ≤ k ∧ k ≤ xs.length ∧ xs.length ≤ big then some (.next, upd σ x (.own (xs.take k.toNat ++ v :: xs.drop k.toNat))) else none
        | _ => none) else none
    | _, .tries b _ _ _ => exs X n b σ
    | _, .no _ => none
noncomputable def exs (X : Cx) : Nat → List Stmt → Sg → Option (Fl × Sg)
  | 0, _, _ => none
  | n + 1, ss, σ => match ss with
    | [] => some (.next, σ)
    | s :: r => thenS (ex X n s σ) (exs X n r)
end
end Mine
end
section
namespace Mine
open PySem

structure Fd where
  name : Str
  params : List Str
  body : List Stmt
  scope : Scope
  deriving Inhabited
noncomputable def fdOf (d : DefRec) : Fd := ⟨d.name, d.params.args.map (·.arg), d.body, d.scope⟩
noncomputable abbrev body := PySem.Challenge.pw_tc0072_01.main.body
noncomputable def recs : List DefRec := body.filterMap DefRec.ofStmt?
noncomputable def recOf (n : Str) : Option DefRec := recs.find? (fun d => d.name == n)
noncomputable def findDef (n : Str) : Option Fd := (recOf n).map fdOf

noncomputable def owned (f : Str) : List Str :=
  if f = "_levenshtein_distance" then ["row"] else if f = "_law_letters" then ["found"] else if f = "_law_four_numbers" then ["worth", "met"]
  else if f = "law" then ["typed", "due_marks", "pages", "ready", "barred", "laid"] else []
noncomputable def b1 : List Nat := [173, 847, 6150, 6155, 6156, 6157, 8203, 8204, 8205, 8288, 65279] ++ (List.range 16).map (65024 + ·)
noncomputable def b3List : List Stmt → List (Int × Str)
  | [] => []
  | .Assign [.Name n _] (.Dict ks vs _) _ :: r => if n = ("b3_exceptions" : Str) then (ks.zip vs).filterMap fun (k, v) => (match k, v with
      | some (.Constant (.int i) _ _), .Constant (.str s) _ _ => some (i, s)
      | _, _ => none) else b3List r
  | _ :: r => b3List r
noncomputable def b3 : List (Int × Str) := b3List body

noncomputable def prim (name : Str) (as : List V) : Option (Option V) :=
  if name = ("in_table_b1" : Str) then some (match as with
    | [.str x] => (match x.cps.toList with | [c] => some (.bool (b1.contains c)) | _ => none)
    | _ => none)
  else if name = ("map_table_b3" : Str) then some (match as with
    | [.str x] => (match x.cps.toList with | [c] => (match b3.lookup (c : Int) with | some s => some (.str s) | none => if (Txt.lower x).length ≤ big then some (.str (Txt.lower x)) else none) | _ => none)
    | _ => none)
  else none

noncomputable def globs : List (Str × V) := [("_MAX_STRING_SIZE", .int 40), ("_MOVE_COST", .int 2), ("_CASE_COST", .int 1), ("len", .blt "len"), ("min", .blt "min"), ("max", .blt "max"), ("ord", .blt "ord"), ("chr", .blt "chr"),
  ("sum", .blt "sum"), ("range", .typ "range"), ("list", .typ "list"), ("type", .typ "type"), ("bool", .typ "bool")]
noncomputable def fnNames : List Str := ["_substitution_cost", "_levenshtein_distance", "lt", "le", "eq", "ne", "ge", "gt", "and_", "or_", "rshift", "xor", "contains", "in_table_b1", "map_table_b3", "_escape_cdata", "_escape_attrib", "_escape_attrib_html",
  "_escape_cdata_c14n", "_escape_attrib_c14n", "_law_cells", "_law_sum", "_law_spelled", "_law_gap", "_law_letters", "_law_four_numbers", "_law_is"]
noncomputable def gl (x : Str) : Option V := if fnNames.contains x then some (.fn x) else globs.lookup x

noncomputable def start (ps : List Str) (as : List V) : Sg := fun y => (ps.zip (as.map V.lend)).lookup y
noncomputable def done : Option (Fl × Sg) → Option V
  | some (.ret v, _) => some v
  | some (.next, _) => some .nil
  | none => none
noncomputable def cxOf (f : Fd) (C : Str → List V → Option V) : Cx := { K := fun x => f.scope.names.lookup x, O := fun x => (owned f.name).contains x, G := gl, C }
noncomputable def callF : Nat → Str → List V → Option V
  | 0, _, _ => none
  | n + 1, name, as => match prim name as with
    | some r => r
    | none => (findDef name).bind fun f => if f.params.length = as.length then done (exs (cxOf f (callF n)) 300 f.body (start f.params as)) else none

end Mine
end
section
namespace Mine
open PySem PySem.Calls PyProof.Rows

/-- what was there stays -/
noncomputable abbrev Kp (h h' : Heap) : Prop := ∀ b o, h.get? b = some o → h'.get? b = some o
/-- what was there and is let stays -/
noncomputable abbrev KpOn (ok : Addr → Prop) (h h' : Heap) : Prop := ∀ b o, ok b → h.get? b = some o → h'.get? b = some o

/-- the text's defs, where they stand -/
structure World' where
  prog : Program
  w : World
  fa : Str → Option Addr
  b1a : Addr
  b3a : Addr

section
variable (W : World')

inductive RepP : List (Str × Value) → List (Str × Str) → Prop
  | nil : RepP [] []
  | cons {k x : Str} {t : Tok} {vs ks} : RepP vs ks → RepP ((k, .str x t) :: vs) ((k, x) :: ks)

mutual
inductive Rep (h : Heap) (ok ow : Addr → Prop) : Value → V → Prop
  | nil : Rep h ok ow .none .nil
  | bool (b) : Rep h ok ow (.bool b) (.bool b)
  | int (i t) : Rep h ok ow (.int i t) (.int i)
  | str (x t) : Rep h ok ow (.str x t) (.str x)
  | typ (n) : Rep h ok ow (.type n) (.typ n)
  | blt (n) : Rep h ok ow (.builtin n) (.blt n)
  | fn {n a} : W.fa n = some a → Rep h ok ow (.ref a) (.fn n)
  | rng {a x y z t u v} : IsRange h a x y z t u v → ok a → smallR x y z = true → Rep h ok ow (.ref a) (.rng x y z)
  | lst {a vs xs} : h.IsList a vs.toArray → ok a → RepL h ok ow vs xs → Rep h ok ow (.ref a) (.lst xs)
  | own {a vs xs} : h.PlainList a vs.toArray → ow a → RepL h ok ow vs xs → Rep h ok ow (.ref a) (.own xs)
  | tup {a vs xs} : (∃ n, IsT h a vs.toArray n) → ok a → RepL h ok ow vs xs → Rep h ok ow (.ref a) (.tup xs)
  | dct {a kvs ks} : h.DictOf (strKind W.prog W.w) a kvs → ok a → (a == sysModules) = false → RepP kvs ks → Rep h ok ow (.ref a) (.dct ks)
inductive RepL (h : Heap) (ok ow : Addr → Prop) : List Value → List V → Prop
  | nil : RepL h ok ow [] []
  | cons {v a vs xs} : Rep h ok ow v a → a.isOwn = false → RepL h ok ow vs xs → RepL h ok ow (v :: vs) (a :: xs)
end
end

variable {W : World'}

theorem IsList_on {ok : Addr → Prop} {h h' : Heap} (k : KpOn ok h h') {a : Addr} {it} (ha : ok a) (x : h.IsList a it) : h'.IsList a it := let ⟨o, e, r⟩ := x; ⟨o, k _ _ ha e, r⟩

/-- what is let stays as it stood, so what is told of it stays -/
theorem RepL.on {ok ok' ow ow' : Addr → Prop} {h h' : Heap} (k : KpOn ok h h') (i : ∀ b, (∃ o, h.get? b = some o) → ok b → ok' b) {v a} (r : RepL W h ok ow v a) : RepL W h' ok' ow' v a := by
  refine RepL.rec (motive_1 := fun v a _ => a.isOwn = false → Rep W h' ok' ow' v a) (motive_2 := fun v a _ => RepL W h' ok' ow' v a)
    (fun _ => .nil) (fun b _ => .bool b) (fun a t _ => .int a t) (fun a t _ => .str a t) (fun n _ => .typ n) (fun n _ => .blt n) (fun e _ => .fn e) ?_ ?_ ?_ ?_ ?_ .nil (fun _ n _ a b => .cons (a n) n b) r
  · intro a x y z t u v e o s _; exact .rng (k _ _ o e) (i _ ⟨_, e⟩ o) s
  · intro a vs xs e o _ r _; exact .lst (IsList_on k o e) (i _ (let ⟨_, e, _⟩ := e; ⟨_, e⟩) o) r
  · intro a vs xs e _ _ _ n; cases n
  · intro a vs xs e o _ r _; exact .tup (let ⟨n, e⟩ := e; ⟨n, k _ _ o e⟩) (i _ (let ⟨_, e⟩ := e; ⟨_, e⟩) o) r
  · intro a vs ks e o m r _; exact .dct (let ⟨_, es, ep, e, r⟩ := e; ⟨_, es, ep, k _ _ o e, r⟩) (i _ (let ⟨_, _, _, e, _⟩ := e; ⟨_, e⟩) o) m r

theorem Rep.on {ok ok' ow ow' : Addr → Prop} {h h' : Heap} (k : KpOn ok h h') (i : ∀ b, (∃ o, h.get? b = some o) → ok b → ok' b) {v a} (n : a.isOwn = false) (r : Rep W h ok ow v a) : Rep W h' ok' ow' v a := by
  have := RepL.on (ow' := ow') k i (.cons r n .nil)
  cases this with | cons a _ _ => exact a
theorem own_is {a : V} (h : a.isOwn = true) : ∃ xs, a = .own xs := by cases a <;> first | exact ⟨_, rfl⟩ | cases h
theorem rOwn {ok ow : Addr → Prop} {h : Heap} {v : Value} {xs : List V} (r : Rep W h ok ow v (.own xs)) : ∃ a vs, v = .ref a ∧ h.PlainList a vs.toArray ∧ ow a ∧ RepL W h ok ow vs xs := by
  cases r; exact ⟨_, _, rfl, by assumption, by assumption, by assumption⟩
/-- the heap has grown -/
theorem Rep.up {ok ow : Addr → Prop} {h h' : Heap} (k : Kp h h') {v a} (r : Rep W h ok ow v a) : Rep W h' ok ow v a := by
  cases hn : a.isOwn with
  | false => exact r.on (fun b o _ e => k b o e) (fun _ _ x => x) hn
  | true =>
    obtain ⟨xs, rfl⟩ := own_is hn
    obtain ⟨D, vs, rfl, e, w, r⟩ := rOwn r
    exact .own (let ⟨o, e⟩ := e; ⟨o, k _ _ e⟩) w (r.on (fun b o _ e => k b o e) (fun _ _ x => x))
theorem RepL.up {ok ow : Addr → Prop} {h h' : Heap} (k : Kp h h') {v a} (r : RepL W h ok ow v a) : RepL W h' ok ow v a := r.on (fun b o _ e => k b o e) (fun _ _ x => x)
/-- fewer are barred -/
theorem Rep.let {ok ok' ow ow' : Addr → Prop} {h : Heap} (i : ∀ b, (∃ o, h.get? b = some o) → ok b → ok' b) (j : ∀ b, ow b → ow' b) {v a} (r : Rep W h ok ow v a) : Rep W h ok' ow' v a := by
  cases hn : a.isOwn with
  | false => exact r.on (fun b o _ e => e) i hn
  | true =>
    obtain ⟨xs, rfl⟩ := own_is hn
    obtain ⟨D, vs, rfl, e, w, r⟩ := rOwn r
    exact .own e (j _ w) (r.on (fun b o _ e => e) i)
theorem RepL.len {ok ow : Addr → Prop} {h : Heap} : ∀ {v a}, RepL W h ok ow v a → v.length = a.length
  | _, _, .nil => rfl
  | _, _, .cons _ _ r => by simp [r.len]
theorem RepL.get {ok ow : Addr → Prop} {h : Heap} : ∀ {vs : List Value} {xs : List V} {j : Nat} {x}, RepL W h ok ow vs xs → xs[j]? = some x → ∃ v, vs[j]? = some v ∧ Rep W h ok ow v x ∧ x.isOwn = false
  | _, _, j, x, .nil, e => by simp at e
  | _, _, 0, x, .cons r n _, e => by simp at e; subst e; exact ⟨_, rfl, r, n⟩
  | _, _, j + 1, x, .cons _ _ r, e => by simpa using r.get (by simpa using e)
theorem RepL.get' {ok ow : Addr → Prop} {h : Heap} : ∀ {vs : List Value} {xs : List V} {j : Nat} {v}, RepL W h ok ow vs xs → vs[j]? = some v → ∃ x, xs[j]? = some x ∧ Rep W h ok ow v x ∧ x.isOwn = false
  | _, _, j, x, .nil, e => by simp at e
  | _, _, 0, x, .cons r n _, e => by simp at e; subst e; exact ⟨_, rfl, r, n⟩
  | _, _, j + 1, x, .cons _ _ r, e => by simpa using r.get' (by simpa using e)
theorem RepL.append {ok ow : Addr → Prop} {h : Heap} : ∀ {vs : List Value} {xs : List V} {vs' xs'}, RepL W h ok ow vs xs → RepL W h ok ow vs' xs' → RepL W h ok ow (vs ++ vs') (xs ++ xs')
  | _, _, _, _, .nil, s => s
  | _, _, _, _, .cons a n r, s => .cons a n (r.append s)
theorem RepL.take {ok ow : Addr → Prop} {h : Heap} : ∀ {vs : List Value} {xs : List V} (k : Nat), RepL W h ok ow vs xs → RepL W h ok ow (vs.take k) (xs.take k)
  | _, _, 0, _ => by simpa using .nil
  | _, _, _ + 1, .nil => .nil
  | _, _, k + 1, .cons a n r => .cons a n (r.take k)
theorem RepL.drop {ok ow : Addr → Prop} {h : Heap} : ∀ {vs : List Value} {xs : List V} (k : Nat), RepL W h ok ow vs xs → RepL W h ok ow (vs.drop k) (xs.drop k)
  | _, _, 0, r => by simpa using r
  | _, _, _ + 1, .nil => .nil
  | _, _, k + 1, .cons _ _ r => r.drop k
theorem RepL.set {ok ow : Addr → Prop} {h : Heap} : ∀ {vs : List Value} {xs : List V} (k : Nat) {v x}, RepL W h ok ow vs xs → Rep W h ok ow v x → x.isOwn = false → RepL W h ok ow (vs.set k v) (xs.set k x)
  | _, _, _, _, _, .nil, _, _ => .nil
  | _, _, 0, _, _, .cons _ _ r, s, n => .cons s n r
  | _, _, k + 1, _, _, .cons a m r, s, n => .cons a m (r.set k s n)
/-- flat values need no heap -/
theorem Rep.flat {ok ok' ow ow' : Addr → Prop} {h h' : Heap} {v a} (f : a.flat = true) (r : Rep W h ok ow v a) : Rep W h' ok' ow' v a := by
  cases r <;> first | (cases f; done) | constructor | skip
  all_goals first | assumption | (rename_i e; exact .fn e)
theorem RepL.flat {ok ok' ow ow' : Addr → Prop} {h h' : Heap} : ∀ {v a}, a.all V.flat = true → RepL W h ok ow v a → RepL W h' ok' ow' v a
  | _, _, _, .nil => .nil
  | _, _, f, .cons r n s => by
    simp only [List.all_cons, Bool.and_eq_true] at f
    exact .cons (r.flat f.1) n (s.flat f.2)
inductive Reps (W : World') (h : Heap) (ok ow : Addr → Prop) : List Value → List V → Prop
  | nil : Reps W h ok ow [] []
  | cons {v a vs xs} : Rep W h ok ow v a → Reps W h ok ow vs xs → Reps W h ok ow (v :: vs) (a :: xs)
theorem Reps.up {ok ow : Addr → Prop} {h h' : Heap} (k : Kp h h') {v a} (q : Reps W h ok ow v a) : Reps W h' ok ow v a := by
  induction q with
  | nil => exact .nil
  | cons r _ ih => exact .cons (r.up k) ih
theorem Reps.len {ok ow : Addr → Prop} {h : Heap} {v a} (q : Reps W h ok ow v a) : v.length = a.length := by
  induction q with
  | nil => rfl
  | cons _ _ ih => exact congrArg (· + 1) ih
theorem Reps.list {ok ow : Addr → Prop} {h : Heap} {v a} (n : noOwn a = true) (q : Reps W h ok ow v a) : RepL W h ok ow v a := by
  induction q with
  | nil => exact .nil
  | cons r _ ih =>
    simp only [noOwn, List.all_cons, Bool.and_eq_true, Bool.not_eq_true'] at n
    exact .cons r n.1 (ih n.2)
theorem lend_of {a : V} (n : a.isOwn = false) : a.lend = a := by cases a <;> first | rfl | cases n
theorem Reps.let {ok ok' ow ow' : Addr → Prop} {h : Heap} (i : ∀ b, (∃ o, h.get? b = some o) → ok b → ok' b) (j : ∀ b, ow b → ow' b) {v a} (q : Reps W h ok ow v a) : Reps W h ok' ow' v a := by
  induction q with
  | nil => exact .nil
  | cons r _ ih => exact .cons (r.let i j) ih
theorem RepL.reps {ok ow : Addr → Prop} {h : Heap} : ∀ {v a}, RepL W h ok ow v a → Reps W h ok ow v a
  | _, _, .nil => .nil
  | _, _, .cons r _ s => .cons r s.reps
end Mine
end
section
namespace Mine
open PySem PySem.Calls PyProof.Rows PySem.W

theorem big_is : big = 4096 := rfl
theorem sizeLine_is : sizeLine = 16777216 := by decide
/-- how much room there is: k calls deep -/
structure Good (k : Nat) (A : Around) : Prop where
  handled : A.handled = none
  depth : A.depth + k + 2 ≤ 990
  units : A.units + 4 * k + 100 ≤ 9000
/-- what is not there yet is not barred -/
noncomputable abbrev Fresh (ok : Addr → Prop) (h : Heap) : Prop := ∀ b, h.get? b = none → ok b
theorem Fresh.up {ok : Addr → Prop} {h h' : Heap} (f : Fresh ok h) (k : Kp h h') : Fresh ok h' := fun b e => f b (by
  cases e' : h.get? b with
  | none => rfl
  | some o => rw [k _ _ e'] at e; cases e)
theorem none_size (h : Heap) : h.get? h.objs.size = none := by
  cases e : h.get? h.objs.size with
  | none => rfl
  | some o => exact absurd (Heap.lt_size e) (Nat.lt_irrefl _)
theorem Fresh.size {ok : Addr → Prop} {h : Heap} (f : Fresh ok h) : ok h.objs.size := f _ (none_size h)
theorem Kp.push (h : Heap) (o : Obj) : Kp h (h.push o) := fun _ _ e => Heap.get?_push_of_some o e
theorem Kp.refl (h : Heap) : Kp h h := fun _ _ e => e
theorem Kp.trans {a b c : Heap} (x : Kp a b) (y : Kp b c) : Kp a c := fun _ _ e => y _ _ (x _ _ e)

theorem kRefl (s : Shared) : Keeps s s := ⟨s.heap, s.toks, rfl, Kp.refl _⟩
theorem kOf {s : Shared} {h : Heap} {t : Nat} (k : Kp s.heap h) : Keeps s { s with heap := h, toks := t } := ⟨h, t, rfl, k⟩
theorem kTok {s : Shared} {t : Nat} : Keeps s { s with toks := t } := ⟨s.heap, t, rfl, Kp.refl _⟩
theorem kKp {s s' : Shared} (k : Keeps s s') : Kp s.heap s'.heap := by obtain ⟨h, t, rfl, k⟩ := k; exact k
theorem kTrans {a b c : Shared} (x : Keeps a b) (y : Keeps b c) : Keeps a c := by
  obtain ⟨h, t, rfl, k⟩ := x
  obtain ⟨h', t', rfl, k'⟩ := y
  exact ⟨h', t', rfl, fun _ _ e => k' _ _ (k _ _ e)⟩

variable {W : World'} {ok ow : Addr → Prop}

/-- nothing that stood is turned, and the marks go up -/
structure Kx (s s' : Shared) : Prop where
  keeps : Keeps s s'
  toks : s.toks ≤ s'.toks
theorem Kx.refl (s : Shared) : Kx s s := ⟨kRefl s, Nat.le_refl _⟩
theorem Kx.trans {a b c : Shared} (x : Kx a b) (y : Kx b c) : Kx a c := ⟨kTrans x.keeps y.keeps, Nat.le_trans x.toks y.toks⟩
theorem Kx.kp {s s' : Shared} (k : Kx s s') : Kp s.heap s'.heap := kKp k.keeps

/-- the tree gives what stands for c, and nothing that stood is turned -/
noncomputable def Gv (W : World') (ok ow : Addr → Prop) (A : Around) (t : Sem Value) (c : V) (s : Shared) : Prop :=
  ∀ (E : Value → Shared → Prop) (Q : Value → Shared → Prop), (∀ v s', Kx s s' → Rep W s'.heap ok ow v c → Q v s') → wpAny (model W.prog W.w) A t Q E s
theorem gvOf {A : Around} {t : Sem Value} {c : V} {s : Shared}
    (h : ∀ (E : Value → Shared → Prop) (Q : Value → Shared → Prop), (∀ v s', Keeps s s' → Rep W s'.heap ok ow v c → Q v s') → wpAny (model W.prog W.w) A t Q E s) : Gv W ok ow A t c s := fun E Q hQ =>
  wpAny_mono (wpAny_toks_of (n := s.toks) (Nat.le_refl _) (h E (fun v s' => Keeps s s' ∧ Rep W s'.heap ok ow v c) fun v s' k r => ⟨k, r⟩)) (fun v s' ⟨a, k, r⟩ => hQ v s' ⟨k, a⟩ r) fun _ _ x => x.2
/-- the same of a tree that gives a truth -/
noncomputable def Gb (W : World') (A : Around) (t : Sem Bool) (c : Bool) (s : Shared) : Prop :=
  ∀ (E : Value → Shared → Prop) (Q : Bool → Shared → Prop), (∀ s', Kx s s' → Q c s') → wpAny (model W.prog W.w) A t Q E s
theorem gbOf {A : Around} {t : Sem Bool} {c : Bool} {s : Shared}
    (h : ∀ (E : Value → Shared → Prop) (Q : Bool → Shared → Prop), (∀ s', Keeps s s' → Q c s') → wpAny (model W.prog W.w) A t Q E s) : Gb W A t c s := fun E Q hQ =>
  wpAny_mono (wpAny_toks_of (n := s.toks) (Nat.le_refl _) (h E (fun b s' => b = c ∧ Keeps s s') fun s' k => ⟨rfl, k⟩)) (fun v s' ⟨a, e, k⟩ => by subst e; exact hQ s' ⟨k, a⟩) fun _ _ x => x.2

theorem ints_of : ∀ {vs xs ns} {h : Heap}, RepL W h ok ow vs xs → intL xs = some ns → IntsAre vs ns
  | _, _, _, _, .nil, e => by cases e; exact .nil
  | _, _, ns, h, .cons (a := a) r _ s, e => by
    cases r <;> try (simp [intL] at e; done)
    simp only [intL, Option.map_eq_some_iff] at e
    obtain ⟨l, e, rfl⟩ := e
    exact .cons _ _ (ints_of s e)
inductive BoolsA : List Value → List Bool → Prop
  | nil : BoolsA [] []
  | cons (b : Bool) {vs bs} : BoolsA vs bs → BoolsA (.bool b :: vs) (b :: bs)
theorem bools_of : ∀ {vs xs ns} {h : Heap}, RepL W h ok ow vs xs → boolL xs = some ns → BoolsA vs ns
  | _, _, _, _, .nil, e => by cases e; exact .nil
  | _, _, ns, h, .cons (a := a) r _ s, e => by
    cases r <;> try (simp [boolL] at e; done)
    simp only [boolL, Option.map_eq_some_iff] at e
    obtain ⟨l, e, rfl⟩ := e
    exact .cons _ (bools_of s e)
theorem strs_of : ∀ {vs xs ns} {h : Heap}, RepL W h ok ow vs xs → strL xs = some ns → ∃ l : List (Str × Tok), vs = strValues l ∧ l.map (·.1) = ns
  | _, _, _, _, .nil, e => by cases e; exact ⟨[], rfl, rfl⟩
  | _, _, ns, h, .cons (a := a) r hn s, e => by
    cases r <;> try (simp [strL] at e; done)
    clear hn
    rename_i x t
    simp only [strL, Option.map_eq_some_iff] at e
    obtain ⟨l, e, rfl⟩ := e
    obtain ⟨l', rfl, rfl⟩ := strs_of s e
    exact ⟨(x, t) :: l', rfl, rfl⟩

/-! two lists compared -/
theorem readsAll_bools {h : Heap} {vs : List Value} {ns : List Bool} (q : BoolsA vs ns) : ReadsAll h vs (ns.map PyData.bool) [] := by
  induction q with
  | nil => exact .nil
  | cons b _ ih =>
    have := ReadsAll.cons (Reads.bool (h := h) b) ih
    simpa using this
theorem reads_bools {h : Heap} {a : Addr} {vs : List Value} {ns : List Bool} (hl : h.IsList a vs.toArray) (hi : BoolsA vs ns) : Reads h (.ref a) (.list (ns.map PyData.bool)) [a] := by
  obtain ⟨o, ho, hc, n, hd⟩ := hl
  exact Reads.list ho hc hd (by simpa using readsAll_bools hi)
theorem canLay_bools : ∀ ns : List Bool, PyData.canLayAll0 (ns.map PyData.bool) = true
  | [] => by simp [PyData.canLayAll0]
  | n :: r => by simp [PyData.canLayAll0, PyData.canLay0, canLay_bools r]
theorem depth_bools : ∀ ns : List Bool, PyData.depthAll (ns.map PyData.bool) ≤ 1
  | [] => by simp [PyData.depthAll]
  | n :: r => by
    have := depth_bools r
    simp only [List.map_cons, PyData.depthAll, PyData.depth]
    omega
theorem shaped_bools (ns : List Bool) : SeqAt.shaped (.list (ns.map PyData.bool)) = true := by
  have h1 := depth_bools ns
  have h2 : PyData.depth (.list (ns.map PyData.bool)) ≤ 64 := by simp only [PyData.depth]; omega
  show (PyData.canLay0 (.list (ns.map PyData.bool)) && decide (PyData.depth (.list (ns.map PyData.bool)) ≤ 64)) = true
  rw [Bool.and_eq_true]
  exact ⟨by simp only [PyData.canLay0]; exact canLay_bools ns, decide_eq_true h2⟩
theorem eqv_bools : ∀ ns ms : List Bool, PyData.eqvAll (ns.map PyData.bool) (ms.map PyData.bool) = (ns == ms)
  | [], [] => by simp [PyData.eqvAll]
  | [], _ :: _ => by simp [PyData.eqvAll]
  | _ :: _, [] => by simp [PyData.eqvAll]
  | a :: r, b :: t => by
    simp only [List.map_cons, PyData.eqvAll, PyData.eqv, eqv_bools r t]
    rfl
theorem eqv_ints : ∀ ns ms : List Int, PyData.eqvAll (ns.map PyData.int) (ms.map PyData.int) = (ns == ms)
  | [], [] => by simp [PyData.eqvAll]
  | [], _ :: _ => by simp [PyData.eqvAll]
  | _ :: _, [] => by simp [PyData.eqvAll]
  | a :: r, b :: t => by
    simp only [List.map_cons, PyData.eqvAll, PyData.eqv, eqv_ints r t]
    rfl

theorem elems_rep {h : Heap} {v : Value} {a : V} {xs : List V} (r : Rep W h ok ow v a) (e : a.elems = some xs) : ∃ l vs, v = .ref l ∧ h.IsList l vs.toArray ∧ RepL W h ok ow vs xs := by
  cases r <;> (try cases e)
  · exact ⟨_, _, rfl, by first | assumption | exact Heap.PlainList.isList (by assumption), by assumption⟩
  · exact ⟨_, _, rfl, by first | assumption | exact Heap.PlainList.isList (by assumption), by assumption⟩

theorem eqL_reads {h : Heap} {l l' : Addr} {vs ws : List Value} {xs ys : List V} {c : Bool} (hl : h.IsList l vs.toArray) (hl' : h.IsList l' ws.toArray) (r : RepL W h ok ow vs xs) (r' : RepL W h ok ow ws ys) (e : eqL xs ys = some c) :
    ∃ da db, Reads h (.ref l) da [l] ∧ Reads h (.ref l') db [l'] ∧ SeqAt.shaped da = true ∧ SeqAt.shaped db = true ∧ PyData.eqv da db = c := by
  unfold eqL at e
  split at e
  · rename_i x y hx hy
    cases e
    exact ⟨_, _, reads_of_ints hl (ints_of r hx), reads_of_ints hl' (ints_of r' hy), shaped_ints _, shaped_ints _, by simp only [PyData.eqv]; exact eqv_ints _ _⟩
  · split at e
    · rename_i x y hx hy
      cases e
      exact ⟨_, _, reads_bools hl (bools_of r hx), reads_bools hl' (bools_of r' hy), shaped_bools _, shaped_bools _, by simp only [PyData.eqv]; exact eqv_bools _ _⟩
    · cases e


/-! two values joined by a sign -/
theorem small_mul {a b : Int} (ha : smallI a = true) : IntMulOk a b := by
  unfold IntMulOk
  intro h
  simp only [Bool.and_eq_true, decide_eq_true_eq] at h
  have h1 := h.1.1
  have h2 : a.natAbs < 2 ^ 62 := by simpa [smallI] using ha
  unfold Builtin.Int.intBits at h1
  have : shortFactorBits = 64 := rfl
  rw [this] at h1
  split at h1
  · omega
  · rename_i hz
    have := Nat.log2_lt (n := a.natAbs) (k := 62) (by simpa using hz)
    omega
theorem small_div {a b : Int} (hb : smallI b = true) : Builtin.divisionGoesByPylong a b = false := by
  have h2 : b.natAbs < 2 ^ 62 := by simpa [smallI] using hb
  unfold Builtin.divisionGoesByPylong
  simp only [Bool.and_eq_false_iff, decide_eq_false_iff_not]
  left
  split
  · omega
  · rename_i hz
    have := (Nat.log2_lt (n := b.natAbs) (k := 62) (by simpa using hz)).mpr h2
    omega

theorem concat_ok {A : Around} {s : Shared} {l b : Addr} {vs us : List Value} {xs ys : List V} (f : Fresh ok s.heap) (hl : s.heap.IsList l vs.toArray) (hb : s.heap.IsList b us.toArray) (r : RepL W s.heap ok ow vs xs) (r' : RepL W s.heap ok ow us ys)
    (hsz : xs.length + ys.length ≤ big) : Gv W ok ow A (binaryOp .Add (.ref l) (.ref b)) (.lst (xs ++ ys)) s := by
  refine gvOf fun E Q h => ?_
  have hs : vs.toArray.size + us.toArray.size ≤ sizeLine := by
    have := r.len; have := r'.len
    rw [sizeLine_is]; rw [big_is] at hsz
    simp only [List.size_toArray]; omega
  obtain ⟨⟨cls, dd, data, sl⟩, ho, hc, n, hd⟩ := id hl
  obtain ⟨⟨cls2, dd2, data2, sl2⟩, ho2, hc2, n2, hd2⟩ := id hb
  simp only at hc hd hc2 hd2
  subst hc hd hc2 hd2
  refine concat_meets ⟨_, ho, rfl⟩ ⟨_, ho2, rfl⟩ noFill_list_add seq_list_add PySem.F.slot_list_add PySem.F.entry_list_add (PySem.F.args_list_add_2 _ _) (list_addW l b vs.toArray us.toArray n n2 dd dd2 sl sl2 hs) ⟨ho, ho2, ?_⟩
  have e : vs.toArray ++ us.toArray = (vs ++ us).toArray := by simp
  rw [e]
  exact h _ _ (kOf (Kp.push _ _)) (.lst ⟨_, Heap.get?_push_size _ rfl, rfl, _, rfl⟩ f.size ((r.append r').up (Kp.push _ _)))

theorem rTup {h : Heap} {v : Value} {xs : List V} (r : Rep W h ok ow v (.tup xs)) : ∃ a vs, v = .ref a ∧ (∃ n, IsT h a vs.toArray n) ∧ ok a ∧ RepL W h ok ow vs xs := by cases r; exact ⟨_, _, rfl, by assumption, by assumption, by assumption⟩
theorem reps1 {h : Heap} {vs : List Value} {a : V} (r : Reps W h ok ow vs [a]) : ∃ v, vs = [v] ∧ Rep W h ok ow v a := by
  cases r with | cons r1 r2 => cases r2; exact ⟨_, rfl, r1⟩
theorem reps2 {h : Heap} {vs : List Value} {a b : V} (r : Reps W h ok ow vs [a, b]) : ∃ v u, vs = [v, u] ∧ Rep W h ok ow v a ∧ Rep W h ok ow u b := by
  cases r with | cons r1 r2 => obtain ⟨_, rfl, q⟩ := reps1 r2; exact ⟨_, _, rfl, r1, q⟩
theorem reps3 {h : Heap} {vs : List Value} {a b c : V} (r : Reps W h ok ow vs [a, b, c]) : ∃ v u w, vs = [v, u, w] ∧ Rep W h ok ow v a ∧ Rep W h ok ow u b ∧ Rep W h ok ow w c := by
  cases r with | cons r1 r2 => obtain ⟨_, _, rfl, q, q'⟩ := reps2 r2; exact ⟨_, _, _, rfl, r1, q, q'⟩
theorem gvInt {A : Around} {s : Shared} {t : Sem Value} {c : Int} (H : ∀ {E Q : Value → Shared → Prop}, Q (.int c s.toks) { s with toks := s.toks + 1 } → wpAny (model W.prog W.w) A t Q E s) : Gv W ok ow A t (.int c) s := gvOf fun E Q h => H (h _ _ kTok (.int _ _))
theorem gvBool {A : Around} {s : Shared} {t : Sem Value} {c : Bool} (H : ∀ {E Q : Value → Shared → Prop}, Q (.bool c) s → wpAny (model W.prog W.w) A t Q E s) : Gv W ok ow A t (.bool c) s := gvOf fun E Q h => H (h _ _ (kRefl _) (.bool _))
theorem rRng {h : Heap} {v : Value} {a b c : Int} (r : Rep W h ok ow v (.rng a b c)) : ∃ l t u w, v = .ref l ∧ IsRange h l a b c t u w ∧ ok l ∧ smallR a b c = true := by cases r; exact ⟨_, _, _, _, rfl, by assumption, by assumption, by assumption⟩
theorem rFn {h : Heap} {v : Value} {n : Str} (r : Rep W h ok ow v (.fn n)) : ∃ a, v = .ref a ∧ W.fa n = some a := by cases r; exact ⟨_, rfl, by assumption⟩
theorem rBlt {h : Heap} {v : Value} {n : String} (r : Rep W h ok ow v (.blt n)) : v = .builtin n := by cases r; rfl
theorem rNil {h : Heap} {v : Value} (r : Rep W h ok ow v .nil) : v = .none := by cases r; rfl
theorem rInt {h : Heap} {v : Value} {i : Int} (r : Rep W h ok ow v (.int i)) : ∃ t, v = .int i t := by cases r; exact ⟨_, rfl⟩
theorem rStr {h : Heap} {v : Value} {i : Str} (r : Rep W h ok ow v (.str i)) : ∃ t, v = .str i t := by cases r; exact ⟨_, rfl⟩
theorem rBool {h : Heap} {v : Value} {i : Bool} (r : Rep W h ok ow v (.bool i)) : v = .bool i := by cases r; rfl
theorem rTyp {h : Heap} {v : Value} {i : String} (r : Rep W h ok ow v (.typ i)) : v = .type i := by cases r; rfl
theorem rDct {h : Heap} {v : Value} {ks : List (Str × Str)} (r : Rep W h ok ow v (.dct ks)) : ∃ a kvs, v = .ref a ∧ h.DictOf (strKind W.prog W.w) a kvs ∧ (a == sysModules) = false ∧ RepP kvs ks := by
  cases r; exact ⟨_, _, rfl, by assumption, by assumption, by assumption⟩
theorem rLst {h : Heap} {v : Value} {xs : List V} (r : Rep W h ok ow v (.lst xs)) : ∃ a vs, v = .ref a ∧ h.IsList a vs.toArray ∧ ok a ∧ RepL W h ok ow vs xs := by
  cases r; exact ⟨_, _, rfl, by assumption, by assumption, by assumption⟩
theorem bin_ok {op : Operator} {a b c : V} {va vb : Value} {A : Around} {s : Shared} (f : Fresh ok s.heap) (e : bin op a b = some c) (ra : Rep W s.heap ok ow va a) (rb : Rep W s.heap ok ow vb b) : Gv W ok ow A (binaryOp op va vb) c s := by
  unfold bin at e
  generalize binV op a b = w at e
  induction w <;> try (cases e; done)
  · cases e; obtain ⟨t1, rfl⟩ := rInt ra; obtain ⟨t2, rfl⟩ := rInt rb; exact gvInt add_int
  · refine ifE e ?_
    clear e
    intro hs e
    cases e
    obtain ⟨t1, rfl⟩ := rStr ra; obtain ⟨t2, rfl⟩ := rStr rb
    exact gvOf fun E Q h => add_str (fun t' tk => h _ _ kTok (.str _ _)) (by rw [sizeLine_is]; rw [big_is] at hs; omega)
  · refine ifE e ?_
    clear e
    intro hs e
    cases e
    obtain ⟨la, va', rfl, h1, _, h2⟩ := rLst ra; obtain ⟨lb, vb', rfl, h3, _, h4⟩ := rLst rb
    exact concat_ok f h1 h3 h2 h4 hs
  · cases e; obtain ⟨t1, rfl⟩ := rInt ra; obtain ⟨t2, rfl⟩ := rInt rb; exact gvInt sub_int
  · refine ifE e ?_
    clear e
    intro hs e
    cases e
    simp only [Bool.and_eq_true] at hs
    obtain ⟨t1, rfl⟩ := rInt ra; obtain ⟨t2, rfl⟩ := rInt rb
    exact gvInt fun h => mul_int h (small_mul hs.1)
  · refine ifE e ?_
    clear e
    intro _ e
    cases e
    obtain ⟨t1, rfl⟩ := rInt ra; cases rBool rb
    exact gvOf fun E Q h => IntBool.mul_int_bool (h _ _ kTok (.int _ _))
  · refine ifE e ?_
    clear e
    intro hs e
    cases e
    obtain ⟨t1, rfl⟩ := rInt ra; obtain ⟨t2, rfl⟩ := rInt rb
    simp only [Bool.and_eq_true, decide_eq_true_eq] at hs
    exact gvOf fun E Q h => floordiv_int hs.1 (h _ _ kTok (.int _ _)) (.inl (small_div hs.2))
  · refine ifE e ?_
    clear e
    intro hs e
    cases e
    obtain ⟨t1, rfl⟩ := rInt ra; obtain ⟨t2, rfl⟩ := rInt rb
    exact gvOf fun E Q h => mod_int' hs (h _ _ kTok (.int _ _))
  · refine ifE e ?_
    clear e
    intro hs e
    cases e
    obtain ⟨t1, rfl⟩ := rInt ra; obtain ⟨t2, rfl⟩ := rInt rb
    exact gvOf fun E Q h => pow_int_small hs.1 hs.2.1 hs.2.2 (h _ _ kTok (.int _ _))
  · cases e; obtain ⟨t1, rfl⟩ := rInt ra; obtain ⟨t2, rfl⟩ := rInt rb; exact gvInt xor_int
  · cases e; obtain ⟨t1, rfl⟩ := rInt ra; obtain ⟨t2, rfl⟩ := rInt rb; exact gvInt and_int
  · refine ifE e ?_
    clear e
    intro hs e
    cases e
    obtain ⟨t1, rfl⟩ := rInt ra; obtain ⟨t2, rfl⟩ := rInt rb
    exact gvOf fun E Q h => rshift_int hs (h _ _ kTok (.int _ _))
  · cases e; cases rBool ra; cases rBool rb; exact gvBool and_bool
  · cases e; cases rBool ra; cases rBool rb; exact gvBool or_bool
  · cases e; cases rBool ra; cases rBool rb; exact gvBool xor_bool

theorem type_beq (n m : String) : (Value.type n == Value.type m) = (n == m) := by
  by_cases q : n = m
  · subst q; simp
  · have : (Value.type n == Value.type m) = false := beq_eq_false_iff_ne.mpr fun e => q (Value.type.inj e)
    rw [this]; exact (beq_eq_false_iff_ne.mpr q).symm
theorem truth_ok {a : V} {b : Bool} {va : Value} {A : Around} {s : Shared} (e : truth a = some b) (r : Rep W s.heap ok ow va a) : Gb W A (truthy va) b s := by
  unfold truth at e
  split at e <;> try (cases e; done)
  · cases e; cases rNil r; exact gbOf fun E Q h => truthy_none (h _ (kRefl _))
  · cases e; cases rBool r; exact gbOf fun E Q h => wpAny_truthy_bool (h _ (kRefl _))
  · cases e; obtain ⟨t, rfl⟩ := rInt r; exact gbOf fun E Q h => P.truthy_int (h _ (kRefl _))
  · split at e <;> cases e
    rename_i x this
    obtain ⟨t, rfl⟩ := rStr r
    rw [big_is] at this
    refine gbOf fun E Q h => P.truthy_str (by omega) ?_
    have e : ((x.length : Int) != 0) = (x.length != 0) := by
      cases x.length <;> rfl
    rw [e]
    exact h _ kTok

theorem isBool_any (k : Bool) {vs : List Value} {bs : List Bool} (q : BoolsA vs bs) : vs.any (fun v => v == .bool k) = bs.contains k := by
  induction q with
  | nil => rfl
  | cons b _ ih =>
    rw [List.any_cons, ih, List.contains_cons]
    cases b <;> cases k <;> rfl
theorem isBool_eq {A : Around} {s : Shared} (k : Bool) {vs : List Value} {bs : List Bool} (q : BoolsA vs bs) (y) (hy : y ∈ vs) : SeqAt.EqAt A s y (.bool k) (y == .bool k) := by
  induction q with
  | nil => exact nomatch hy
  | cons b _ ih =>
    rcases List.mem_cons.mp hy with rfl | hy
    · have := SeqAt.EqAt.bool_bool (A := A) (s := s) b k
      have e : (Value.bool b == Value.bool k) = (b == k) := by cases b <;> cases k <;> rfl
      rw [e]; exact this
    · exact ih hy
theorem mapOf_of {kvs : List (Str × Value)} {ks : List (Str × Str)} (p : RepP kvs ks) : ∀ k, ((valueAt kvs k).isSome = (ks.lookup k).isSome) ∧ ∀ x, ks.lookup k = some x → ∃ t, valueAt kvs k = some (.str x t) := by
  induction p with
  | nil => intro k; exact ⟨rfl, fun x e => by cases e⟩
  | @cons k' x t vs ks p ih =>
    intro k
    unfold valueAt
    rw [List.find?_cons, List.lookup_cons]
    by_cases h : k' = k
    · subst h
      simp only [decide_true, beq_self_eq_true, Option.map_some, Option.isSome_some]
      exact ⟨trivial, fun y e => by cases e; exact ⟨_, rfl⟩⟩
    · have h' : (k == k') = false := beq_eq_false_iff_ne.mpr (Ne.symm h)
      simp only [h, decide_false, h']
      exact ih k

theorem any_beq' (l : List Int) (a : Int) : l.any (fun x => x == a) = l.contains a := by
  induction l with
  | nil => rfl
  | cons b r ih =>
    rw [List.any_cons, List.contains_cons, ih]
    congr 1
    by_cases h : a = b
    · subst h; rfl
    · have h1 : (b == a) = false := beq_eq_false_iff_ne.mpr (Ne.symm h)
      have h2 : (a == b) = false := beq_eq_false_iff_ne.mpr h
      rw [h1, h2]
theorem cmp_ok {op : CmpOp} {a b c : V} {va vb : Value} {A : Around} {s : Shared} (hA : Good 0 A) (e : cmp op a b = some c) (ra : Rep W s.heap ok ow va a) (rb : Rep W s.heap ok ow vb b) : Gv W ok ow A (compareOp op va vb) c s := by
  have hu : A.units + 64 < cLine := by have := hA.units; show A.units + 64 < 9900; omega
  unfold cmp at e
  generalize cmpV op a b = w at e
  induction w <;> try (cases e; done)
  · cases e; obtain ⟨t1, rfl⟩ := rInt ra; obtain ⟨t2, rfl⟩ := rInt rb; exact gvBool eq_int
  · cases e; obtain ⟨t1, rfl⟩ := rInt ra; obtain ⟨t2, rfl⟩ := rInt rb; exact gvBool ne_int
  · cases e; obtain ⟨t1, rfl⟩ := rInt ra; obtain ⟨t2, rfl⟩ := rInt rb; exact gvBool lt_int
  · cases e; obtain ⟨t1, rfl⟩ := rInt ra; obtain ⟨t2, rfl⟩ := rInt rb; exact gvBool le_int
  · cases e; obtain ⟨t1, rfl⟩ := rInt ra; obtain ⟨t2, rfl⟩ := rInt rb; exact gvBool gt_int
  · cases e; obtain ⟨t1, rfl⟩ := rInt ra; obtain ⟨t2, rfl⟩ := rInt rb; exact gvBool ge_int
  · cases e; obtain ⟨t1, rfl⟩ := rStr ra; obtain ⟨t2, rfl⟩ := rStr rb; exact gvBool eq_str
  · cases e; obtain ⟨t1, rfl⟩ := rStr ra; obtain ⟨t2, rfl⟩ := rStr rb; exact gvBool ne_str
  · cases e; cases rBool ra; cases rBool rb; exact gvBool eq_bool
  · cases e; cases rBool ra; cases rBool rb; exact gvBool ne_bool
  · cases e; cases rBool ra; cases rBool rb; exact gvBool lt_bool
  · cases e; cases rBool ra; cases rBool rb; exact gvBool le_bool
  · cases e; cases rBool ra; cases rBool rb; exact gvBool gt_bool
  · cases e; cases rBool ra; cases rBool rb; exact gvBool ge_bool
  · cases e; cases rTyp ra; cases rTyp rb
    refine gvOf fun E Q h => wpAny_is_plain rfl ?_
    rw [type_beq]; exact h _ _ (kRefl _) (.bool _)
  · cases e; cases rTyp ra; cases rTyp rb
    refine gvOf fun E Q h => wpAny_isNot_plain rfl ?_
    rw [type_beq]; exact h _ _ (kRefl _) (.bool _)
  · cases e; obtain ⟨t1, rfl⟩ := rStr ra; cases rNil rb
    exact gvOf fun E Q h => wpAny_isNot_other rfl (by simp) (h _ _ (kRefl _) (.bool _))
  · cases e; cases rNil ra; cases rNil rb
    exact gvOf fun E Q h => wpAny_isNot_self rfl (h _ _ (kRefl _) (.bool _))
  · cases e; obtain ⟨t1, rfl⟩ := rStr ra; obtain ⟨t2, rfl⟩ := rStr rb; exact gvBool SB.contains
  · cases e; obtain ⟨t1, rfl⟩ := rStr ra; obtain ⟨t2, rfl⟩ := rStr rb; exact gvBool SB.notContains
  · cases e
    obtain ⟨t, rfl⟩ := rStr ra
    obtain ⟨d, kvs, rfl, hd, hs, hp⟩ := rDct rb
    refine gvOf fun E Q h => wpAny_in_of (strKind_is _ _ _ t) hs hd.mapOf ?_
    rw [(mapOf_of hp _).1]
    exact h _ _ kTok (.bool _)
  · refine bindE e fun xs ex e' => ?_
    obtain ⟨l, el, rfl⟩ := Option.map_eq_some_iff.mp e'
    obtain ⟨q, vs, rfl, hl, r⟩ := elems_rep rb ex
    obtain ⟨t, rfl⟩ := rInt ra
    refine gvOf fun E Q h => in_list_ints hl (ints_of r el) ?_
    rw [show l.any (fun x => x == _) = l.contains _ from any_beq' ..]
    exact h _ _ (kRefl _) (.bool _)
  · refine bindE e fun xs ex e' => ?_
    obtain ⟨l, el, rfl⟩ := Option.map_eq_some_iff.mp e'
    obtain ⟨q, vs, rfl, hl, r⟩ := elems_rep rb ex
    cases rBool ra
    refine gvOf fun E Q h => SeqAt.in_listAt (fun v => v == .bool _) hl (fun y hy => isBool_eq _ (bools_of r el) y (by simpa using hy)) ?_
    rw [← Array.any_toList, isBool_any _ (bools_of r el)]
    exact h _ _ (kRefl _) (.bool _)
  · refine bindE e fun xs ex e' => ?_
    refine bindE e' fun ys ey e'' => ?_
    obtain ⟨l, el, rfl⟩ := Option.map_eq_some_iff.mp e''
    obtain ⟨q, vs, rfl, hl, r⟩ := elems_rep ra ex
    obtain ⟨q', vs', rfl, hl', r'⟩ := elems_rep rb ey
    obtain ⟨da, db, h1, h2, h3, h4, h5⟩ := eqL_reads hl hl' r r' el
    refine gvOf fun E Q h => eq_dataH h1 h2 h3 h4 hu ?_
    rw [h5]; exact h _ _ (kRefl _) (.bool _)
  · refine bindE e fun xs ex e' => ?_
    refine bindE e' fun ys ey e'' => ?_
    obtain ⟨l, el, rfl⟩ := Option.map_eq_some_iff.mp e''
    obtain ⟨q, vs, rfl, hl, r⟩ := elems_rep ra ex
    obtain ⟨q', vs', rfl, hl', r'⟩ := elems_rep rb ey
    obtain ⟨da, db, h1, h2, h3, h4, h5⟩ := eqL_reads hl hl' r r' el
    refine gvOf fun E Q h => ne_dataH h1 h2 h3 h4 hu ?_
    rw [h5]; exact h _ _ (kRefl _) (.bool _)

theorem un_ok {op : UnaryOp} {a c : V} {va : Value} {A : Around} {s : Shared} (e : un op a = some c) (ra : Rep W s.heap ok ow va a) : Gv W ok ow A (unaryOp op va) c s := by
  unfold un at e
  split at e <;> try (cases e; done)
  · cases e; obtain ⟨t, rfl⟩ := rInt ra; exact gvInt neg_int
  · simp only [Option.map_eq_some_iff] at e
    obtain ⟨b, e, rfl⟩ := e
    intro E Q h
    exact not_of (truth_ok e ra _ _ fun s' k => h _ _ k (.bool _))
end Mine
end
section
namespace Mine
open PySem PySem.Calls PyProof.Rows PySem.W

variable {W : World'} {ok ow : Addr → Prop}

theorem small_lt {k : Int} (h : smallI k = true) : k.natAbs < 2 ^ 62 := by simpa [smallI] using h

theorem item_list {A : Around} {s : Shared} {l : Addr} {vs : List Value} {xs : List V} {k : Int} {t : Tok} {c : V} (hl : s.heap.IsList l vs.toArray) (r : RepL W s.heap ok ow vs xs) (e : (if decide (0 ≤ k) && smallI k then xs[k.toNat]? else none) = some c) :
    Gv W ok ow A (getItem (.ref l) (.int k t)) c s := by
  split at e
  · rename_i h
    simp only [Bool.and_eq_true, decide_eq_true_eq] at h
    obtain ⟨v, hv, rv, _⟩ := r.get e
    have := small_lt h.2
    exact gvOf fun E Q hQ => wpAny_getItem_list hl h.1 (by omega) (by simpa using hv) (hQ _ _ (kRefl _) rv)
  · cases e
theorem sub_list {v sl : Expr} {A : Around} {s : Shared} {l : Addr} {it : Array Value} {i : Value} {c : V} (hl : s.heap.IsList l it) (g : Gv W ok ow A (getItem (.ref l) i) c s)
    (hs : subscripted sl false (.ref l) i = operate [.ref l, i] (getItem (.ref l) i)) : Gv W ok ow A (subscriptTail v sl (.ref l) i) c s := fun E Q h =>
  PyProof.Rows.tail_any (let ⟨o, e, c, _⟩ := hl; ⟨o, e, c⟩) PySem.F.slot_list_getitem.lookup (g E Q h) hs

theorem item_ok {v sl : Expr} {a k c : V} {va vk : Value} {A : Around} {s : Shared} (e : item a k = some c) (ra : Rep W s.heap ok ow va a) (rk : Rep W s.heap ok ow vk k)
    (hs : subscripted sl false va vk = operate [va, vk] (getItem va vk)) : Gv W ok ow A (subscriptTail v sl va vk) c s := by
  unfold item at e
  split at e <;> try (cases e; done)
  · split at e <;> try (cases e; done)
    rename_i hk
    simp only [Option.map_eq_some_iff] at e
    obtain ⟨ch, e, rfl⟩ := e
    obtain ⟨t, rfl⟩ := rStr ra
    obtain ⟨u, rfl⟩ := rInt rk
    refine gvOf fun E Q h => PyProof.Rows.tail_any (typeIs_str _ _ _) PySem.F.slot_str_getitem.lookup (P.getItem_str ?_ e (h _ _ kTok (.str _ _))) hs
    have := small_lt hk
    simp only [Bool.or_eq_false_iff, decide_eq_false_iff_not]
    omega
  · obtain ⟨l, vs, rfl, hl, _, r⟩ := rLst ra
    obtain ⟨u, rfl⟩ := rInt rk
    exact sub_list hl (item_list hl r e) hs
  · obtain ⟨l, vs, rfl, hl, _, r⟩ := rOwn ra
    have hl := hl.isList
    obtain ⟨u, rfl⟩ := rInt rk
    exact sub_list hl (item_list hl r e) hs
  · split at e
    · rename_i h
      simp only [Bool.and_eq_true, decide_eq_true_eq] at h
      obtain ⟨u, rfl⟩ := rInt rk
      obtain ⟨l, vs, rfl, hl, ho, r⟩ := rTup ra
      obtain ⟨v', hv, rv, _⟩ := r.get e
      have := small_lt h.2
      obtain ⟨n, hl⟩ := hl
      have hlt : _ < vs.length := (List.getElem?_eq_some_iff.mp hv).1
      refine gvOf fun E Q hQ => PyProof.Rows.tail_any ⟨_, hl, rfl⟩ PySem.F.slot_tuple_getitem.lookup (P.getItem_tuple hl (by omega) (by omega) (k := (Int.toNat _)) ?_ (by simpa using hv) (hQ _ _ (kRefl _) rv)) hs
      unfold seqIndex?
      have h0 : ¬ (_ : Int) < 0 := Int.not_lt.mpr h.1
      simp only [List.size_toArray, h0, if_false]
      rw [if_pos]
      simp only [Bool.and_eq_true, decide_eq_true_eq]
      exact ⟨h.1, by omega⟩
    · cases e
  · simp only [Option.map_eq_some_iff] at e
    obtain ⟨x, e, rfl⟩ := e
    obtain ⟨d, kvs, rfl, hd, hm, hp⟩ := rDct ra
    obtain ⟨t, rfl⟩ := rStr rk
    obtain ⟨t', ht⟩ := (mapOf_of hp _).2 _ e
    exact gvOf fun E Q h => PyProof.Rows.tail_any hd.typeIs PySem.F.slot_dict_getitem.lookup (wpAny_getItem_of (strKind_is _ _ _ t) hd.mapOf ht (h _ _ kTok (.str _ _))) hs
end Mine
end
section
namespace Mine
open PySem PySem.Calls PyProof.Rows PySem.W

variable {W : World'} {ok ow : Addr → Prop}

theorem bound_ok {h : Heap} {v : Value} {a : V} {x : Option Int} (e : bound a = some x) (r : Rep W h ok ow v a) : ∃ p : Option (Int × Tok), v = partValue p ∧ p.map (·.1) = x := by
  unfold bound at e
  split at e <;> cases e
  · cases rNil r; exact ⟨none, rfl, rfl⟩
  · obtain ⟨t, rfl⟩ := rInt r; exact ⟨some (_, t), rfl, rfl⟩

theorem slice_post {s : Shared} {x : Str} {t : Tok} {l u : Option (Int × Tok)} {Q : Value → Shared → Prop} (hsz : x.length ≤ sizeLine) (h : ∀ t' k, Q (.str (Txt.slice x (l.map (·.1)) (u.map (·.1))) t') { s with toks := k }) :
    (sliceMade x t l u none).post Q s := post_val_or_str ⟨Nat.le_trans (Txt.slice_le x _ _) hsz, fun t' k => h t' k⟩

/-- the tail of a slice -/
theorem cut_ok {v : Expr} {lo hi : Option Expr} {p : Pos} {a l u c : V} {va vl vu : Value} {A : Around} {s : Shared} {sl : Addr} (e : cut a l u = some c) (ra : Rep W s.heap ok ow va a) (rl : Rep W s.heap ok ow vl l) (ru : Rep W s.heap ok ow vu u)
    (hs : s.heap.get? sl = some { cls := .type "slice", data := .fields #[vl, vu, .none] }) : Gv W ok ow A (subscriptTail v (.Slice lo hi none p) va (.ref sl)) c s := by
  unfold cut at e
  split at e
  · simp only [Option.bind_eq_some_iff] at e
    obtain ⟨l', el, u', eu, e⟩ := e
    split at e <;> cases e
    rename_i hx
    obtain ⟨t, rfl⟩ := rStr ra
    obtain ⟨pl, rfl, rfl⟩ := bound_ok el rl
    obtain ⟨pu, rfl, rfl⟩ := bound_ok eu ru
    refine gvOf fun E Q h => PyProof.Rows.tail_any (typeIs_str _ _ _) PySem.F.slot_str_getitem.lookup (wpAny_getItem_str_slice (st := none) ⟨_, hs, rfl, rfl⟩ rfl (slice_post (by rw [sizeLine_is]; rw [big_is] at hx; omega) fun t' k => h _ _ kTok (.str _ _))) rfl
  · cases e

theorem one_sign {x : Str} {c : Nat} (hc : x.cps.toList = [c]) : x.length = 1 ∧ x.cps.getD 0 0 = c := by
  refine ⟨?_, ?_⟩
  · show x.cps.size = 1
    rw [← Array.length_toList, hc]; rfl
  · have h0 : x.cps.toList[0]? = some c := by rw [hc]; rfl
    rw [Array.getElem?_toList] at h0
    rw [Array.getD_eq_getD_getElem?, h0]; rfl
theorem intsA {h : Heap} {vs : List Value} {xs : List V} {ns : List Int} (r : RepL W h ok ow vs xs) (e : intL xs = some ns) : AllInts vs.toArray ∧ numsOf vs = ns := by
  have i := ints_of r e
  exact ⟨i.allInts, i.numsOf⟩

theorem blt_ok {n : String} {as : List V} {c : V} {vs : List Value} {A : Around} {s : Shared} (hA : Good 0 A) (e : blt n as = some c) (r : Reps W s.heap ok ow vs as) : Gv W ok ow A (call (.builtin n) vs) c s := by
  unfold blt at e
  generalize viewL as = w at e
  induction w <;> (try (cases e; done)) <;> (unfold LV.blt at e; dsimp only at e)
  · obtain ⟨_, rfl, r1⟩ := reps1 r
    obtain ⟨t, rfl⟩ := rStr r1
    split at e
    · rename_i hn; subst hn
      split at e <;> cases e
      rename_i hx; rw [big_is] at hx
      exact gvOf fun E Q h => P.len_str (by omega) (h _ _ kTok (.int _ _))
    · split at e <;> try (cases e; done)
      rename_i hn; subst hn
      split at e <;> cases e
      rename_i hc
      have hx := one_sign hc
      refine gvOf fun E Q h => ord_of_one hx.1 ?_
      rw [hx.2]; exact h _ _ kTok (.int _ _)
  · obtain ⟨_, rfl, r1⟩ := reps1 r
    obtain ⟨l, vs, rfl, hl, _, rl⟩ := rLst r1
    split at e
    · rename_i hn; subst hn
      split at e <;> cases e
      rename_i hx; rw [big_is] at hx
      have := rl.len
      refine gvOf fun E Q h => len_list hl (by simp only [List.size_toArray]; omega) ?_
      rw [show ((vs.toArray.size : Nat) : Int) = _ from by rw [List.size_toArray, this]]
      exact h _ _ kTok (.int _ _)
    · split at e <;> try (cases e; done)
      rename_i hn; subst hn
      simp only [Option.map_eq_some_iff] at e
      obtain ⟨ns, e, rfl⟩ := e
      obtain ⟨h1, h2⟩ := intsA rl e
      obtain ⟨xs, hxs⟩ := h1.items
      refine gvOf fun E Q h => sum_intListG hA.handled (hxs ▸ hl) fun h' tk t' hk => ?_
      have : preSum (numAt xs) xs.size = ns.sum := by
        rw [preSum_eq, List.take_of_length_le (by simp), ← nums_intItems, ← hxs]
        show (numsOf vs).sum = _
        rw [h2]
      rw [this]; exact h _ _ (kOf hk) (.int _ _)
  · obtain ⟨_, rfl, r1⟩ := reps1 r
    obtain ⟨l, vs, rfl, hl, _, rl⟩ := rOwn r1
    have hl := hl.isList
    split at e <;> try (cases e; done)
    rename_i hn; subst hn
    split at e <;> cases e
    rename_i hx; rw [big_is] at hx
    have := rl.len
    refine gvOf fun E Q h => len_list hl (by simp only [List.size_toArray]; omega) ?_
    rw [show ((vs.toArray.size : Nat) : Int) = _ from by rw [List.size_toArray, this]]
    exact h _ _ kTok (.int _ _)
  · obtain ⟨_, _, rfl, r1, r2⟩ := reps2 r
    obtain ⟨t, rfl⟩ := rInt r1
    obtain ⟨u, rfl⟩ := rInt r2
    split at e
    · rename_i hn; subst hn
      cases e
      refine gvOf fun E Q h => min_two_ints hA.handled fun h' tk hk => h _ _ (kOf hk) ?_
      split <;> exact .int _ _
    · split at e <;> cases e
      rename_i hn; subst hn
      refine gvOf fun E Q h => max_two_ints hA.handled fun h' tk hk => h _ _ (kOf hk) ?_
      split <;> exact .int _ _
  · obtain ⟨_, rfl, r1⟩ := reps1 r
    obtain ⟨t, rfl⟩ := rInt r1
    split at e <;> try (cases e; done)
    rename_i hn; subst hn
    split at e <;> cases e
    rename_i hx
    exact gvOf fun E Q h => chr_of_range hx.1 hx.2 (h _ _ kTok (.str _ _))

theorem smallR_parts {a b c : Int} (h : smallR a b c = true) : a.natAbs ≤ 2 ^ 30 ∧ b.natAbs ≤ 2 ^ 30 ∧ c.natAbs ≤ 2 ^ 30 ∧ c ≠ 0 := by
  simp only [smallR, Bool.and_eq_true, decide_eq_true_eq, bne_iff_ne] at h
  exact ⟨h.1.1.1, h.1.1.2, h.1.2, h.2⟩
theorem in30 {a : Int} (h : a.natAbs ≤ 2 ^ 30) : -(2 ^ 30 : Int) ≤ a ∧ a ≤ 2 ^ 30 := by
  have h' : (a.natAbs : Int) ≤ 2 ^ 30 := Int.ofNat_le.2 h
  exact ⟨Int.neg_le_of_neg_le (Int.le_trans (by rw [← Int.natAbs_neg]; exact Int.le_natAbs) h'), Int.le_trans Int.le_natAbs h'⟩
theorem gap0 {a b : Int} (h : a < b) : 0 ≤ b - a - 1 := Int.sub_nonneg_of_le (Int.le_sub_left_of_add_le h)
theorem gap1 {a b : Int} (ha : -(2 ^ 30 : Int) ≤ a) (hb : b ≤ 2 ^ 30) : b - a - 1 ≤ 2 ^ 31 := Int.le_trans (Int.sub_le_sub_right (Int.sub_le_sub hb ha) 1) (by decide)
theorem gap2 {a b c : Int} (h : a < b) (ha : -(2 ^ 30 : Int) ≤ a) (hb : b ≤ 2 ^ 30) (hc : 0 ≤ c) : 0 ≤ (b - a - 1) / c + 1 ∧ (b - a - 1) / c + 1 ≤ 2 ^ 31 + 1 :=
  ⟨Int.add_nonneg (Int.ediv_nonneg (gap0 h) hc) (by decide), Int.add_le_add_right (Int.le_trans (Int.ediv_le_self c (gap0 h)) (gap1 ha hb)) 1⟩
theorem size_parts {a b c : Int} (h : smallR a b c = true) : 0 ≤ Builtin.Range.rangeSize a b c ∧ Builtin.Range.rangeSize a b c ≤ 2 ^ 31 + 1 := by
  obtain ⟨h1, h2, h3, h4⟩ := smallR_parts h
  have ha := in30 h1
  have hb := in30 h2
  unfold Builtin.Range.rangeSize
  split
  · rename_i hc
    split
    · exact gap2 (by assumption) ha.1 hb.2 (Int.le_of_lt hc)
    · exact ⟨Int.le_refl 0, by decide⟩
  · rename_i hc
    split
    · exact gap2 (by assumption) hb.1 ha.2 (Int.neg_nonneg_of_nonpos (Int.not_lt.1 hc))
    · exact ⟨Int.le_refl 0, by decide⟩
theorem in63 {a : Int} (h : a.natAbs ≤ 2 ^ 30) : -(2 ^ 63 : Int) ≤ a ∧ a < 2 ^ 63 := ⟨Int.le_trans (by decide) (in30 h).1, Int.lt_of_le_of_lt (in30 h).2 (by decide)⟩
theorem small_of {a b c : Int} (h : smallR a b c = true) : Builtin.Range.small a b c = true := by
  obtain ⟨h1, h2, h3, h4⟩ := smallR_parts h
  have hr := size_parts h
  have hb := in30 h2
  have hc := in30 h3
  unfold Builtin.Range.small Builtin.Range.rangeFitsLong
  simp only [Bool.and_eq_true, decide_eq_true_eq, Bool.or_eq_true]
  refine ⟨⟨⟨⟨in63 h1, in63 h2⟩, in63 h3⟩, ⟨Int.le_trans (by decide) hr.1, Int.lt_of_le_of_lt hr.2 (by decide)⟩⟩, .inr ?_⟩
  split <;> simp only [Bool.and_eq_true, decide_eq_true_eq]
  · exact ⟨Int.le_trans (by decide) (Int.add_le_add hb.1 (Int.sub_le_sub_right hc.1 1)), Int.lt_of_le_of_lt (Int.add_le_add hb.2 (Int.sub_le_sub_right hc.2 1)) (by decide)⟩
  · exact ⟨Int.le_trans (by decide) (Int.add_le_add hb.1 (Int.add_le_add_right hc.1 1)), Int.lt_of_le_of_lt (Int.add_le_add hb.2 (Int.add_le_add_right hc.2 1)) (by decide)⟩
theorem size_rngLen {a b c : Int} (h : smallR a b c = true) : Builtin.Range.rangeSize a b c = (rngLen a b c : Nat) := by
  have := size_parts h
  unfold rngLen
  omega

theorem rng_list {h : Heap} {a c : Int} : ∀ (acc : List Value) (k n : Nat), acc.length = n → (∀ j v, acc[j]? = some v → ∃ t, v = Value.int (a + ((k + j : Nat) : Int) * c) t) →
    RepL W h ok ow acc ((List.range' k n).map fun (i : Nat) => V.int (a + (i : Int) * c))
  | [], k, n, hl, _ => by cases hl; exact .nil
  | v :: r, k, n, hl, hv => by
    cases n with
    | zero => cases hl
    | succ n =>
      rw [List.range'_succ, List.map_cons]
      obtain ⟨t, ht⟩ := hv 0 v rfl
      subst ht
      refine .cons (.int _ _) rfl (rng_list r (k + 1) n (by simpa using hl) fun j v hj => ?_)
      obtain ⟨t, ht⟩ := hv (j + 1) v (by simpa using hj)
      exact ⟨t, by rw [ht]; congr 3; omega⟩

theorem mkT_ok {n : String} {as : List V} {c : V} {vs : List Value} {A : Around} {s : Shared} (hA : Good 0 A) (f : Fresh ok s.heap) (e : mkT n as = some c) (r : Reps W s.heap ok ow vs as) : Gv W ok ow A (call (.type n) vs) c s := by
  unfold mkT at e
  generalize viewL as = w at e
  induction w <;> (try (cases e; done)) <;> (unfold LV.mkT at e; dsimp only at e)
  · obtain ⟨_, rfl, r1⟩ := reps1 r
    obtain ⟨t, rfl⟩ := rStr r1
    split at e <;> cases e
    rename_i hn; subst hn
    exact gvOf fun E Q h => call_type_of (typeIs_str _ _ _) (by decide) (h _ _ (kRefl _) (.typ _))
  · obtain ⟨_, _, rfl, r1, r2⟩ := reps2 r
    obtain ⟨t, rfl⟩ := rInt r1
    obtain ⟨u, rfl⟩ := rInt r2
    split at e <;> try (cases e; done)
    rename_i hn; subst hn
    split at e <;> cases e
    rename_i hx
    exact gvOf fun E Q h => call_range_2 (h _ _ (kOf (Kp.push _ _)) (.rng (Heap.get?_push_size _ rfl) f.size hx))
  · obtain ⟨_, rfl, r1⟩ := reps1 r
    obtain ⟨t, rfl⟩ := rInt r1
    split at e
    · rename_i hn; subst hn
      split at e <;> cases e
      rename_i hx
      exact gvOf fun E Q h => call_range_1 (h _ _ (kOf (Kp.push _ _)) (.rng (Heap.get?_push_size _ rfl) f.size hx))
    · split at e <;> cases e
      rename_i hn; subst hn
      exact gvOf fun E Q h => call_type_of (typeIs_int _ _ _) (by decide) (h _ _ (kRefl _) (.typ _))
  · obtain ⟨_, _, _, rfl, r1, r2, r3⟩ := reps3 r
    obtain ⟨t, rfl⟩ := rInt r1
    obtain ⟨u, rfl⟩ := rInt r2
    obtain ⟨v, rfl⟩ := rInt r3
    split at e <;> try (cases e; done)
    rename_i hn; subst hn
    split at e <;> cases e
    rename_i hx
    have hp := smallR_parts hx
    exact gvOf fun E Q h => call_range_3 hp.2.2.2 (h _ _ (kOf (Kp.push _ _)) (.rng (Heap.get?_push_size _ rfl) f.size hx)) (.inl (small_div (by simp only [smallI, decide_eq_true_eq]; omega)))
  · obtain ⟨_, rfl, r1⟩ := reps1 r
    obtain ⟨l, t, u, v, rfl, oo, hx, hr⟩ := rRng r1
    have hx' := hr
    split at e <;> try (cases e; done)
    rename_i hn; subst hn
    split at e <;> cases e
    rename_i hb; rw [big_is] at hb
    refine gvOf fun E Q h => call_list_range hA.handled (by assumption) (small_of (by assumption)) (size_rngLen (by assumption)) (by omega) fun h' tk acc' c' hk hg hi => ?_
    refine h _ _ (kOf hk) (.lst (vs := acc'.toList) ⟨_, hg, rfl, _, rfl⟩ f.size ?_)
    have := rng_list (W := W) (ok := ok) (ow := ow) (h := h') acc'.toList 0 _ (by rw [Array.length_toList]) fun j v hj => by
      obtain ⟨t, ht⟩ := hi.2 j v (by simpa using hj)
      exact ⟨t, by rw [ht]; congr 3; omega⟩
    rw [← List.range_eq_range', hi.1] at this
    exact this
  · obtain ⟨_, rfl, r1⟩ := reps1 r
    cases rBool r1
    split at e <;> cases e
    rename_i hn; subst hn
    exact gvOf fun E Q h => call_type_of (PyProof.Rows.typeIs_bool _ _) (by decide) (h _ _ (kRefl _) (.typ _))
end Mine
end
section
namespace Mine
open PySem PySem.Calls PyProof.Rows PySem.W

variable {W : World'} {ok ow : Addr → Prop}

structure EnvOk (X : Cx) (env : Env) : Prop where
  kind : env.scope.kind = .function
  kinds : ∀ x, env.kindOf x = X.K x
  glob : env.globals = mainGlobals
  blts : env.builtins = builtinsNs
  cells : ∀ x, X.K x = some .cell → ∃ c, env.cells.lookup x = some c
/-- the globals that a state bears -/
structure Stt (W : World') (mg mb : Str → Option Value) (s : Shared) : Prop where
  g : s.heap.Ns mainGlobals mg
  b : s.heap.Ns builtinsNs mb
  lim : s.heap.NoLimit
  tok : 0 < s.toks
  fns : ∀ n a, W.fa n = some a → ∃ o pm code doc d, s.heap.get? a = some o ∧ o.data = .func (DefRec.data d pm (.ref code) doc) ∧ s.heap.CodeRec (.ref code) d.name ∧ recOf n = some d
  b1 : ∃ S k, s.heap.SetOf (intKind W.prog W.w) W.b1a S k ∧ ∀ c : Nat, S c = b1.contains c
  b3 : ∃ f, s.heap.MapOf (intKind W.prog W.w) W.b3a f ∧ ∀ c : Int, (∀ x, b3.lookup c = some x → ∃ t, f c = some (.str x t)) ∧ (b3.lookup c = none → f c = none)
  gb1 : mg "b1_set" = some (.ref W.b1a)
  gb3 : mg "b3_exceptions" = some (.ref W.b3a)
  b3s : (W.b3a == sysModules) = false
theorem Stt.upH {mg mb : Str → Option Value} {s s' : Shared} (x : Stt W mg mb s) (k : Kp s.heap s'.heap) (t : s.toks ≤ s'.toks) : Stt W mg mb s' where
  g := x.g.keeps k
  b := x.b.keeps k
  lim := x.lim.keeps k
  tok := Nat.lt_of_lt_of_le x.tok t
  fns := fun n a e => by
    obtain ⟨o, pm, code, doc, d, h, q, c, r⟩ := x.fns n a e
    exact ⟨o, pm, code, doc, d, k _ _ h, q, c.keeps k, r⟩
  b1 := by
    obtain ⟨S, n, ⟨o, es, ep, t, ho, r⟩, q⟩ := x.b1
    exact ⟨S, n, ⟨o, es, ep, t, k _ _ ho, r⟩, q⟩
  b3 := by
    obtain ⟨f, ⟨o, es, ep, ho, r⟩, q⟩ := x.b3
    exact ⟨f, ⟨o, es, ep, k _ _ ho, r⟩, q⟩
  gb1 := x.gb1
  gb3 := x.gb3
  b3s := x.b3s
theorem Stt.up {mg mb : Str → Option Value} {s s' : Shared} (x : Stt W mg mb s) (k : Kx s s') : Stt W mg mb s' := x.upH k.kp k.toks
noncomputable def GOk (W : World') (mg mb : Str → Option Value) (X : Cx) : Prop := ∀ x a, X.G x = some a → ∃ v, (mg x = some v ∨ (mg x = none ∧ mb x = some v)) ∧ ∀ h ok ow, Rep W h ok ow v a
noncomputable def Vars (W : World') (X : Cx) (env : Env) (ok ow : Addr → Prop) (σ : Sg) (h : Heap) : Prop :=
  ∃ m, h.Ns env.locals m ∧ ∀ x a, σ x = some a → ∃ v, Rep W h ok ow v a ∧ ((X.K x = some .local ∧ m x = some v) ∨ (X.K x = some .cell ∧ ∃ c, env.cells.lookup x = some c ∧ h.IsCell c (some v)))
theorem Vars.up {X : Cx} {env : Env} {σ : Sg} {h h' : Heap} (v : Vars W X env ok ow σ h) (k : Kp h h') : Vars W X env ok ow σ h' := by
  obtain ⟨m, hn, hv⟩ := v
  refine ⟨m, hn.keeps k, fun x a e => ?_⟩
  obtain ⟨v, r, q⟩ := hv x a e
  exact ⟨v, r.up k, q.imp id fun ⟨kc, c, hc, hi⟩ => ⟨kc, c, hc, hi.keeps k⟩⟩
/-- calls of the text's defs -/
noncomputable def COk (W : World') (mg mb : Str → Option Value) (C : Str → List V → Option V) (k : Nat) : Prop :=
  ∀ n as r, C n as = some r → ∀ vs a A s ok ow, Good k A → Stt W mg mb s → Fresh ok s.heap → Reps W s.heap ok ow vs as → W.fa n = some a →
    ∀ (E : Value → Shared → Prop) (Q : Value → Shared → Prop), (∀ v s', Kx s s' → ((flatRes r = true ∨ as.all (fun a => !a.isOwn) = true) → Rep W s'.heap ok ow v r.lend) → Q v s') → wpAny (model W.prog W.w) A (call (.ref a) vs) Q E s

structure Cc (W : World') (mg mb : Str → Option Value) (X : Cx) (k : Nat) (env : Env) (A : Around) (ok ow : Addr → Prop) (σ : Sg) (s : Shared) : Prop where
  good : Good k A
  en : EnvOk X env
  g : GOk W mg mb X
  c : COk W mg mb X.C k
  st : Stt W mg mb s
  fresh : Fresh ok s.heap
  vars : Vars W X env ok ow σ s.heap
variable {mg mb : Str → Option Value} {X : Cx} {k : Nat} {env : Env} {A : Around} {σ : Sg} {s s' : Shared}
theorem Cc.up (c : Cc W mg mb X k env A ok ow σ s) (k' : Kx s s') : Cc W mg mb X k env A ok ow σ s' :=
  ⟨c.good, c.en, c.g, c.c, c.st.up k', c.fresh.up k'.kp, c.vars.up k'.kp⟩
theorem Good.zero {k : Nat} (g : Good k A) : Good 0 A := ⟨g.handled, by have := g.depth; omega, by have := g.units; omega⟩

/-! names -/
theorem load_ok {x : Str} {a : V} (c : Cc W mg mb X k env A ok ow σ s) (e : (if X.K x = some .globalImplicit then X.G x else σ x) = some a) : Gv W ok ow A (loadName env x) a s := by
  refine gvOf fun E Q h => ?_
  split at e
  · rename_i hk
    obtain ⟨v, hv, r⟩ := c.g x a e
    have hx : env.kindOf x = some .globalImplicit := (c.en.kinds x).trans hk
    unfold loadName
    simp only [Env.blockKind, c.en.kind, hx, ScopeKind.isAnnotationScope, Bool.false_and, Bool.false_eq_true, if_false]
    have hg : s.heap.Ns env.globals mg := c.en.glob ▸ c.st.g
    have hb : s.heap.Ns env.builtins mb := c.en.blts ▸ c.st.b
    rcases hv with hv | ⟨hn, hv⟩
    · exact loadGlobal_global hg hv (h _ _ (kRefl _) (r _ _ _))
    · exact loadGlobal_builtin hg hn hb hv (h _ _ (kRefl _) (r _ _ _))
  · obtain ⟨m, hn, hv⟩ := c.vars
    obtain ⟨v, r, q⟩ := hv x a e
    rcases q with ⟨hk, hm⟩ | ⟨hk, cl, hc, hi⟩
    · exact wpAny_loadName_local c.en.kind ((c.en.kinds x).trans hk) hn hm (h _ _ (kRefl _) r)
    · exact wpAny_loadName_cell c.en.kind ((c.en.kinds x).trans hk) hc hi (h _ _ (kRefl _) r)
theorem name_ok {x : Str} {a : V} {p : Pos} (c : Cc W mg mb X k env A ok ow σ s) (hp : plainName x = true) (e : (if X.K x = some .globalImplicit then X.G x else σ x) = some a) : Gv W ok ow A (eval (.Name x p) env) a s := fun E Q h =>
  wpAny_Name (load_ok c e E Q h) (by simpa [plainName] using hp)

/-! arguments -/
noncomputable def noStar : List Expr → Bool
  | [] => true
  | .Starred _ _ :: _ => false
  | _ :: r => noStar r
theorem star_each {es : List Expr} (h : noStar es = true) : starEach es env = es.map fun e => (false, eval e env) := by
  induction es with
  | nil => rfl
  | cons e r ih => cases e <;> first | (cases h; done) | exact congrArg ((false, _) :: ·) (ih h)
theorem back_each (p : Pos) (es : List Expr) : backTo p (es.map fun e => (false, eval e env)) = es.map fun e => (false, eval e env) := by
  unfold backTo
  rw [List.map_map]
  apply List.map_congr_left
  intro e _
  rfl
theorem plain_each (es : List Expr) : ((es.map fun e => ((false, eval e env) : Bool × Sem Value)).any (·.1)) = false := by
  induction es with
  | nil => rfl
  | cons e r ih => rw [List.map_cons, List.any_cons, ih]; rfl
theorem all_each (es : List Expr) : ((es.map fun e => ((false, eval e env) : Bool × Sem Value)).all fun x => !x.1) = true := by
  induction es with
  | nil => rfl
  | cons e r ih => rw [List.map_cons, List.all_cons, ih]; rfl
/-- the arguments, one after the other -/
noncomputable def Ga (W : World') (ok ow : Addr → Prop) (A : Around) (es : List Expr) (env : Env) (as : List V) (s : Shared) : Prop :=
  ∀ (E : Value → Shared → Prop) (Q : List Value → Shared → Prop), (∀ vs s', Kx s s' → Reps W s'.heap ok ow vs as → Q vs s') → wpAny (model W.prog W.w) A (spliced (es.map fun e => (false, eval e env))) Q E s

theorem args_ok {f : Value} {e : Expr} {es : List Expr} {as : List V} (g : Ga W ok ow A (e :: es) env as s) (E : Value → Shared → Prop) (Q : Args → Shared → Prop) (h : ∀ vs s', Kx s s' → Reps W s'.heap ok ow vs as → Q ⟨vs, []⟩ s') :
    wpAny (model W.prog W.w) A (evalArgs f true ((e :: es).map fun e => (false, eval e env)) []) Q E s := by
  rw [List.map_cons]
  exact Calls.evalArgs_plain (g E _ h)

theorem app_ok {fv r : V} {v : Value} {p : Pos} {e : Expr} {es : List Expr} {as : List V} (c : Cc W mg mb X k env A ok ow σ s) (rv : Rep W s.heap ok ow v fv) (ha : app X fv as = some r) (g : Ga W ok ow A (e :: es) env as s) :
    Gv W ok ow A (callWith p v [] ((e :: es).map fun e => (false, eval e env)) []) r s := by
  intro E Q h
  unfold app at ha
  split at ha <;> try (cases ha; done)
  · rename_i n
    obtain ⟨a, rfl, hn⟩ := rFn rv
    obtain ⟨o, pm, code, doc, d, ho, hd, _⟩ := c.st.fns n a hn
    refine callWith_function (o := o) (fd := DefRec.data d pm (.ref code) doc) (args_ok g E _ fun vs s₁ k₁ r₁ => ⟨⟨k₁.kp _ _ ho, hd⟩, ?_⟩)
    have c₁ := c.up k₁
    simp only [guardOwn, Option.bind_eq_some_iff] at ha
    obtain ⟨q, hq, ha⟩ := ha
    split at ha <;> cases ha
    rename_i hcond
    rw [List.nil_append]
    exact c₁.c n as q hq vs a A s₁ ok ow c₁.good c₁.st c₁.fresh r₁ hn E Q fun v s₂ k₂ r₂ => h v s₂ (k₁.trans k₂) (r₂ (by simpa using hcond))
  · cases rBlt rv
    refine Calls.callWith_builtin (plain_each _) (args_ok g E _ fun vs s₁ k₁ r₁ => ?_)
    rw [List.nil_append]
    exact blt_ok c.good.zero ha r₁ E Q fun v s₂ k₂ r₂ => h v s₂ (k₁.trans k₂) r₂
  · cases rTyp rv
    refine PyProof.Rows.callWith_type (plain_each _) (args_ok g E _ fun vs s₁ k₁ r₁ => ?_)
    rw [List.nil_append]
    exact mkT_ok c.good.zero (c.up k₁).fresh ha r₁ E Q fun v s₂ k₂ r₂ => h v s₂ (k₁.trans k₂) r₂

/-! methods of a text -/
theorem base_ok {o : Expr} {m : Str} (h : baseOk o = true) : attributeBase o m env (eval o env) = eval o env := by
  unfold baseOk at h
  generalize view o = w at h
  induction w <;> first | rfl | exact Bool.noConfusion h
theorem few_ok {p : Pos} {es : List Expr} (hs : noStar es = true) (hl : es.length ≤ 2) : ((backTo p (starEach es env)).all (fun x => !x.1) && (backToKw p (keywordEach [] env)).all (fun x => x.1.isSome)
      && decide (es.length + ([] : List Keyword).length + (if ([] : List Keyword).isEmpty then 0 else 1) < 30)) = true := by
  rw [star_each hs, back_each, all_each]
  simp only [Bool.true_and, Bool.and_eq_true, decide_eq_true_eq]
  exact ⟨rfl, by simp; omega⟩

theorem joinOk_small {x : Str} {l : List Str} (h : (l.map (fun y => y.length + x.length)).sum ≤ big) : JoinOk x l = true := by
  refine joinOk_of ?_
  have : (l.map (fun y => y.length + x.length)).sum = (l.map (·.length)).sum + l.length * x.length := by
    clear h
    induction l with
    | nil => simp
    | cons a r ih => simp only [List.map_cons, List.sum_cons, List.length_cons, ih, Nat.succ_mul]; omega
  rw [big_is] at h
  omega

theorem lower_ok {o : Expr} {ap p : Pos} {x : Str} (c : Cc W mg mb X k env A ok ow σ s) (hb : baseOk o = true) (hl : (ap.endLine == p.line) = true) (hsz : (Txt.lower x).length ≤ big) (g : Gv W ok ow A (eval o env) (.str x) s) :
    Gv W ok ow A (eval (.Call (.Attribute o "lower" ap) [] [] p) env) (.str (Txt.lower x)) s := by
  intro E Q h
  refine Call_method0 (base_ok hb) hl (g E _ fun v s₁ k₁ r₁ => ?_)
  obtain ⟨t, rfl⟩ := rStr r₁
  refine SB.lower ?_ (h _ _ (k₁.trans ⟨kTok, Nat.le_succ _⟩) (.str _ _))
  rw [big_is] at hsz
  unfold Builtin.Str.tooLong
  rw [decide_eq_false_iff_not, sizeLine_is]; omega

theorem join_ok {o e : Expr} {ap p : Pos} {x : Str} {xs : List V} {l : List Str} (c : Cc W mg mb X k env A ok ow σ s) (hb : baseOk o = true) (hl : (ap.endLine == p.line) = true) (hn : noStar [e] = true) (hx : strL xs = some l) (hsz : (l.map (fun y => y.length + x.length)).sum ≤ big)
    (g : Gv W ok ow A (eval o env) (.str x) s) (g' : ∀ s₁, Kx s s₁ → Gv W ok ow A (eval e env) (.lst xs) s₁) :
    Gv W ok ow A (eval (.Call (.Attribute o "join" ap) [e] [] p) env) (.str (Txt.join x l)) s := by
  refine gvOf fun E Q h => ?_
  refine Call_method1 (base_ok hb) (star_each hn) hl (g E _ fun v s₁ k₁ r₁ => ?_)
  obtain ⟨t, rfl⟩ := rStr r₁
  refine SB.join (g' s₁ k₁ E _ fun v s₂ k₂ r₂ => ?_)
  obtain ⟨D, vs, rfl, hl, _, rl⟩ := rLst r₂
  obtain ⟨ps, rfl, hp⟩ := strs_of rl hx
  exact ⟨D, ps, rfl, hl, l, hp, joinOk_small hsz, fun t' tk => h _ _ (kTrans (k₁.trans k₂).keeps kTok) (.str _ _)⟩

theorem replace_ok {o : Expr} {ap p p1 p2 : Pos} {k1 k2 : Nat} {x a b : Str} (c : Cc W mg mb X k env A ok ow σ s) (hb : baseOk o = true) (hl : (ap.endLine == p.line) = true) (hne : (a == b) = false) (hx : x.length ≤ 64) (hz : b.length ≤ 16)
    (g : Gv W ok ow A (eval o env) (.str x) s) :
    Gv W ok ow A (eval (.Call (.Attribute o "replace" ap) [.Constant (.str a) k1 p1, .Constant (.str b) k2 p2] [] p) env) (.str (Txt.replace x a b)) s := by
  refine gvOf fun E Q h => ?_
  refine wpAny_Call_method (T := "str") (id := "str.replace") (base_ok hb) (few_ok rfl (by simp)) hl PySem.F.plainAttrs_str PySem.F.slot_str_replace PySem.F.type_str_replace (g E _ fun v s₁ k₁ r₁ => ?_)
  obtain ⟨t, rfl⟩ := rStr r₁
  refine ⟨typeIs_str _ _ _, (fun _ e => nomatch e), ?_⟩
  rw [star_each rfl, back_each]
  refine Calls.callWith_builtin rfl ?_
  have c₁ := c.up k₁
  refine Calls.evalArgs_plain (Calls.spliced_cons ?_)
  refine Calls.Constant_str (k := k1) (pos := p1) ?_
  refine Calls.spliced_cons ?_
  refine Calls.Constant_str (k := k2) (pos := p2) ?_
  refine Calls.spliced_nil ?_
  have ht := c₁.st.tok
  have h1 : (x.length + 1) * b.length ≤ 65 * 16 := Nat.mul_le_mul (by omega) hz
  refine SC.replace (u := s₁.toks) (v := s₁.toks + 1) (Nat.ne_of_gt ht) (Nat.succ_ne_zero _) (Nat.ne_of_lt (Nat.lt_succ_self _)) hne (by omega) fun t' tk => h _ _ (kTrans k₁.keeps kTok) (.str _ _)
end Mine
end
section
namespace Mine
open PySem PySem.Calls PyProof.Rows PySem.W

variable {W : World'} {ok ow : Addr → Prop}
variable {mg mb : Str → Option Value} {X : Cx} {k : Nat} {env : Env} {A : Around} {σ : Sg} {s s' : Shared}

theorem Stt.up' {s s' : Shared} (x : Stt W mg mb s) (k : Kp s.heap s'.heap) (t : s.toks ≤ s'.toks) : Stt W mg mb s' := x.upH k t

/-- a plain value, told by itself -/
noncomputable def valOf : Value → Option V
  | .int i _ => some (.int i)
  | .bool b => some (.bool b)
  | .str x _ => some (.str x)
  | _ => none
theorem valOf_rep {h : Heap} {v : Value} {a : V} (r : Rep W h ok ow v a) (sc : a.scalar = true) : valOf v = some a := by
  cases r <;> first | rfl | cases sc
theorem rep_valOf {h : Heap} {v : Value} {a : V} (e : valOf v = some a) : Rep W h ok ow v a ∧ a.isOwn = false := by
  cases v <;> simp only [valOf] at e <;> first | (cases e; done) | (cases e; exact ⟨by constructor, rfl⟩)

/-! the cells that a comprehension closes over -/
theorem closure_loop (env : Env) : ∀ (ns : List (Str × NameKind)) (cs : List (Str × Addr)), (∀ p ∈ ns, p.2 = .free → ∃ c, env.cells.lookup p.1 = some c) → (∀ y c, cs.lookup y = some c → env.cells.lookup y = some c) →
    ∃ cl, (forIn ns cs fun (p : Str × NameKind) (r : List (Str × Addr)) => (do
      if p.2 == .free then do let a ← cellOf env p.1; pure (ForInStep.yield ((p.1, a) :: r))
      else pure (ForInStep.yield r) : Sem (ForInStep (List (Str × Addr))))) = pure cl ∧ (∀ y c, cl.lookup y = some c → env.cells.lookup y = some c) ∧ (∀ y, (cs.lookup y).isSome = true → (cl.lookup y).isSome = true) ∧ ∀ y, (y, .free) ∈ ns → (cl.lookup y).isSome = true
  | [], cs, _, hc => ⟨cs, rfl, hc, fun _ h => h, by simp⟩
  | p :: ns, cs, hn, hc => by
    by_cases hp : p.2 = .free
    · obtain ⟨c, e⟩ := hn p (by simp) hp
      obtain ⟨cl, e1, h1, h2, h3⟩ := closure_loop env ns ((p.1, c) :: cs) (fun q hq => hn q (by simp [hq])) (fun y d hd => by
        rw [List.lookup_cons] at hd
        cases hy : y == p.1 with
        | true => rw [hy] at hd; cases hd; rw [beq_iff_eq] at hy; subst hy; exact e
        | false => rw [hy] at hd; exact hc y d hd)
      refine ⟨cl, ?_, h1, fun y hy => h2 y (by rw [List.lookup_cons]; split <;> simp_all), fun y hy => ?_⟩
      · rw [List.forIn_cons]
        have hb : (p.2 == NameKind.free) = true := by rw [hp]; rfl
        simp only [hb, if_true, cellOf, e]
        exact e1
      · rcases List.mem_cons.mp hy with e' | hm
        · refine h2 y ?_
          rw [← e', List.lookup_cons]; simp
        · exact h3 y hm
    · obtain ⟨cl, e1, h1, h2, h3⟩ := closure_loop env ns cs (fun q hq => hn q (by simp [hq])) hc
      refine ⟨cl, ?_, h1, h2, fun y hy => ?_⟩
      · rw [List.forIn_cons]
        have hb : (p.2 == NameKind.free) = false := by rw [beq_eq_false_iff_ne]; exact hp
        simp only [hb, Bool.false_eq_true, if_false]
        exact e1
      · rcases List.mem_cons.mp hy with e' | hm
        · rw [← e'] at hp; exact absurd rfl hp
        · exact h3 y hm
theorem closure_of (sc : Scope) (env : Env) (h : ∀ p ∈ sc.names, p.2 = .free → ∃ c, env.cells.lookup p.1 = some c) :
    ∃ cl, closureFor sc env = pure cl ∧ ∀ y, (y, .free) ∈ sc.names → cl.lookup y = env.cells.lookup y := by
  obtain ⟨cl, e, h1, _, h3⟩ := closure_loop env sc.names [] h (by simp)
  refine ⟨cl, ?_, fun y hy => ?_⟩
  · unfold closureFor
    rw [← bind_pure (pure cl : Sem _), ← e]
  · have := h3 y hy
    obtain ⟨c, hc⟩ := Option.isSome_iff_exists.mp this
    rw [hc, h1 y c hc]

/-! the kinds in the scope of a comprehension -/
theorem kinds_relabel (sc : Scope) (cl : List (Str × Addr)) (C : Addr) (he : EnvOk X env) (y : Str) : (compEnvC sc cl C env).kindOf y = (relK X.K sc.names).lookup y := by
  have : (relabel sc env).names = relK X.K sc.names := by
    unfold relabel relK
    apply List.map_congr_left
    rintro ⟨n, kd⟩ _
    simp only [he.kind, he.kinds n]
    simp
  show (relabel sc env).names.lookup y = _
  rw [this]
noncomputable def relP (K : Str → Option NameKind) (p : Str × NameKind) : Str × NameKind := if (p.2 == .free && K p.1 == some .cell) then (p.1, .cell) else p
theorem relK_eq (K : Str → Option NameKind) (ns : List (Str × NameKind)) : relK K ns = ns.map (relP K) := rfl
theorem relP_fst (K : Str → Option NameKind) (p : Str × NameKind) : (relP K p).1 = p.1 := by unfold relP; split <;> rfl
theorem lookup_relK {K : Str → Option NameKind} {x : Str} : ∀ {ns : List (Str × NameKind)}, (relK K ns).lookup x = (ns.lookup x).map fun kd => (relP K (x, kd)).2
  | [] => rfl
  | (n, kd) :: r => by
    have ih := @lookup_relK K x r
    rw [relK_eq] at ih ⊢
    rw [List.map_cons]
    have e : relP K (n, kd) = (n, (relP K (n, kd)).2) := by
      have := relP_fst K (n, kd)
      exact Prod.ext this rfl
    rw [e, List.lookup_cons, List.lookup_cons]
    cases hx : x == n with
    | true =>
      have : x = n := by simpa using hx
      subst this; rfl
    | false => exact ih
theorem lookup_mem {x : Str} {kd : NameKind} : ∀ {ns : List (Str × NameKind)}, ns.lookup x = some kd → (x, kd) ∈ ns
  | [], h => by simp at h
  | (n, k') :: r, h => by
    cases hx : x == n with
    | true =>
      simp only [List.lookup_cons, hx] at h
      cases h
      have : x = n := by simpa using hx
      subst this; simp
    | false =>
      simp only [List.lookup_cons, hx] at h
      exact List.mem_cons_of_mem _ (lookup_mem h)
theorem relK_local {K : Str → Option NameKind} {x : Str} {ns : List (Str × NameKind)} (h : ns.lookup x = some .local) : (relK K ns).lookup x = some .local := by
  rw [lookup_relK, h]; rfl
theorem relK_free {K : Str → Option NameKind} {x : Str} (hk : K x = some .cell) {ns : List (Str × NameKind)} (h : ns.lookup x = some .free) : (relK K ns).lookup x = some .cell := by
  rw [lookup_relK, h]
  simp [relP, hk]
theorem relK_cell {K : Str → Option NameKind} {x : Str} {ns : List (Str × NameKind)} (hc : ∀ p ∈ ns, p.2 ≠ .cell) (h : (relK K ns).lookup x = some .cell) : (x, .free) ∈ ns ∧ K x = some .cell := by
  rw [lookup_relK] at h
  obtain ⟨kd, e, h⟩ := Option.map_eq_some_iff.mp h
  have hm := lookup_mem e
  unfold relP at h
  split at h
  · rename_i hk
    simp only [Bool.and_eq_true, beq_iff_eq] at hk
    obtain ⟨rfl, hk⟩ := hk
    exact ⟨hm, hk⟩
  · exact absurd h (hc _ hm)

structure CompOk (X : Cx) (x : Str) (sc : Scope) : Prop where
  kind : sc.kind = .function
  cell : ∀ p ∈ sc.names, p.2 ≠ .cell
  free : ∀ p ∈ sc.names, p.2 = .free → X.K p.1 = some .cell
  locs : ∀ p ∈ sc.names, p.2 = .local → sc.names.lookup p.1 = some .local
  x : sc.names.lookup x = some .local
theorem compOk_is {x : Str} {sc : Scope} (h : compOk X x sc = true) : CompOk X x sc := by
  unfold compOk at h
  simp only [Bool.and_eq_true, List.all_eq_true, beq_iff_eq, Bool.or_eq_true, bne_iff_ne] at h
  obtain ⟨⟨h1, h2⟩, h3⟩ := h
  exact ⟨h1, fun p hp => (h2 p hp).1.1, fun p hp e => (h2 p hp).1.2.resolve_left fun f => f e, fun p hp e => (h2 p hp).2.resolve_left fun f => f e, h3⟩

/-- the scope of a comprehension is one that the executor's is told of -/
theorem comp_cc {x : Str} {sc : Scope} {cl : List (Str × Addr)} {C : Addr} {m : Str → Option Value} {v : Value} {a : V} (c : Cc W mg mb X k env A ok ow σ s) (hc : CompOk X x sc) (hcl : ∀ y, (y, .free) ∈ sc.names → cl.lookup y = env.cells.lookup y)
    (kp : Kp s.heap s'.heap) (tk : s.toks ≤ s'.toks) (hn : s'.heap.Ns C m) (hm : m x = some v) (hr : Rep W s'.heap ok ow v a) : Cc W mg mb (compCx X sc) k (compEnvC sc cl C env) A ok ow (compSg σ x sc a) s' := by
  refine ⟨c.good, ⟨?_, fun y => kinds_relabel sc cl C c.en y, c.en.glob, c.en.blts, fun y hy => ?_⟩, c.g, c.c, c.st.up' kp tk, c.fresh.up kp, ?_⟩
  · exact hc.kind
  · obtain ⟨h1, h2⟩ := relK_cell hc.cell hy
    obtain ⟨d, hd⟩ := c.en.cells y h2
    exact ⟨d, (hcl y h1).trans hd⟩
  · refine ⟨m, hn, fun y b hb => ?_⟩
    unfold compSg at hb
    split at hb
    · rename_i e
      subst e
      cases hb
      exact ⟨v, hr, .inl ⟨relK_local hc.x, hm⟩⟩
    · split at hb
      · rename_i hf
        obtain ⟨_, _, hv⟩ := c.vars
        obtain ⟨u, ru, q⟩ := hv y b hb
        have hk := hc.free _ (lookup_mem hf) rfl
        rcases q with ⟨hl, _⟩ | ⟨_, d, hd, hi⟩
        · exact absurd (hl.symm.trans hk) (by decide)
        · exact ⟨u, ru.up kp, .inr ⟨relK_free hk hf, d, (hcl y (lookup_mem hf)).trans hd, hi.keeps kp⟩⟩
      · cases hb

/-! what a comprehension gives -/
theorem comp_list {test : V → Option Bool} {elt : V → Option V} {p : Value → Bool} {F : Value → Value → Prop} (hp : ∀ v a t, valOf v = some a → test a = some t → p v = t) (hF : ∀ v a b y, valOf v = some a → elt a = some b → F v y → (∀ h ok ow, Rep W h ok ow y b) ∧ b.isOwn = false) :
    ∀ (xs : List V) (vs ys : List Value) (out : List V), compL test elt xs = some out → vs.length = xs.length → (∀ (j : Nat) v x, vs[j]? = some v → xs[j]? = some x → x.scalar = true → valOf v = some x) → Paired F (vs.filter p) ys → ∀ h ok ow, RepL W h ok ow ys out
  | [], vs, ys, out, e, hl, hv, hP => by
    cases e
    have : vs = [] := List.length_eq_zero_iff.mp hl
    subst this
    cases hP
    intro _ _ _; exact .nil
  | a :: r, [], _, _, _, hl, _, _ => by simp at hl
  | a :: r, v :: vs, ys, out, e, hl, hv, hP => by
    unfold compL at e
    split at e <;> try (cases e; done)
    rename_i hsc
    refine bindE e fun t ht e => ?_
    have hva := hv 0 v a rfl rfl hsc
    have hpv := hp v a t hva ht
    have hl' : vs.length = r.length := by simpa using hl
    have hv' : ∀ (j : Nat) u x, vs[j]? = some u → r[j]? = some x → x.scalar = true → valOf u = some x := fun j u x h1 h2 => hv (j + 1) u x (by simpa using h1) (by simpa using h2)
    rw [List.filter_cons, hpv] at hP
    cases t with
    | false => exact comp_list hp hF r vs ys out e hl' hv' hP
    | true =>
      simp only [if_true] at e hP
      refine bindE e fun b hb e => ?_
      split at e <;> try (cases e; done)
      obtain ⟨o, ho, rfl⟩ := Option.map_eq_some_iff.mp e
      cases hP with
      | cons hFy hP =>
        have h1 := hF v a b _ hva hb hFy
        have h2 := comp_list hp hF r vs _ o ho hl' hv' hP
        intro h ok ow
        exact .cons (h1.1 h ok ow) h1.2 (h2 h ok ow)

/-- the walk over what is iterated -/
structure Walked (W : World') (A : Around) (xs : List V) (it : Value) (s s₂ : Shared) (I : Addr) (fp wr : List Addr) (P : Nat → Value → Prop) (St : Nat → Heap → Prop) : Prop where
  it : it = .ref I
  walks : Walks W.prog W.w A I fp wr xs.length P St
  st : St 0 s₂.heap
  here : ∀ i h, St i h → ∀ b ∈ wr, h.get? b ≠ none
  fpo : ∀ b ∈ fp, s₂.heap.get? b ≠ none
  fp : ∀ b ∈ fp, b < s₂.heap.objs.size
  wr : ∀ b ∈ wr, s.heap.get? b = none
  go : ∀ (E : Value → Shared → Prop) (Q : Unit → Shared → Prop) i (s' : Shared) t u, St i s'.heap → Q () s' → wpAny (model W.prog W.w) A (letOwnedTupleGo t (.ref I) u) Q E s'
theorem go_any {prog : Program} {w : World} {A : Around} {E : Value → Shared → Prop} {Q : Unit → Shared → Prop} {s : Shared} {I : Addr} {o : Obj} {n : String} {vs : Array Value} (ho : s.heap.get? I = some o) (hc : o.cls = .type n) (hd : o.data = .fields vs)
    (hn : ["enumerate", "zip", "dict_itemiterator", "dict_reverseitemiterator", "odict_iterator", "itertools.zip_longest", "itertools.pairwise"].contains n = false) (t : Expr) (u : Value) (hQ : Q () s) : wpAny (model prog w) A (letOwnedTupleGo t (.ref I) u) Q E s := by
  have key : ∀ a, wpAny (model prog w) A (do
      let o ← load I
      match o.cls, o.data with
      | .type n, .fields vs =>
        if ["enumerate", "zip", "dict_itemiterator", "dict_reverseitemiterator", "odict_iterator", "itertools.zip_longest", "itertools.pairwise"].contains n && vs[0]? == some (rawInt a) then
          rule "for.unpacks-the-owned-tuple"
          updateField I 0 .none
      | _, _ => pure ()) Q E s := fun a => by
    refine wpAny_bind (wpAny_load ho ?_)
    rw [hc, hd]
    simp only [hn, Bool.false_and, Bool.false_eq_true, if_false]
    exact wpAny_pure hQ
  unfold letOwnedTupleGo
  split
  · cases u <;> first | exact wpAny_pure hQ | exact key _
  · cases u <;> first | exact wpAny_pure hQ | exact key _
  · exact wpAny_pure hQ
theorem Walks.within {prog : Program} {w : World} {A : Around} {I : Addr} {fp wr : List Addr} {n : Nat} {P : Nat → Value → Prop} {St : Nat → Heap → Prop} (W : Walks prog w A I fp wr n P St) : Walks prog w A I fp wr n (fun i v => i < n ∧ P i v) St where
  sub := W.sub
  frame := W.frame
  item := fun i s Q E hi st hQ => W.item i s Q E hi st fun v h' tk p => hQ v h' tk ⟨hi, p⟩
  done := W.done
  self := W.self
theorem size_lt_of {h : Heap} {a : Addr} {o : Obj} (e : h.get? a = some o) : a < h.objs.size := Heap.lt_size e
theorem all1 {α : Type} {P : α → Prop} {x : α} (hx : P x) : ∀ b ∈ [x], P b := fun b hb => by
  rw [List.mem_singleton.mp hb]; exact hx
theorem all2 {α : Type} {P : α → Prop} {x y : α} (hx : P x) (hy : P y) : ∀ b ∈ [x, y], P b := fun b hb => by
  rcases List.mem_cons.mp hb with e | hb
  · rw [e]; exact hx
  · exact all1 hy b hb
theorem ne_none {α : Type} {o : Option α} {a : α} (h : o = some a) : o ≠ none := by rw [h]; exact Option.some_ne_none a
theorem iter_ok {it : V} {v : Value} {xs : List V} (hA : A.handled = none) (r : Rep W s.heap ok ow v it) (hx : it.items = some xs) (E : Value → Shared → Prop) (Q : Value → Shared → Prop)
    (h : ∀ iv s₂ I fp wr P St, Kx s s₂ → Walked W A xs iv s s₂ I fp wr P St → (∀ i u, P i u → ∃ x, xs[i]? = some x ∧ Rep W s.heap ok ow u x ∧ x.isOwn = false) → (it.isOwn = false → ∀ b ∈ fp, s.heap.get? b = none ∨ ok b) → Q iv s₂) : wpAny (model W.prog W.w) A (pyIter v) Q E s := by
  have lst : ∀ {a : Addr} {vs : List Value} {ys : List V}, s.heap.IsList a vs.toArray → RepL W s.heap ok ow vs ys → (it.isOwn = false → ok a) → ys = xs → wpAny (model W.prog W.w) A (pyIter (.ref a)) Q E s := by
    rintro a vs ys hl rl hok rfl
    refine wpAny_pyIter_list hl (h _ _ s.heap.objs.size [s.heap.objs.size, a] [s.heap.objs.size] (fun i v => vs.toArray[i]? = some v) (fun i h => h.IsListIter s.heap.objs.size a i ∧ h.IsList a vs.toArray) ⟨kOf (Kp.push _ _), Nat.le_refl _⟩ ⟨rfl, ?_, ⟨⟨_, Heap.get?_push_size _ rfl, rfl, rfl⟩, let ⟨o, e, r⟩ := hl; ⟨o, Heap.get?_push_of_some _ e, r⟩⟩, ?_, ?_, ?_, ?_, ?_⟩ ?_ ?_)
    · have hne : a ≠ s.heap.objs.size := Nat.ne_of_lt (let ⟨o, e, _⟩ := hl; Heap.lt_size e)
      have := Walks.list (prog := W.prog) (w := W.w) (A := A) hA s.heap.objs.size a hne vs.toArray
      have hsz : vs.toArray.size = ys.length := by rw [List.size_toArray]; exact rl.len
      rw [hsz] at this
      exact this
    · rintro i h ⟨⟨o, ho, _⟩, _⟩
      exact all1 (ne_none ho)
    · obtain ⟨o, e, _⟩ := hl
      exact all2 (ne_none (Heap.get?_push_size _ rfl)) (ne_none (Heap.get?_push_of_some _ e))
    · show ∀ b ∈ _, b < _
      rw [show ({ s with heap := s.heap.push { cls := .type "list_iterator", data := .fields #[.ref a, .int 0 0] } } : Shared).heap.objs.size = s.heap.objs.size + 1 from Heap.size_push _ _]
      have : a < s.heap.objs.size := let ⟨o, e, _⟩ := hl; Heap.lt_size e
      exact all2 (Nat.lt_succ_self _) (Nat.lt_succ_of_lt this)
    · exact all1 (none_size _)
    · rintro E' Q' i s' t u ⟨⟨o, ho, hc, hd⟩, _⟩ hq
      exact go_any ho hc hd (by decide) t u hq
    · intro i u hu
      exact rl.get' (by simpa using hu)
    · exact fun hn => all2 (.inl (none_size _)) (.inr (hok hn))
  cases it <;> try (cases hx; done)
  · rename_i x y z
    obtain rfl := Option.some.inj hx
    obtain ⟨a, t, u, v, rfl, hr, o, hs⟩ := rRng r
    have hsz := size_rngLen hs
    have hlen : (rngList x y z).length = rngLen x y z := by simp [rngList]
    refine wpAny_pyIter_range hr (small_of hs) (h _ _ s.heap.objs.size [s.heap.objs.size] [s.heap.objs.size] _ _ ⟨kOf (Kp.push _ _), Nat.le_refl _⟩ ⟨rfl, hlen ▸ Walks.within (Walks.range hA s.heap.objs.size x z (rngLen x y z)), ?_, ?_, ?_, ?_, ?_, ?_⟩ ?_ ?_)
    · show IsRangeIter _ _ _ _ _
      rw [hlen, show (x + ((0 : Nat) : Int) * z) = x from by simp, show ((rngLen x y z : Nat) : Int) - ((0 : Nat) : Int) = Builtin.Range.rangeSize x y z from by rw [hsz]; simp]
      exact Heap.get?_push_size s.heap rfl
    · exact fun i h ho => all1 (ne_none (show h.get? _ = _ from ho))
    · exact all1 (ne_none (Heap.get?_push_size _ rfl))
    · exact all1 ((Heap.size_push _ _) ▸ Nat.lt_succ_self _)
    · exact all1 (none_size _)
    · intro E' Q' i s' t u ho hq
      exact go_any ho rfl rfl (by decide) t u hq
    · rintro i u ⟨hi, tt, rfl⟩
      rw [hlen] at hi
      refine ⟨.int (x + i * z), ?_, .int _ _, rfl⟩
      unfold rngList
      rw [List.getElem?_map, List.getElem?_range hi]
      rfl
    · exact fun hn => all1 (.inl (none_size _))
  · obtain rfl := Option.some.inj hx
    obtain ⟨a, vs, rfl, hl, ho, rl⟩ := rLst r
    exact lst hl rl (fun _ => ho) rfl
  · obtain rfl := Option.some.inj hx
    obtain ⟨a, vs, rfl, hl, ho, rl⟩ := rOwn r
    exact lst (Heap.PlainList.isList hl) rl (fun h => nomatch h) rfl


theorem comp_at {test : V → Option Bool} {elt : V → Option V} : ∀ {xs out : List V}, compL test elt xs = some out → ∀ (i : Nat) a, xs[i]? = some a → a.scalar = true ∧ ∃ t, test a = some t ∧ (t = true → ∃ b, elt a = some b ∧ b.flat = true)
  | [], _, _, i, a, h => by simp at h
  | x :: r, out, e, i, a, h => by
    unfold compL at e
    split at e <;> try (cases e; done)
    rename_i hsc
    refine bindE e fun t ht e => ?_
    cases i with
    | zero =>
      simp at h; subst h
      refine ⟨hsc, t, ht, ?_⟩
      rintro rfl
      simp only [if_true] at e
      refine bindE e fun b hb e => ?_
      split at e <;> try (cases e; done)
      rename_i hf
      exact ⟨b, hb, hf⟩
    | succ i =>
      have h' : r[i]? = some a := by simpa using h
      cases t with
      | false => exact comp_at e i a h'
      | true =>
        simp only [if_true] at e
        refine bindE e fun b hb e => ?_
        split at e <;> try (cases e; done)
        obtain ⟨o, ho, rfl⟩ := Option.map_eq_some_iff.mp e
        exact comp_at ho i a h'
noncomputable def compP (test : V → Option Bool) (v : Value) : Bool := (valOf v).bind test == some true
noncomputable def compF (W : World') (elt : V → Option V) (v y : Value) : Prop := ∃ a b, valOf v = some a ∧ elt a = some b ∧ (∀ h ok ow, Rep W h ok ow y b) ∧ b.isOwn = false
theorem flat_own {b : V} (h : b.flat = true) : b.isOwn = false := by cases b <;> first | rfl | cases h
noncomputable def testsOf (ifs : List Expr) (env : Env) : Sem Bool := forIn ifs true fun c r => if r = true then do let ok ← isTrue c env (eval c env); pure (ForInStep.yield ok) else pure (ForInStep.yield r)
theorem comp_core {n : Nat} {x : Str} {sc : Scope} {cl : List (Str × Addr)} {it : V} {v : Value} {xs out : List V} {elt : Expr} {ifs : List Expr} (c : Cc W mg mb X k env A ok ow σ s) (hc : CompOk X x sc) (hcl : ∀ y, (y, .free) ∈ sc.names → cl.lookup y = env.cells.lookup y)
    (r : Rep W s.heap ok ow v it) (hx : it.items = some xs) (ho : compL (fun v => tsts (compCx X sc) n ifs (compSg σ x sc v)) (fun v => ev (compCx X sc) n elt (compSg σ x sc v)) xs = some out)
    (htest : ∀ env' σ' s' b, Cc W mg mb (compCx X sc) k env' A ok ow σ' s' → tsts (compCx X sc) n ifs σ' = some b → Gb W A (testsOf ifs env') b s')
    (helt : ∀ env' σ' s' b, Cc W mg mb (compCx X sc) k env' A ok ow σ' s' → ev (compCx X sc) n elt σ' = some b → Gv W ok ow A (eval elt env') b s') (E : Value → Shared → Prop) :
    wpAny (model W.prog W.w) A (pyIter v) (fun iv s₂ => ∃ I fp wr P St, Walked W A xs iv s s₂ I fp wr P St ∧ Kx s s₂ ∧
      QuietOnC W.prog W.w A env sc cl x ifs elt wr P (compP fun v => tsts (compCx X sc) n ifs (compSg σ x sc v)) (compF W fun v => ev (compCx X sc) n elt (compSg σ x sc v)) s₂ ∧
      ∀ (vs ys : List Value), vs.length = xs.length → (∀ j v, vs[j]? = some v → P j v) → Paired (compF W fun v => ev (compCx X sc) n elt (compSg σ x sc v)) (vs.filter (compP fun v => tsts (compCx X sc) n ifs (compSg σ x sc v))) ys → ∀ h ok ow, RepL W h ok ow ys out) E s := by
  refine iter_ok c.good.handled r hx E _ fun iv s₂ I fp wr P St kx w hP _ => ⟨I, fp, wr, P, St, w, kx, ?_, ?_⟩
  · have old : ∀ {s₃ : Shared}, (∀ b o, b ∉ wr → s₂.heap.get? b = some o → s₃.heap.get? b = some o) → Kp s.heap s₃.heap := fun hk b o e => hk b o (fun hm => by rw [w.wr b hm] at e; cases e) (kx.kp b o e)
    constructor
    · intro C i u s₃ m₃ E' _ hp hn hm hk tk
      obtain ⟨a, ha, ra, _⟩ := hP i u hp
      obtain ⟨hsc, t, ht, _⟩ := comp_at ho i a ha
      have hv := valOf_rep ra hsc
      have c' := comp_cc (cl := cl) c hc hcl (old hk) (Nat.le_trans kx.toks tk) hn hm (rep_valOf hv).1
      refine htest _ _ _ _ c' ht _ _ fun s' k' => ⟨?_, k'.keeps⟩
      unfold compP
      rw [hv]
      simp only [Option.bind_some, ht]
      cases t <;> rfl
    · intro C i u s₃ m₃ E' _ hp hpu hn hm hk tk
      obtain ⟨a, ha, ra, _⟩ := hP i u hp
      obtain ⟨hsc, t, ht, hb⟩ := comp_at ho i a ha
      have hv := valOf_rep ra hsc
      have htt : t = true := by
        unfold compP at hpu
        rw [hv] at hpu
        simp only [Option.bind_some, ht] at hpu
        cases t <;> first | rfl | cases hpu
      obtain ⟨b, hb, hf⟩ := hb htt
      have c' := comp_cc (cl := cl) c hc hcl (old hk) (Nat.le_trans kx.toks tk) hn hm (rep_valOf hv).1
      exact helt _ _ _ _ c' hb _ _ fun y s' k' ry => ⟨⟨a, b, hv, hb, fun h ok ow => ry.flat hf, flat_own hf⟩, k'.keeps⟩
  · intro vs ys hl hj hpair
    refine comp_list (F := compF W fun v => ev (compCx X sc) n elt (compSg σ x sc v)) (fun v a t h1 h2 => ?_) (fun v a b y h1 h2 h3 => ?_) xs vs ys out ho hl (fun j u a h1 h2 h3 => ?_) hpair
    · unfold compP; rw [h1]; simp only [Option.bind_some, h2]; cases t <;> rfl
    · obtain ⟨a', b', e1, e2, e3, e4⟩ := h3
      rw [h1] at e1; cases e1
      have e2 := h2.symm.trans e2; cases e2
      exact ⟨e3, e4⟩
    · obtain ⟨a', ha, ra, _⟩ := hP j u (hj j u h1)
      rw [h2] at ha; cases ha
      exact valOf_rep ra h3
end Mine
end
section
namespace Mine
open PySem PySem.Calls PyProof.Rows PySem.W

variable {W : World'} {ok ow : Addr → Prop}
variable {mg mb : Str → Option Value} {X : Cx} {k : Nat} {env : Env} {A : Around} {σ : Sg} {s s' : Shared}

structure Sd (W : World') (mg mb : Str → Option Value) (n : Nat) : Prop where
  ev : ∀ {X k env A ok ow σ s} {e : Expr} {a}, Cc W mg mb X k env A ok ow σ s → ev X n e σ = some a → Gv W ok ow A (eval e env) a s
  evo : ∀ {X k env A ok ow σ s} {e : Option Expr} {a}, Cc W mg mb X k env A ok ow σ s → evo X n e σ = some a → Gv W ok ow A (evalPart e env) a s
  evs : ∀ {X k env A ok ow σ s} {es : List Expr} {as}, Cc W mg mb X k env A ok ow σ s → evs X n es σ = some as → noStar es = true ∧ Ga W ok ow A es env as s
  evs1 : ∀ {X k env A ok ow σ s} {e : Expr} {a}, Cc W mg mb X k env A ok ow σ s → Mine.evs X n [e] σ = some [a] → Gv W ok ow A (eval e env) a s
  cmpT : ∀ {X k env A ok ow σ s} {l r : Expr} {op : CmpOp} {p : Pos} {b : Bool} {wh : Sem Value}, Cc W mg mb X k env A ok ow σ s → (Mine.ev X n (.Compare l [op] [r] p) σ).bind truth = some b → Gb W A (isTrue (.Compare l [op] [r] p) env wh) b s
  tst : ∀ {X k env A ok ow σ s} {e : Expr} {b}, Cc W mg mb X k env A ok ow σ s → tst X n e σ = some b → Gb W A (isTrue e env (eval e env)) b s
  tsts : ∀ {X k env A ok ow σ s} {es : List Expr} {b}, Cc W mg mb X k env A ok ow σ s → tsts X n es σ = some b → Gb W A (allTrue .And es env) b s
  tstO : ∀ {X k env A ok ow σ s} {es : List Expr} {b}, Cc W mg mb X k env A ok ow σ s → tstO X n es σ = some b → Gb W A (allTrue .Or es env) b s

theorem const_ok {c : Const} {kk : Nat} {p : Pos} {a : V} (e : (match c with
        | .none => some V.nil
        | .bool b => some (.bool b)
        | .int i => some (.int i)
        | .str s => some (.str s)
        | _ => none) = some a) : Gv W ok ow A (eval (.Constant c kk p) env) a s := by
  split at e <;> cases e <;> refine gvOf fun E Q h => ?_
  · exact wpAny_Constant_none (h _ _ (kRefl _) .nil)
  · exact wpAny_Constant_bool (h _ _ (kRefl _) (.bool _))
  · exact wpAny_Constant_int (h _ _ kTok (.int _ _))
  · exact wpAny_Constant_str (h _ _ kTok (.str _ _))

theorem Gv.use {t : Sem Value} {a : V} (g : Gv W ok ow A t a s) {E : Value → Shared → Prop} {Q : Value → Shared → Prop} (h : ∀ v s', Kx s s' → Rep W s'.heap ok ow v a → Q v s') : wpAny (model W.prog W.w) A t Q E s := g E Q h

section
variable {n : Nat} (d : Sd W mg mb n)
include d
theorem bin_e {l r : Expr} {op : Operator} {p : Pos} {a b c : V} (cc : Cc W mg mb X k env A ok ow σ s) (h1 : ev X n l σ = some a) (h2 : ev X n r σ = some b) (h3 : bin op a b = some c) : Gv W ok ow A (eval (.BinOp l op r p) env) c s := fun E Q h =>
  wpAny_BinOp ((d.ev cc h1).use fun va s₁ k₁ r₁ => (d.ev (cc.up k₁) h2).use fun vb s₂ k₂ r₂ =>
    (bin_ok (cc.up (k₁.trans k₂)).fresh h3 (r₁.up k₂.kp) r₂).use fun v s₃ k₃ r₃ => h v s₃ ((k₁.trans k₂).trans k₃) r₃)
theorem cmp_e {l r : Expr} {op : CmpOp} {p : Pos} {a b c : V} (cc : Cc W mg mb X k env A ok ow σ s) (hm : behindInMarks op r = false) (h1 : ev X n l σ = some a) (h2 : ev X n r σ = some b) (h3 : cmp op a b = some c) : Gv W ok ow A (eval (.Compare l [op] [r] p) env) c s := fun E Q h =>
  wpAny_Compare1 (hm := hm) ((d.ev cc h1).use fun va s₁ k₁ r₁ => (d.ev (cc.up k₁) h2).use fun vb s₂ k₂ r₂ =>
    (cmp_ok cc.good.zero h3 (r₁.up k₂.kp) r₂).use fun v s₃ k₃ r₃ => h v s₃ ((k₁.trans k₂).trans k₃) r₃)
theorem cmp_t {l r : Expr} {op : CmpOp} {p : Pos} {a b c : V} {t : Bool} {wh : Sem Value} (cc : Cc W mg mb X k env A ok ow σ s) (hm : behindInMarks op r = false) (h1 : ev X n l σ = some a) (h2 : ev X n r σ = some b) (h3 : cmp op a b = some c) (h4 : truth c = some t) : Gb W A (isTrue (.Compare l [op] [r] p) env wh) t s := fun E Q h =>
  wpAny_isTrue_Compare1 (hm := hm) ((d.ev cc h1).use fun va s₁ k₁ r₁ => (d.ev (cc.up k₁) h2).use fun vb s₂ k₂ r₂ =>
    (cmp_ok cc.good.zero h3 (r₁.up k₂.kp) r₂).use fun v s₃ k₃ r₃ => truth_ok h4 r₃ _ _ fun s₄ k₄ => h s₄ (((k₁.trans k₂).trans k₃).trans k₄))
theorem un_e {x : Expr} {op : UnaryOp} {p : Pos} {a c : V} (cc : Cc W mg mb X k env A ok ow σ s) (h1 : ev X n x σ = some a) (h3 : un op a = some c) : Gv W ok ow A (eval (.UnaryOp op x p) env) c s := fun E Q h =>
  wpAny_UnaryOp ((d.ev cc h1).use fun va s₁ k₁ r₁ => (un_ok h3 r₁).use fun v s₃ k₃ r₃ => h v s₃ (k₁.trans k₃) r₃)
theorem bool_e {x y : Expr} {op : BoolOp} {p : Pos} {a c : V} {t : Bool} (cc : Cc W mg mb X k env A ok ow σ s) (h1 : ev X n x σ = some a) (h2 : truth a = some t) (h3 : (match (generalizing := false) op, t with
        | .And, true => ev X n y σ
        | .Or, false => ev X n y σ
        | _, _ => some a) = some c) : Gv W ok ow A (eval (.BoolOp op [x, y] p) env) c s := fun E Q h => by
  cases op with
  | And =>
    refine wpAny_And2 ((d.ev cc h1).use fun va s₁ k₁ r₁ => truth_ok h2 r₁ _ _ fun s₂ k₂ => ?_)
    cases t with
    | true => exact (d.ev (cc.up (k₁.trans k₂)) h3).use fun v s₃ k₃ r₃ => h v s₃ ((k₁.trans k₂).trans k₃) r₃
    | false => cases h3; exact h va s₂ (k₁.trans k₂) (r₁.up k₂.kp)
  | Or =>
    refine wpAny_Or2 ((d.ev cc h1).use fun va s₁ k₁ r₁ => truth_ok h2 r₁ _ _ fun s₂ k₂ => ?_)
    cases t with
    | false => exact (d.ev (cc.up (k₁.trans k₂)) h3).use fun v s₃ k₃ r₃ => h v s₃ ((k₁.trans k₂).trans k₃) r₃
    | true => cases h3; exact h va s₂ (k₁.trans k₂) (r₁.up k₂.kp)
theorem ife_e {t b o : Expr} {p : Pos} {c : V} {tt : Bool} (cc : Cc W mg mb X k env A ok ow σ s) (h1 : tst X n t σ = some tt) (h3 : (if tt = true then ev X n b σ else ev X n o σ) = some c) : Gv W ok ow A (eval (.IfExp t b o p) env) c s := fun E Q h => by
  refine wpAny_IfExp (d.tst cc h1 _ _ fun s₁ k₁ => ?_)
  cases tt with
  | true => exact (d.ev (cc.up k₁) h3).use fun v s₃ k₃ r₃ => h v s₃ (k₁.trans k₃) r₃
  | false => exact (d.ev (cc.up k₁) h3).use fun v s₃ k₃ r₃ => h v s₃ (k₁.trans k₃) r₃
theorem call_e {f : Str} {np p : Pos} {args : List Expr} {fv c : V} {as : List V} (cc : Cc W mg mb X k env A ok ow σ s) (hf : plainName f = true) (hne : args.isEmpty = false) (h1 : (if X.K f = some .globalImplicit then X.G f else σ f) = some fv) (h2 : evs X n args σ = some as) (h3 : app X fv as = some c) :
    Gv W ok ow A (eval (.Call (.Name f np) args [] p) env) c s := fun E Q h => by
  refine wpAny_Call_ofName ((name_ok cc hf h1).use fun v s₁ k₁ r₁ => ?_)
  cases args with
  | nil => cases hne
  | cons e es =>
    have := d.evs (cc.up k₁) h2
    rw [star_each this.1, back_each]
    exact app_ok (cc.up k₁) r₁ h3 this.2 E Q fun v' s₂ k₂ r₂ => h v' s₂ (k₁.trans k₂) r₂
theorem sub_e {v i : Expr} {p : Pos} {a kk c : V} (cc : Cc W mg mb X k env A ok ow σ s) (hs : ∀ va vk, subscripted i false va vk = operate [va, vk] (getItem va vk)) (h1 : ev X n v σ = some a) (h2 : ev X n i σ = some kk) (h3 : item a kk = some c) : Gv W ok ow A (eval (.Subscript v i p) env) c s := fun E Q h =>
  PyProof.Rows.Subscript_ ((d.ev cc h1).use fun va s₁ k₁ r₁ => (d.ev (cc.up k₁) h2).use fun vk s₂ k₂ r₂ => (item_ok h3 (r₁.up k₂.kp) r₂ (hs _ _)).use fun v s₃ k₃ r₃ => h v s₃ ((k₁.trans k₂).trans k₃) r₃)
theorem cut_e {v : Expr} {lo hi : Option Expr} {p q : Pos} {a l u c : V} (cc : Cc W mg mb X k env A ok ow σ s) (h1 : ev X n v σ = some a) (h2 : evo X n lo σ = some l) (h4 : evo X n hi σ = some u) (h3 : cut a l u = some c) : Gv W ok ow A (eval (.Subscript v (.Slice lo hi none q) p) env) c s := fun E Q h =>
  PyProof.Rows.Subscript_ ((d.ev cc h1).use fun va s₁ k₁ r₁ => wpAny_Slice ((d.evo (cc.up k₁) h2).use fun vl s₂ k₂ r₂ => (d.evo (cc.up (k₁.trans k₂)) h4).use fun vu s₃ k₃ r₃ => wpAny_pure
    ((cut_ok h3 ((r₁.up (k₂.trans k₃).kp).up (Kp.push _ _)) ((r₂.up k₃.kp).up (Kp.push _ _)) (r₃.up (Kp.push _ _)) (Heap.get?_push_size _ rfl)).use fun v s₄ k₄ r₄ => h v s₄ (((k₁.trans (k₂.trans k₃)).trans ⟨kOf (Kp.push _ _), Nat.le_refl _⟩).trans k₄) r₄)))
theorem list_e {es : List Expr} {p : Pos} {vs : List V} (cc : Cc W mg mb X k env A ok ow σ s) (h1 : evs X n es σ = some vs) (h2 : noOwn vs = true) (h3 : vs.length ≤ big) : Gv W ok ow A (eval (.List es p) env) (.lst vs) s := fun E Q h => by
  obtain ⟨hs, g⟩ := d.evs cc h1
  refine PyProof.Rows.List_ ?_
  rw [star_each hs, back_each]
  refine g E _ fun ws s₁ k₁ r₁ => ?_
  have hl := r₁.len
  rw [big_is] at h3
  refine wpAny_newObj_type (h _ _ (k₁.trans ⟨kOf (Kp.push _ _), Nat.le_refl _⟩) (.lst ⟨_, Heap.get?_push_size _ rfl, rfl, _, rfl⟩ (cc.up k₁).fresh.size ((r₁.list h2).up (Kp.push _ _)))) ?_
  show ws.toArray.size ≤ sizeLine
  rw [List.size_toArray, sizeLine_is]; omega
theorem tuple_e {es : List Expr} {p : Pos} {kk : Nat} {vs : List V} (cc : Cc W mg mb X k env A ok ow σ s) (h1 : evs X n es σ = some vs) (h2 : noOwn vs = true) (h3 : vs.length ≤ big) : Gv W ok ow A (eval (.Tuple es kk p) env) (.tup vs) s := fun E Q h => by
  obtain ⟨hs, g⟩ := d.evs cc h1
  refine PyProof.Rows.Tuple_ ?_
  rw [star_each hs, back_each]
  refine g E _ fun ws s₁ k₁ r₁ => ?_
  have hl := r₁.len
  rw [big_is] at h3
  refine wpAny_newObj_type (h _ _ (k₁.trans ⟨kOf (Kp.push _ _), Nat.le_refl _⟩) (.tup ⟨_, Heap.get?_push_size _ rfl⟩ (cc.up k₁).fresh.size ((r₁.list h2).up (Kp.push _ _)))) ?_
  show ws.toArray.size ≤ sizeLine
  rw [List.size_toArray, sizeLine_is]; omega
end
end Mine
end
section
namespace Mine
open PySem PySem.Calls PyProof.Rows PySem.W

variable {W : World'} {ok ow : Addr → Prop}
variable {mg mb : Str → Option Value} {X : Cx} {k : Nat} {env : Env} {A : Around} {σ : Sg} {s s' : Shared}

inductive DW : List (Value × Value) → List (Str × Str) → Prop
  | nil : DW [] []
  | cons {a b : Str} {t u : Tok} {ws kv} : DW ws kv → DW ((.str a t, .str b u) :: ws) ((a, b) :: kv)
theorem DW.keys {ws kv} (d : DW ws kv) : allStrKeys ws = true ∧ (strPairs ws).map (·.1) = kv.map (·.1) ∧ RepP (strPairs ws) kv := by
  induction d with
  | nil => exact ⟨rfl, rfl, .nil⟩
  | cons _ ih => exact ⟨ih.1, congrArg (_ :: ·) ih.2.1, .cons ih.2.2⟩
inductive DC : List (Option Expr) → List Expr → List (Str × Str) → Prop
  | nil : DC [] [] []
  | cons {a b : Str} {i j : Nat} {p q : Pos} {ks vs kv} : DC ks vs kv → DC (some (.Constant (.str a) i p) :: ks) (.Constant (.str b) j q :: vs) ((a, b) :: kv)
theorem dc_of : ∀ {ks : List (Option Expr)} {vs : List Expr} {kv}, dictC ks vs = some kv → DC ks vs kv := by
  intro ks
  induction ks with
  | nil =>
    intro vs kv e
    cases vs with
    | nil => cases e; exact .nil
    | cons => cases e
  | cons k ks ih =>
    intro vs kv e
    cases k with
    | none => cases vs <;> cases e
    | some k =>
      cases vs with
      | nil => cases e
      | cons v vs =>
        obtain ⟨a, h1, e⟩ := Option.bind_eq_some_iff.mp e
        obtain ⟨b, h2, e⟩ := Option.bind_eq_some_iff.mp e
        obtain ⟨r, hr, rfl⟩ := Option.map_eq_some_iff.mp e
        obtain ⟨_, _, rfl⟩ := strOf_is h1
        obtain ⟨_, _, rfl⟩ := strOf_is h2
        exact .cons (ih hr)
theorem DC.len {ks : List (Option Expr)} {vs : List Expr} {kv} (d : DC ks vs kv) : ks.all (·.isSome) = true ∧ ks.length = vs.length ∧ ks.length = kv.length := by
  induction d with
  | nil => exact ⟨rfl, rfl, rfl⟩
  | cons _ ih => exact ⟨ih.1, congrArg (· + 1) ih.2.1, congrArg (· + 1) ih.2.2⟩
theorem dict_pairs {p : Pos} {ks : List (Option Expr)} {vs : List Expr} {kv} (d : DC ks vs kv) : ∀ {s : Shared} {E : Value → Shared → Prop} {Q : List (Value × Value) → Shared → Prop}, (∀ ws tk, DW ws kv → Q ws { s with toks := tk }) → wpAny (model W.prog W.w) A (evalPairs (pairTrees ks vs env p)) Q E s := by
  induction d with
  | nil => exact fun {s E Q} h => pairTrees_nil_walk (h [] s.toks .nil)
  | cons _ ih => exact fun {s E Q} h => pairTrees_cons_walk (wpAny_Constant_str (wpAny_Constant_str (ih fun ws tk d => h _ tk (.cons d))))
theorem dict_e {ks : List (Option Expr)} {vs : List Expr} {p : Pos} {kv : List (Str × Str)} (cc : Cc W mg mb X k env A ok ow σ s) (e : dictC ks vs = some kv) (h0 : kv ≠ []) (hl : kv.length ≤ 15) (hn : (kv.map (·.1)).Nodup) :
    Gv W ok ow A (eval (.Dict ks vs p) env) (.dct kv) s := by
  refine gvOf fun E Q h => ?_
  have e := dc_of e
  obtain ⟨h1, h2, h3⟩ := e.len
  refine wpAny_Dict_walk (knd := strKind W.prog W.w) h1 h2 (fun hk => h0 (List.length_eq_zero_iff.mp (by rw [← h3, hk]; rfl))) (by omega) ?_
  refine dict_pairs e fun ws tk d => ?_
  obtain ⟨d1, d2, d3⟩ := d.keys
  refine display_done_str (P := fun h' => Q _ _) d1 (by rw [d2]; exact hn) (Heap.DictOf.new s.heap) fun h' hd hs => ?_
  refine h _ _ (kOf fun b o hb => ?_) (.dct hd cc.fresh.size ?_ d3)
  · exact hs.extBut b o (Nat.ne_of_lt (Heap.lt_size hb)) (Heap.get?_push_of_some _ hb)
  · have : mainGlobals < s.heap.objs.size := let ⟨o, es, ep, ho, _⟩ := cc.st.g; Heap.lt_size ho
    rw [beq_eq_false_iff_ne]
    have e1 : sysModules ≤ mainGlobals := by decide
    exact Nat.ne_of_gt (Nat.lt_of_le_of_lt e1 this)

theorem allTrue_one (i : Expr) (env : Env) : allTrue .And [i] env = isTrue i env (eval i env) := by
  rw [← bind_pure (isTrue i env (eval i env))]
  show (isTrue i env (eval i env) >>= fun b => _) = _
  congr 1
  funext b
  cases b <;> rfl
theorem kVia {a b : Shared} {h' : Heap} {t : Nat} (k : Keeps a b) (kk : Kp a.heap h') : Keeps a { b with heap := h', toks := t } := by
  obtain ⟨h, tk, rfl, _⟩ := k
  exact ⟨h', t, rfl, kk⟩
theorem tests_ok {n : Nat} (d : Sd W mg mb n) {ifs : List Expr} {b : Bool} (hl : ifs.length ≤ 1) (cc : Cc W mg mb X k env A ok ow σ s) (e : tsts X n ifs σ = some b) : Gb W A (testsOf ifs env) b s := by
  cases ifs with
  | nil =>
    cases n with
    | zero => cases e
    | succ n => cases e; exact gbOf fun E Q h => wpAny_tests_nil (h _ (kRefl _))
  | cons i r =>
    cases r with
    | cons _ _ => simp at hl
    | nil =>
      have := d.tsts cc e
      rw [allTrue_one] at this
      exact fun E Q h => wpAny_tests_one (this E Q h)
theorem comp_e {n : Nat} (d : Sd W mg mb n) {x : Str} {px p : Pos} {sc : Scope} {it : V} {xs out : List V} {elt iter : Expr} {ifs : List Expr} (cc : Cc W mg mb X k env A ok ow σ s) (hc : compOk X x sc = true) (hi : ifs.length ≤ 1)
    (h1 : ev X n iter σ = some it) (h2 : it.items = some xs) (h3 : xs.length ≤ big) (ho : compL (fun v => tsts (compCx X sc) n ifs (compSg σ x sc v)) (fun v => ev (compCx X sc) n elt (compSg σ x sc v)) xs = some out) :
    Gv W ok ow A (eval (.ListComp elt [⟨.Name x px, iter, ifs, 0⟩] sc p) env) (.lst out) s := by
  have hc := compOk_is hc
  obtain ⟨cl, hcl, hlk⟩ := closure_of sc env fun p hp e => cc.en.cells p.1 (hc.free p hp e)
  refine gvOf fun E Q h => ?_
  refine wpAny_ListComp_free (compP fun v => tsts (compCx X sc) n ifs (compSg σ x sc v)) (compF W fun v => ev (compCx X sc) n elt (compSg σ x sc v)) hcl hc.cell hc.kind hc.locs hc.x ?_ (fun x => ?_)
  · refine (d.ev cc h1).use fun v s₁ k₁ r₁ => ?_
    refine wpAny_mono (comp_core (cl := cl) (cc.up k₁) hc hlk r₁ h2 ho (fun env' σ' s' b c' e => tests_ok d hi c' e) (fun env' σ' s' b c' e => d.ev c' e) E) (fun iv s₂ hh => ?_) fun _ _ e => e
    obtain ⟨I, fp, wr, P, St, w, k₂, hq, hr⟩ := hh
    refine ⟨I, fp, wr, xs.length, P, St, w.it, w.walks, by rw [sizeLine_is]; rw [big_is] at h3; omega, w.st, w.fp, hq, fun D h' tk ys vs hD hL _ hlen hP hF hk => ?_⟩
    have kk : Kp s₁.heap h' := fun b o e => hk b o (fun hm => by rw [w.wr b hm] at e; cases e) (k₂.kp b o e)
    refine h _ _ (kTrans k₁.keeps (kVia k₂.keeps kk)) (.lst hL ((cc.up (k₁.trans k₂)).fresh _ hD) (hr vs ys.toList hlen hP hF _ _ _))
  · cases iter <;> first | rfl | (cases n <;> cases h1)
end Mine
end
section
namespace Mine
open PySem PySem.Calls PyProof.Rows PySem.W

variable {W : World'} {ok ow : Addr → Prop}
variable {mg mb : Str → Option Value} {X : Cx} {k : Nat} {env : Env} {A : Around} {σ : Sg} {s s' : Shared}

theorem sd_zero : Sd W mg mb 0 := ⟨fun _ e => (nomatch e), fun _ e => (nomatch e), fun _ e => (nomatch e), fun _ e => (nomatch e), fun _ e => (nomatch e), fun _ e => (nomatch e), fun _ e => (nomatch e), fun _ e => (nomatch e)⟩

section
variable {n : Nat} (d : Sd W mg mb n)
include d
theorem sd_evo {e : Option Expr} {a : V} (cc : Cc W mg mb X k env A ok ow σ s) (h : evo X (n + 1) e σ = some a) : Gv W ok ow A (evalPart e env) a s := by
  cases e with
  | none => cases h; exact gvOf fun E Q h => wpAny_pure (h _ _ (kRefl _) .nil)
  | some e => exact d.ev cc h
theorem sd_evs {es : List Expr} {as : List V} (cc : Cc W mg mb X k env A ok ow σ s) (h : evs X (n + 1) es σ = some as) : noStar es = true ∧ Ga W ok ow A es env as s := by
  unfold evs at h
  split at h
  · cases h; exact ⟨rfl, fun E Q h => Calls.spliced_nil (h [] s (Kx.refl _) .nil)⟩
  · cases h
  · rename_i e r hne
    refine bindE h fun a h1 h => ?_
    obtain ⟨bs, h2, rfl⟩ := Option.map_eq_some_iff.mp h
    refine ⟨?_, fun E Q h => ?_⟩
    · have := (d.evs cc h2).1
      cases e <;> first | exact this | (exact absurd rfl (hne _ _))
    · exact Calls.spliced_cons ((d.ev cc h1).use fun v s₁ k₁ r₁ => (d.evs (cc.up k₁) h2).2 E _ fun vs s₂ k₂ r₂ => h _ _ (k₁.trans k₂) (.cons (r₁.up k₂.kp) r₂))
theorem sd_tsts {es : List Expr} {b : Bool} (cc : Cc W mg mb X k env A ok ow σ s) (h : tsts X (n + 1) es σ = some b) : Gb W A (allTrue .And es env) b s := by
  unfold tsts at h
  split at h
  · cases h; exact gbOf fun E Q h => wpAny_allTrue_And_nil (h _ (kRefl _))
  · refine bindE h fun t h1 h => ?_
    refine fun E Q hQ => wpAny_allTrue_And_cons (d.tst cc h1 _ _ fun s₁ k₁ => ?_)
    cases t with
    | true => exact d.tsts (cc.up k₁) h _ _ fun s₂ k₂ => hQ s₂ (k₁.trans k₂)
    | false => cases h; exact hQ s₁ k₁
theorem sd_tstO {es : List Expr} {b : Bool} (cc : Cc W mg mb X k env A ok ow σ s) (h : tstO X (n + 1) es σ = some b) : Gb W A (allTrue .Or es env) b s := by
  unfold tstO at h
  split at h
  · cases h; exact gbOf fun E Q h => wpAny_allTrue_Or_nil (h _ (kRefl _))
  · refine bindE h fun t h1 h => ?_
    refine fun E Q hQ => wpAny_allTrue_Or_cons (d.tst cc h1 _ _ fun s₁ k₁ => ?_)
    cases t with
    | false => exact d.tstO (cc.up k₁) h _ _ fun s₂ k₂ => hQ s₂ (k₁.trans k₂)
    | true => cases h; exact hQ s₁ k₁
theorem val_t {e : Expr} {b : Bool} (cc : Cc W mg mb X k env A ok ow σ s) (h : (ev X n e σ).bind truth = some b) (he : isTrue e env (eval e env) = (do let v ← eval e env; standAt e.pos; holding [v] (truthy v))) : Gb W A (isTrue e env (eval e env)) b s := by
  refine bindE h fun a h1 h2 => ?_
  exact fun E Q hQ => wpAny_isTrue_value ((d.ev cc h1).use fun v s₁ k₁ r₁ => truth_ok h2 r₁ _ _ fun s₂ k₂ => hQ s₂ (k₁.trans k₂)) he
theorem sd_tst {e : Expr} {b : Bool} (cc : Cc W mg mb X k env A ok ow σ s) (h : tst X (n + 1) e σ = some b) : Gb W A (isTrue e env (eval e env)) b s := by
  unfold tst at h
  generalize viewT e = w at h
  induction w
  · obtain ⟨t, h1, rfl⟩ := Option.map_eq_some_iff.mp h
    exact fun E Q hQ => wpAny_isTrue_Not (d.tst cc h1 _ _ fun s₁ k₁ => hQ s₁ k₁)
  · exact fun E Q hQ => wpAny_isTrue_BoolOp (d.tsts cc h _ _ hQ)
  · exact fun E Q hQ => wpAny_isTrue_BoolOp (d.tstO cc h _ _ hQ)
  · exact d.cmpT cc h
  · rename_i e hp
    refine val_t d cc h ?_
    cases e <;> first | rfl | exact Bool.noConfusion hp | skip
    rename_i op _ _
    cases op <;> first | rfl | exact Bool.noConfusion hp
  · cases h
theorem sd_cmpT {l r : Expr} {op : CmpOp} {p : Pos} {b : Bool} {wh : Sem Value} (cc : Cc W mg mb X k env A ok ow σ s) (h : (ev X (n + 1) (.Compare l [op] [r] p) σ).bind truth = some b) : Gb W A (isTrue (.Compare l [op] [r] p) env wh) b s := by
  refine bindE h fun c h1 h2 => ?_
  have he : ev X (n + 1) (.Compare l [op] [r] p) σ = if behindInMarks op r then none else (ev X n l σ).bind fun a => (ev X n r σ).bind fun b => cmp op a b := rfl
  rw [he] at h1
  split at h1
  · cases h1
  · rename_i hm
    refine bindE h1 fun a ha h1 => ?_
    refine bindE h1 fun b' hb h1 => ?_
    exact cmp_t d cc (by simpa using hm) ha hb h1 h2
omit d in
theorem sub_any {i : Expr} (h : plainSub i = true) (va vk : Value) : subscripted i false va vk = operate [va, vk] (getItem va vk) := by
  cases i <;> first | rfl | skip
  rename_i lo hi st p
  cases st with
  | none => exact Bool.noConfusion h
  | some _ => rfl
theorem meth_e {o : Expr} {m : Str} {ap p : Pos} {args : List Expr} {ov c : V} {as : List V} (cc : Cc W mg mb X k env A ok ow σ s) (hb : baseOk o = true) (hl : (ap.endLine == p.line) = true) (h4 : args.length ≤ 1) (ho : ev X n o σ = some ov) (has : evs X n args σ = some as) (h : meth m ov as = some c) :
    Gv W ok ow A (eval (.Call (.Attribute o m ap) args [] p) env) c s := by
  unfold meth at h
  split at h
  · refine ifE h ?_
    clear h
    intro hm h
    subst hm
    split at h <;> cases h
    have : args = [] := by
      cases args with
      | nil => rfl
      | cons e r =>
        cases n with
        | zero => cases has
        | succ n =>
          unfold evs at has
          split at has
          · rename_i hx; cases hx
          · cases has
          · refine bindE has fun _ _ has => ?_
            obtain ⟨_, _, has⟩ := Option.map_eq_some_iff.mp has
            cases has
    subst this
    exact lower_ok cc hb hl (by assumption) (d.ev cc ho)
  · refine ifE h ?_
    clear h
    intro hm h
    subst hm
    refine bindE h fun l hl' h => ?_
    split at h <;> cases h
    cases args with
    | nil =>
      cases n with
      | zero => cases has
      | succ n => cases has
    | cons e r =>
      cases r with
      | cons _ _ => simp at h4
      | nil =>
        have hn := (d.evs cc has).1
        exact join_ok cc hb hl hn hl' (by assumption) (d.ev cc ho) fun s₁ k₁ => d.evs1 (cc.up k₁) has
  · cases h
theorem sd_ev {e : Expr} {a : V} (cc : Cc W mg mb X k env A ok ow σ s) (h : ev X (n + 1) e σ = some a) : Gv W ok ow A (eval e env) a s := by
  unfold ev at h
  generalize view e = w at h
  induction w
  · exact const_ok h
  · dsimp only at h
    refine ifE h fun hp h => ?_
    exact name_ok cc hp h
  · dsimp only at h
    refine bindE h fun a ha h => ?_
    refine bindE h fun b' hb h => ?_
    exact bin_e d cc ha hb h
  · dsimp only at h
    refine bindE h fun a ha h => ?_
    exact un_e d cc ha h
  · dsimp only at h
    refine bindE h fun a ha h => ?_
    refine bindE h fun t ht h => ?_
    exact bool_e d cc ha ht h
  · dsimp only at h
    refine bindE h fun t ht h => ?_
    exact ife_e d cc ht h
  · dsimp only at h
    refine ifN h fun hm h => ?_
    refine bindE h fun a ha h => ?_
    refine bindE h fun b' hb h => ?_
    exact cmp_e d cc (by simpa using hm) ha hb h
  · dsimp only at h
    refine ifE h fun hf h => ?_
    simp only [Bool.and_eq_true, Bool.not_eq_true'] at hf
    refine bindE h fun fv h1 h => ?_
    refine bindE h fun as h2 h => ?_
    exact call_e d cc hf.1 hf.2 h1 h2 h
  · dsimp only at h
    refine ifE h ?_
    clear h
    intro hf h
    simp only [Bool.and_eq_true, Bool.not_eq_true', decide_eq_true_eq] at hf
    obtain ⟨⟨h1, h2⟩, rfl, h4⟩ := hf
    refine bindE h fun ov ho h => ?_
    split at h <;> try (cases h; done)
    split at h <;> cases h
    rename_i hz
    exact replace_ok cc h2 h1 h4 hz.1 hz.2 (d.ev cc ho)
  · dsimp only at h
    refine ifE h fun hf h => ?_
    simp only [Bool.and_eq_true, Bool.not_eq_true', decide_eq_true_eq] at hf
    obtain ⟨⟨h1, h2⟩, h4⟩ := hf
    refine bindE h fun ov ho h => ?_
    refine bindE h fun as has h => ?_
    exact meth_e d cc h2 h1 h4 ho has h
  · dsimp only at h
    refine bindE h fun a ha h => ?_
    refine bindE h fun l hl h => ?_
    refine bindE h fun u hu h => ?_
    exact cut_e d cc ha hl hu h
  · rename_i hne
    dsimp only at h
    refine bindE h fun a ha h => ?_
    refine bindE h fun b' hb h => ?_
    exact sub_e d cc (sub_any hne) ha hb h
  · dsimp only at h
    refine bindE h fun vs hv h => ?_
    split at h <;> cases h
    rename_i hf
    simp only [Bool.and_eq_true, decide_eq_true_eq] at hf
    exact list_e d cc hv hf.1 hf.2
  · dsimp only at h
    refine bindE h fun vs hv h => ?_
    split at h <;> cases h
    rename_i hf
    simp only [Bool.and_eq_true, decide_eq_true_eq] at hf
    exact tuple_e d cc hv hf.1 hf.2
  · dsimp only at h
    refine bindE h fun vs hv h => ?_
    split at h <;> cases h
    rename_i hf
    exact dict_e cc hv hf.1 hf.2.1 hf.2.2
  · dsimp only at h
    refine ifE h fun hf h => ?_
    simp only [Bool.and_eq_true, decide_eq_true_eq] at hf
    refine bindE h fun it hi h => ?_
    refine bindE h fun xs hx h => ?_
    split at h <;> try (cases h; done)
    obtain ⟨out, ho, rfl⟩ := Option.map_eq_some_iff.mp h
    exact comp_e d cc hf.1 hf.2 hi hx (by assumption) ho
  · cases h
theorem sd_evs1 {e : Expr} {a : V} (cc : Cc W mg mb X k env A ok ow σ s) (h : evs X (n + 1) [e] σ = some [a]) : Gv W ok ow A (eval e env) a s := by
  unfold evs at h
  split at h
  · rename_i hx; cases hx
  · cases h
  · rename_i hx
    cases hx
    refine bindE h fun b h1 h => ?_
    obtain ⟨_, _, h⟩ := Option.map_eq_some_iff.mp h
    cases h
    exact d.ev cc h1
end
theorem sd : ∀ n, Sd W mg mb n
  | 0 => sd_zero
  | n + 1 => ⟨sd_ev (sd n), sd_evo (sd n), sd_evs (sd n), sd_evs1 (sd n), sd_cmpT (sd n), sd_tst (sd n), sd_tsts (sd n), sd_tstO (sd n)⟩
end Mine
end
section
namespace Mine
open PySem PySem.Calls PyProof.Rows PySem.W

/-- what a call may turn -/
noncomputable def chg (env : Env) (oa : Addr → Prop) (b : Addr) : Prop := b = env.locals ∨ (∃ x, env.cells.lookup x = some b) ∨ oa b
noncomputable def okOf (env : Env) (okp oa : Addr → Prop) (b : Addr) : Prop := okp b ∧ ¬ chg env oa b
noncomputable def updV (val : Str → Value) (x : Str) (v : Value) : Str → Value := fun y => if y = x then v else val y

structure Inv (W : World') (mg mb : Str → Option Value) (X : Cx) (k : Nat) (env : Env) (A : Around) (s₀ : Shared) (okp oa : Addr → Prop) (val : Str → Value) (σ : Sg) (s : Shared) : Prop where
  good : Good k A
  en : EnvOk X env
  g : GOk W mg mb X
  c : COk W mg mb X.C k
  st₀ : Stt W mg mb s₀
  kx : Kx s₀ s
  fr : Fresh okp s.heap
  frs : ∀ b, chg env oa b → s₀.heap.get? b = none
  loc : ∃ m, s.heap.Ns env.locals m ∧ ∀ x a, σ x = some a → X.K x = some .local → m x = some (val x)
  cel : ∀ x c, env.cells.lookup x = some c → ∃ v, s.heap.IsCell c v
  cval : ∀ x a c, σ x = some a → X.K x = some .cell → env.cells.lookup x = some c → s.heap.IsCell c (some (val x))
  kd : ∀ x a, σ x = some a → X.K x = some .local ∨ X.K x = some .cell
  rep : ∀ x a, σ x = some a → Rep W s.heap (okOf env okp oa) oa (val x) a
  lst : ∀ b, oa b → ∃ it, s.heap.PlainList b it
  inj : ∀ x y c, env.cells.lookup x = some c → env.cells.lookup y = some c → x = y
  apart : ∀ x y xs ys, σ x = some (.own xs) → σ y = some (.own ys) → x ≠ y → val x ≠ val y

/-- from one state of a call to a later one -/
structure Stp (env : Env) (oa oa' : Addr → Prop) (s s' : Shared) : Prop where
  kp : ∀ b o, ¬ chg env oa b → s.heap.get? b = some o → s'.heap.get? b = some o
  inc : ∀ b, oa b → oa' b
  grow : ∀ b, oa' b → oa b ∨ s.heap.get? b = none
  ex : ∀ b, s'.heap.get? b = none → s.heap.get? b = none

section
variable {W : World'} {mg mb : Str → Option Value} {X : Cx} {k : Nat} {env : Env} {A : Around} {s₀ s s' s'' : Shared} {okp oa oa' oa'' : Addr → Prop} {val : Str → Value} {σ : Sg}

theorem list_ns {h : Heap} {a : Addr} {it m} (x : h.IsList a it) (y : h.Ns a m) : False := by
  obtain ⟨o, ho, _, n, hd⟩ := x
  obtain ⟨o', es, ep, ho', hd', _⟩ := y
  rw [ho] at ho'; cases ho'; rw [hd] at hd'; cases hd'
theorem list_cell {h : Heap} {a : Addr} {it v} (x : h.IsList a it) (y : h.IsCell a v) : False := by
  obtain ⟨o, ho, _, n, hd⟩ := x
  obtain ⟨o', ho', hd'⟩ := y
  rw [ho] at ho'; cases ho'; rw [hd] at hd'; cases hd'
theorem ns_cell {h : Heap} {a : Addr} {m v} (x : h.Ns a m) (y : h.IsCell a v) : False := by
  obtain ⟨o, es, ep, ho, hd, _⟩ := x
  obtain ⟨o', ho', hd'⟩ := y
  rw [ho] at ho'; cases ho'; rw [hd] at hd'; cases hd'
theorem ns_some {h : Heap} {a : Addr} {m} (x : h.Ns a m) : h.get? a ≠ none := by obtain ⟨o, es, ep, ho, _⟩ := x; rw [ho]; simp
theorem list_some {h : Heap} {a : Addr} {it} (x : h.IsList a it) : h.get? a ≠ none := by obtain ⟨o, ho, _⟩ := x; rw [ho]; simp
theorem cell_some {h : Heap} {a : Addr} {v} (x : h.IsCell a v) : h.get? a ≠ none := by obtain ⟨o, ho, _⟩ := x; rw [ho]; simp

theorem Inv.chg_some (i : Inv W mg mb X k env A s₀ okp oa val σ s) {b : Addr} (h : chg env oa b) : s.heap.get? b ≠ none := by
  rcases h with rfl | ⟨x, hx⟩ | h
  · obtain ⟨m, hn, _⟩ := i.loc; exact ns_some hn
  · obtain ⟨v, hv⟩ := i.cel x b hx; exact cell_some hv
  · obtain ⟨it, hl⟩ := i.lst b h; exact list_some hl.isList
theorem Inv.fresh (i : Inv W mg mb X k env A s₀ okp oa val σ s) : Fresh (okOf env okp oa) s.heap := fun b hb => ⟨i.fr b hb, fun h => i.chg_some h hb⟩
theorem Inv.cc (i : Inv W mg mb X k env A s₀ okp oa val σ s) : Cc W mg mb X k env A (okOf env okp oa) oa σ s := by
  refine ⟨i.good, i.en, i.g, i.c, i.st₀.up i.kx, i.fresh, ?_⟩
  obtain ⟨m, hn, hm⟩ := i.loc
  refine ⟨m, hn, fun x a e => ⟨val x, i.rep x a e, ?_⟩⟩
  rcases i.kd x a e with h | h
  · exact .inl ⟨h, hm x a e h⟩
  · obtain ⟨c, hc⟩ := i.en.cells x h
    exact .inr ⟨h, c, hc, i.cval x a c e h hc⟩
theorem Inv.up (i : Inv W mg mb X k env A s₀ okp oa val σ s) (k' : Kx s s') : Inv W mg mb X k env A s₀ okp oa val σ s' := by
  have kp := k'.kp
  exact { i with
    kx := i.kx.trans k'
    fr := i.fr.up kp
    loc := let ⟨m, hn, hm⟩ := i.loc; ⟨m, hn.keeps kp, hm⟩
    cel := fun x c h => let ⟨v, hv⟩ := i.cel x c h; ⟨v, hv.keeps kp⟩
    cval := fun x a c h1 h2 h3 => (i.cval x a c h1 h2 h3).keeps kp
    rep := fun x a h => (i.rep x a h).up kp
    lst := fun b h => let ⟨it, hl⟩ := i.lst b h; ⟨it, let ⟨o, e⟩ := hl; ⟨o, kp _ _ e⟩⟩ }
theorem none_kp {h h' : Heap} (k : Kp h h') {b : Addr} (e : h'.get? b = none) : h.get? b = none := by
  cases e' : h.get? b with
  | none => rfl
  | some o => rw [k _ _ e'] at e; cases e
theorem Stp.ofKx (k' : Kx s s') : Stp env oa oa s s' := ⟨fun b o _ e => k'.kp b o e, fun _ h => h, fun _ h => .inl h, fun b h => none_kp k'.kp h⟩
theorem Stp.refl : Stp env oa oa s s := Stp.ofKx (Kx.refl s)
theorem Stp.trans (x : Stp env oa oa' s s') (y : Stp env oa' oa'' s' s'') : Stp env oa oa'' s s'' where
  kp := fun b o hb e => y.kp b o (fun h => by
    rcases h with h | h | h
    · exact hb (.inl h)
    · exact hb (.inr (.inl h))
    · rcases x.grow b h with h | h
      · exact hb (.inr (.inr h))
      · rw [h] at e; cases e) (x.kp b o hb e)
  inc := fun b h => y.inc b (x.inc b h)
  grow := fun b h => (y.grow b h).elim (fun h => x.grow b h) fun h => .inr (x.ex b h)
  ex := fun b h => x.ex b (y.ex b h)
/-- what a step leaves of a value -/
theorem Stp.rep {v : Value} {a : V} (t : Stp env oa oa' s s') (n : a.isOwn = false) (r : Rep W s.heap (okOf env okp oa) oa v a) : Rep W s'.heap (okOf env okp oa') oa' v a :=
  r.on (fun b o h e => t.kp b o h.2 e) (fun b ⟨o, e⟩ h => ⟨h.1, fun c => h.2 (by
    rcases c with c | c | c
    · exact .inl c
    · exact .inr (.inl c)
    · rcases t.grow b c with g | g
      · exact .inr (.inr g)
      · rw [g] at e; cases e)⟩) n

theorem Rep.off {ok ow : Addr → Prop} {h h' : Heap} {c : Addr} (e : ∀ b o, b ≠ c → h.get? b = some o → h'.get? b = some o) (n1 : ¬ ok c) (n2 : ¬ ow c) {v : Value} {a : V} (r : Rep W h ok ow v a) : Rep W h' ok ow v a := by
  cases hn : a.isOwn with
  | false => exact r.on (fun b o hb => e b o (fun q => n1 (q ▸ hb))) (fun _ _ x => x) hn
  | true =>
    obtain ⟨xs, rfl⟩ := own_is hn
    obtain ⟨D, vs, rfl, l, w, r⟩ := rOwn r
    exact .own (let ⟨o, ho⟩ := l; ⟨o, e _ _ (fun q => n2 (q ▸ w)) ho⟩) w (r.on (fun b o hb => e b o (fun q => n1 (q ▸ hb))) (fun _ _ x => x))

theorem Inv.loc_cell (i : Inv W mg mb X k env A s₀ okp oa val σ s) {x : Str} {c : Addr} (h : env.cells.lookup x = some c) : c ≠ env.locals := by
  rintro rfl
  obtain ⟨m, hn, _⟩ := i.loc
  obtain ⟨v, hv⟩ := i.cel x _ h
  exact ns_cell hn hv
theorem Inv.loc_own (i : Inv W mg mb X k env A s₀ okp oa val σ s) : ¬ oa env.locals := fun h => by
  obtain ⟨m, hn, _⟩ := i.loc
  obtain ⟨it, hl⟩ := i.lst _ h
  exact list_ns hl.isList hn
theorem Inv.cell_own (i : Inv W mg mb X k env A s₀ okp oa val σ s) {x : Str} {c : Addr} (h : env.cells.lookup x = some c) : ¬ oa c := fun ho => by
  obtain ⟨v, hv⟩ := i.cel x _ h
  obtain ⟨it, hl⟩ := i.lst _ ho
  exact list_cell hl.isList hv

end
end Mine
end
section
namespace Mine
open PySem PySem.Calls PyProof.Rows PySem.W

section
variable {W : World'} {mg mb : Str → Option Value} {X : Cx} {k : Nat} {env : Env} {A : Around} {s₀ s s' s'' : Shared} {okp oa oa' oa'' : Addr → Prop} {val : Str → Value} {σ : Sg}

theorem Inv.kpOf (i : Inv W mg mb X k env A s₀ okp oa val σ s) {c : Addr} (hc : chg env oa c) {h' : Heap} (hx : ∀ b o, b ≠ c → s.heap.get? b = some o → h'.get? b = some o) {tk : Nat} (ht : s.toks ≤ tk) : Kx s₀ { s with heap := h', toks := tk } :=
  ⟨kVia i.kx.keeps fun b o e => hx b o (fun q => by rw [q, i.frs c hc] at e; cases e) (i.kx.kp b o e), Nat.le_trans i.kx.toks ht⟩
theorem Stp.at {c : Addr} (hc : chg env oa c) {h' : Heap} (hx : ∀ b o, b ≠ c → s.heap.get? b = some o → h'.get? b = some o) (hc' : h'.get? c ≠ none) {tk : Nat} : Stp env oa oa s { s with heap := h', toks := tk } :=
  ⟨fun b o hb e => hx b o (fun q => hb (q ▸ hc)) e, fun _ h => h, fun _ h => .inl h, fun b h => by
    cases e : s.heap.get? b with
    | none => rfl
    | some o =>
      by_cases q : b = c
      · subst q; exact absurd h hc'
      · have h : h'.get? b = none := h
        rw [hx b o q e] at h; cases h⟩
theorem frAt {c : Addr} {h h' : Heap} (f : Fresh okp h) (hx : ∀ b o, b ≠ c → h.get? b = some o → h'.get? b = some o) (hc' : h'.get? c ≠ none) : Fresh okp h' := fun b hb => f b (by
  cases e : h.get? b with
  | none => rfl
  | some o =>
    by_cases q : b = c
    · subst q; exact absurd hb hc'
    · rw [hx b o q e] at hb; cases hb)

theorem upd_self {x : Str} {a : V} : upd σ x a x = some a := if_pos rfl
theorem upd_ne {x y : Str} {a : V} (h : y ≠ x) : upd σ x a y = σ y := if_neg h
theorem updV_self {x : Str} {v : Value} : updV val x v x = v := if_pos rfl
theorem updV_ne {x y : Str} {v : Value} (h : y ≠ x) : updV val x v y = val y := if_neg h

theorem apart_upd (i : Inv W mg mb X k env A s₀ okp oa val σ s) {x : Str} {a : V} {v : Value} (ap : ∀ xs, a = .own xs → ∀ y ys, y ≠ x → σ y = some (.own ys) → val y ≠ v) :
    ∀ y z xs ys, upd σ x a y = some (.own xs) → upd σ x a z = some (.own ys) → y ≠ z → updV val x v y ≠ updV val x v z := by
  intro y z xs ys h1 h2 hne
  by_cases hy : y = x
  · subst hy
    have hz : z ≠ y := fun q => hne q.symm
    rw [upd_self] at h1; cases h1
    rw [upd_ne hz] at h2
    rw [updV_self, updV_ne hz]
    exact fun q => ap _ rfl z ys hz h2 q.symm
  · rw [upd_ne hy] at h1
    rw [updV_ne hy]
    by_cases hz : z = x
    · subst hz
      rw [upd_self] at h2; cases h2
      rw [updV_self]
      exact ap _ rfl y xs hy h1
    · rw [upd_ne hz] at h2
      rw [updV_ne hz]
      exact i.apart y z xs ys h1 h2 hne

/-- a name is stored -/
theorem store_ok (i : Inv W mg mb X k env A s₀ okp oa val σ s) {x : Str} {a : V} {v : Value} (hk : X.K x = some .local ∨ X.K x = some .cell) (r : Rep W s.heap (okOf env okp oa) oa v a)
    (ap : ∀ xs, a = .own xs → ∀ y ys, y ≠ x → σ y = some (.own ys) → val y ≠ v) {E : Value → Shared → Prop} {Q : Unit → Shared → Prop}
    (h : ∀ s', Inv W mg mb X k env A s₀ okp oa (updV val x v) (upd σ x a) s' → Stp env oa oa s s' → (∀ b o, oa b → s.heap.get? b = some o → s'.heap.get? b = some o) → Q () s') : wpAny (model W.prog W.w) A (storeName env x v) Q E s := by
  have repAt : ∀ {c : Addr} {h' : Heap}, chg env oa c → ¬ oa c → (∀ b o, b ≠ c → s.heap.get? b = some o → h'.get? b = some o) → ∀ y b, upd σ x a y = some b → Rep W h' (okOf env okp oa) oa (updV val x v y) b := by
    intro c h' hc hco hx y b e
    have n1 : ¬ okOf env okp oa c := fun q => q.2 hc
    by_cases hy : y = x
    · subst hy
      rw [upd_self] at e; cases e
      rw [updV_self]; exact r.off hx n1 hco
    · rw [upd_ne hy] at e
      rw [updV_ne hy]; exact (i.rep y b e).off hx n1 hco
  have kd' : ∀ y b, upd σ x a y = some b → X.K y = some .local ∨ X.K y = some .cell := by
    intro y b e
    by_cases hy : y = x
    · subst hy; exact hk
    · rw [upd_ne hy] at e; exact i.kd y b e
  rcases hk with hl | hl
  · obtain ⟨m, hn, hm⟩ := i.loc
    refine wpAny_storeName_local ((i.en.kinds x).trans hl) hn (fun h' hn' hs' => ?_) (by rw [i.en.kind]; rfl)
    have hx : ∀ b o, b ≠ env.locals → s.heap.get? b = some o → h'.get? b = some o := fun b o q e => hs'.extBut b o q e
    have hc : chg env oa env.locals := .inl rfl
    refine h _ { i with
      kx := i.kpOf hc hx (Nat.le_succ _)
      fr := frAt i.fr hx (ns_some hn')
      loc := ⟨_, hn', fun y b e q => ?_⟩
      cel := fun y c e => let ⟨u, o, ho, hd⟩ := i.cel y c e; ⟨u, o, hx _ o (i.loc_cell e) ho, hd⟩
      cval := fun y b c e q1 q2 => ?_
      kd := kd'
      rep := repAt hc i.loc_own hx
      lst := fun b hb => let ⟨it, o, ho⟩ := i.lst b hb; ⟨it, o, hx _ _ (fun q => i.loc_own (q ▸ hb)) ho⟩
      apart := apart_upd i ap } (Stp.at hc hx (ns_some hn')) (fun b o hb e => hx b o (fun q => i.loc_own (q ▸ hb)) e)
    · by_cases hy : y = x
      · subst hy; rw [updV_self]; exact if_pos rfl
      · rw [upd_ne hy] at e; rw [updV_ne hy]; exact (if_neg hy).trans (hm y b e q)
    · have hy : y ≠ x := by rintro rfl; rw [hl] at q1; cases q1
      rw [upd_ne hy] at e; rw [updV_ne hy]
      obtain ⟨o, ho, hd⟩ := i.cval y b c e q1 q2
      exact ⟨o, hx _ o (i.loc_cell q2) ho, hd⟩
  · obtain ⟨c, hcl⟩ := i.en.cells x hl
    obtain ⟨v₀, hv₀⟩ := i.cel x c hcl
    refine wpAny_storeName_cell i.en.kind ((i.en.kinds x).trans hl) hcl hv₀ fun h' hc' hs' => ?_
    have hx : ∀ b o, b ≠ c → s.heap.get? b = some o → h'.get? b = some o := fun b o q e => hs'.extBut b o q e
    have hc : chg env oa c := .inr (.inl ⟨x, hcl⟩)
    refine h _ { i with
      kx := i.kpOf hc hx (Nat.le_refl _)
      fr := frAt i.fr hx (cell_some hc')
      loc := let ⟨m, hn, hm⟩ := i.loc; ⟨m, hn.at' fun o e => hx _ o (fun q => i.loc_cell hcl q.symm) e, fun y b e q => ?_⟩
      cel := fun y d e => ?_
      cval := fun y b d e q1 q2 => ?_
      kd := kd'
      rep := repAt hc (i.cell_own hcl) hx
      lst := fun b hb => let ⟨it, o, ho⟩ := i.lst b hb; ⟨it, o, hx _ _ (fun q => i.cell_own hcl (q ▸ hb)) ho⟩
      apart := apart_upd i ap } (Stp.at hc hx (cell_some hc')) (fun b o hb e => hx b o (fun q => i.cell_own hcl (q ▸ hb)) e)
    · have hy : y ≠ x := by rintro rfl; rw [hl] at q; cases q
      rw [upd_ne hy] at e; rw [updV_ne hy]; exact hm y b e q
    · by_cases hd : d = c
      · subst hd; exact ⟨_, hc'⟩
      · obtain ⟨u, o, ho, q⟩ := i.cel y d e; exact ⟨u, o, hx _ o hd ho, q⟩
    · by_cases hy : y = x
      · subst hy; rw [hcl] at q2; cases q2
        rw [updV_self]; exact hc'
      · rw [upd_ne hy] at e; rw [updV_ne hy]
        obtain ⟨o, ho, hd⟩ := i.cval y b d e q1 q2
        exact ⟨o, hx _ o (fun q => hy (i.inj y x c (q ▸ q2) hcl)) ho, hd⟩

/-- a list made anew is barred for all else -/
theorem Inv.bar (i : Inv W mg mb X k env A s₀ okp oa val σ s) (kx' : Kx s s') {D : Addr} {it : Array Value} (hD : s.heap.get? D = none) (hl : s'.heap.PlainList D it) :
    Inv W mg mb X k env A s₀ okp (fun b => oa b ∨ b = D) val σ s' ∧ Stp env oa (fun b => oa b ∨ b = D) s s' := by
  have i' := i.up kx'
  have ne : ∀ b, chg env oa b → b ≠ D := fun b h q => i.chg_some h (q ▸ hD)
  have okup : ∀ b, (∃ o, s.heap.get? b = some o) → okOf env okp oa b → okOf env okp (fun b => oa b ∨ b = D) b := fun b ⟨o, e⟩ h => ⟨h.1, fun c => by
    rcases c with c | c | c | c
    · exact h.2 (.inl c)
    · exact h.2 (.inr (.inl c))
    · exact h.2 (.inr (.inr c))
    · rw [c, hD] at e; cases e⟩
  refine ⟨{ i' with
    frs := fun b hb => ?_
    rep := fun x a e => ((i.rep x a e).let okup (fun b h => .inl h)).up kx'.kp
    lst := fun b hb => hb.elim (fun h => i'.lst b h) fun h => ⟨it, h ▸ hl⟩ }, ⟨fun b o _ e => kx'.kp b o e, fun b h => .inl h, fun b h => h.elim .inl fun q => .inr (q ▸ hD), fun b h => none_kp kx'.kp h⟩⟩
  rcases hb with h | h | h | h
  · exact i.frs b (.inl h)
  · exact i.frs b (.inr (.inl h))
  · exact i.frs b (.inr (.inr h))
  · subst h; exact none_kp i.kx.kp hD
theorem bar_rep (i : Inv W mg mb X k env A s₀ okp oa val σ s) {D : Addr} (hD : s.heap.get? D = none) {vs : List Value} {xs : List V} (r : RepL W s.heap (okOf env okp oa) oa vs xs) (kp : Kp s.heap s'.heap) :
    RepL W s'.heap (okOf env okp fun b => oa b ∨ b = D) (fun b => oa b ∨ b = D) vs xs :=
  r.on (fun b o _ e => kp b o e) (fun b ⟨o, e⟩ h => ⟨h.1, fun c => by
    rcases c with c | c | c | c
    · exact h.2 (.inl c)
    · exact h.2 (.inr (.inl c))
    · exact h.2 (.inr (.inr c))
    · rw [c, hD] at e; cases e⟩)

/-- an own list turned -/
theorem turnOwn (i : Inv W mg mb X k env A s₀ okp oa val σ s) {x : Str} {xs ys : List V} {D : Addr} {ws : List Value} {h' : Heap} {tk : Nat} (hx : σ x = some (.own xs)) (hv : val x = .ref D) (hD : oa D) (hl : h'.PlainList D ws.toArray)
    (hk : ∀ b o, b ≠ D → s.heap.get? b = some o → h'.get? b = some o) (r : RepL W s.heap (okOf env okp oa) oa ws ys) (ht : s.toks ≤ tk) :
    Inv W mg mb X k env A s₀ okp oa val (upd σ x (.own ys)) { s with heap := h', toks := tk } ∧ Stp env oa oa s { s with heap := h', toks := tk } := by
  have hc : chg env oa D := .inr (.inr hD)
  have n1 : ¬ okOf env okp oa D := fun q => q.2 hc
  refine ⟨{ i with
    kx := i.kpOf hc hk ht
    fr := frAt i.fr hk (list_some hl.isList)
    loc := let ⟨m, hn, hm⟩ := i.loc; ⟨m, hn.at' fun o e => hk _ o (fun q => i.loc_own (q ▸ hD)) e, fun y b e q => ?_⟩
    cel := fun y c e => let ⟨u, o, ho, hd⟩ := i.cel y c e; ⟨u, o, hk _ o (fun q => i.cell_own e (q ▸ hD)) ho, hd⟩
    cval := fun y b c e q1 q2 => ?_
    kd := fun y b e => ?_
    rep := fun y b e => ?_
    lst := fun b hb => ?_
    apart := fun y z us vs e1 e2 hne => ?_ }, Stp.at hc hk (list_some hl.isList)⟩
  · by_cases hy : y = x
    · subst hy; exact hm y _ hx q
    · rw [upd_ne hy] at e; exact hm y b e q
  · have : ∃ b', σ y = some b' := by
      by_cases hy : y = x
      · subst hy; exact ⟨_, hx⟩
      · rw [upd_ne hy] at e; exact ⟨_, e⟩
    obtain ⟨b', e'⟩ := this
    obtain ⟨o, ho, hd⟩ := i.cval y b' c e' q1 q2
    exact ⟨o, hk _ o (fun q => i.cell_own q2 (q ▸ hD)) ho, hd⟩
  · by_cases hy : y = x
    · subst hy; exact i.kd y _ hx
    · rw [upd_ne hy] at e; exact i.kd y b e
  · by_cases hy : y = x
    · subst hy
      rw [upd_self] at e; cases e
      rw [hv]
      exact .own hl hD (r.on (fun b o hb => hk b o (fun q => n1 (q ▸ hb))) (fun _ _ q => q))
    · rw [upd_ne hy] at e
      have r0 := i.rep y b e
      cases hb : b.isOwn with
      | false => exact r0.on (fun b o hb => hk b o (fun q => n1 (q ▸ hb))) (fun _ _ q => q) hb
      | true =>
        cases b <;> try cases hb
        have hne := i.apart y x _ _ e hx hy
        generalize val y = vy at r0 hne
        cases r0
        rename_i a vs l w rr
        have : a ≠ D := fun q => hne (by rw [hv, q])
        exact .own (let ⟨o, ho⟩ := l; ⟨o, hk _ _ this ho⟩) w (rr.on (fun b o hb => hk b o (fun q => n1 (q ▸ hb))) (fun _ _ q => q))
  · by_cases hb' : b = D
    · subst hb'; exact ⟨_, hl⟩
    · obtain ⟨it, o, ho⟩ := i.lst b hb; exact ⟨it, o, hk _ _ hb' ho⟩
  · have f : ∀ y us, upd σ x (.own ys) y = some (.own us) → ∃ us', σ y = some (.own us') := by
      intro y us e
      by_cases hy : y = x
      · subst hy; exact ⟨_, hx⟩
      · rw [upd_ne hy] at e; exact ⟨_, e⟩
    obtain ⟨_, e1'⟩ := f y us e1
    obtain ⟨_, e2'⟩ := f z vs e2
    exact i.apart y z _ _ e1' e2' hne
end
end Mine
end
section
namespace Mine
open PySem

theorem lt5 {p : Nat → Prop} (h0 : p 0) (h1 : p 1) (h2 : p 2) (h3 : p 3) (h4 : p 4) : ∀ k, k < 5 → p k
  | 0, _ => h0 | 1, _ => h1 | 2, _ => h2 | 3, _ => h3 | 4, _ => h4
  | k + 5, h => absurd (Nat.le_add_left 5 k) (Nat.not_le_of_lt h)
theorem lt9 {p : Nat → Prop} (h0 : p 0) (h1 : p 1) (h2 : p 2) (h3 : p 3) (h4 : p 4) (h5 : p 5) (h6 : p 6) (h7 : p 7) (h8 : p 8) : ∀ k, k < 9 → p k
  | 0, _ => h0 | 1, _ => h1 | 2, _ => h2 | 3, _ => h3 | 4, _ => h4 | 5, _ => h5 | 6, _ => h6 | 7, _ => h7 | 8, _ => h8
  | k + 9, h => absurd (Nat.le_add_left 9 k) (Nat.not_le_of_lt h)
/-- every sign c gives way to z -/
noncomputable def swapS (c : Nat) (z : List Nat) (l : List Nat) : List Nat := l.flatMap fun k => if k = c then z else [k]
theorem swapS_append (c : Nat) (z a b : List Nat) : swapS c z (a ++ b) = swapS c z a ++ swapS c z b := by simp [swapS]
theorem swapS_free (c : Nat) (z : List Nat) : ∀ l : List Nat, c ∉ l → swapS c z l = l
  | [], _ => rfl
  | k :: r, h => by
    have h1 : ¬ k = c := fun e => h (e ▸ List.mem_cons_self ..)
    have ih := swapS_free c z r fun m => h (List.mem_cons_of_mem _ m)
    unfold swapS at ih ⊢
    rw [List.flatMap_cons, if_neg h1, ih]; rfl
theorem swapS_join (c : Nat) (z : Str) : ∀ parts : List Str, (∀ p ∈ parts, c ∉ p.cps.toList) → swapS c z.cps.toList (Str.join ⟨#[c]⟩ parts).cps.toList = (Str.join z parts).cps.toList
  | [], _ => rfl
  | [p], h => swapS_free c _ _ (h p (List.mem_singleton.mpr rfl))
  | p :: q :: r, h => by
    have ih := swapS_join c z (q :: r) fun a ha => h a (List.mem_cons_of_mem _ ha)
    show swapS c z.cps.toList (p ++ ⟨#[c]⟩ ++ Str.join ⟨#[c]⟩ (q :: r)).cps.toList = (p ++ z ++ Str.join z (q :: r)).cps.toList
    simp only [Str.cps_append, Array.toList_append]
    rw [swapS_append, swapS_append, ih, swapS_free c _ _ (h p (List.mem_cons_self ..))]
    simp [swapS]
theorem replace_sign (x z : Str) (c : Nat) : (Txt.replace x ⟨#[c]⟩ z).cps.toList = swapS c z.cps.toList x.cps.toList := by
  rw [StrLaws.replace_one, ← swapS_join c z _ (StrLaws.split_free x c), StrLaws.join_split]
theorem contains_sign (x : Str) (c : Nat) : Txt.contains x ⟨#[c]⟩ = decide (c ∈ x.cps.toList) := StrLaws.found_one x c
/-- replaced where it is, else left: the same -/
theorem cond_replace (x z : Str) (c : Nat) : (if Txt.contains x ⟨#[c]⟩ = true then Txt.replace x ⟨#[c]⟩ z else x).cps.toList = swapS c z.cps.toList x.cps.toList := by
  rw [contains_sign]
  by_cases h : c ∈ x.cps.toList
  · rw [if_pos (decide_eq_true h), replace_sign]
  · rw [if_neg (by simpa using h), swapS_free c _ _ h]
end Mine
end
section
namespace Mine
open PySem

/-- the statements of an escape, told by their pairs -/
inductive EscS : List Stmt → List (Nat × Str) → Prop
  | ret {p q : Pos} : EscS [.Return (some (.Name "text" p)) q] []
  | step {c : Nat} {z : Str} {k1 k2 k3 : Nat} {p1 p2 p3 p4 p5 p6 p7 p8 p9 p10 p11 : Pos} {r cs} : (p6.endLine == p9.line) = true → ((⟨#[c]⟩ : Str) == z) = false → z.length ≤ 16 → EscS r cs →
      EscS (.If (.Compare (.Constant (.str ⟨#[c]⟩) k1 p1) [.In] [.Name "text" p2] p3) [.Assign [.Name "text" p4] (.Call (.Attribute (.Name "text" p5) "replace" p6) [.Constant (.str ⟨#[c]⟩) k2 p7, .Constant (.str z) k3 p8] [] p9) p10] [] p11 :: r) ((c, z) :: cs)
noncomputable def escL (cs : List (Nat × Str)) (l : List Nat) : List Nat := cs.foldl (fun l p => swapS p.1 p.2.cps.toList l) l
/-- it never grows too long on the way -/
noncomputable def escFits : List (Nat × Str) → List Nat → Bool
  | [], l => decide (l.length ≤ 64)
  | p :: r, l => decide (l.length ≤ 64) && escFits r (swapS p.1 p.2.cps.toList l)

theorem ev_nm {X : Cx} {σ : Sg} {n : Nat} {p : Pos} {a : V} (h3 : X.K "text" = some .local) (h4 : σ "text" = some a) : ev X (n + 1) (.Name "text" p) σ = some a := by
  have he : ev X (n + 1) (.Name "text" p) σ = if plainName "text" then (if X.K "text" = some .globalImplicit then X.G "text" else σ "text") else none := rfl
  rw [he, if_pos (by decide), h3, if_neg (by decide), h4]
theorem esc_tst {X : Cx} {σ : Sg} {n : Nat} {c : Nat} {k : Nat} {p q r : Pos} {x : Str} (h3 : X.K "text" = some .local) (h4 : σ "text" = some (.str x)) :
    tst X (n + 3) (.Compare (.Constant (.str ⟨#[c]⟩) k p) [.In] [.Name "text" q] r) σ = some (Txt.contains x ⟨#[c]⟩) := by
  have he : tst X (n + 3) (.Compare (.Constant (.str ⟨#[c]⟩) k p) [.In] [.Name "text" q] r) σ = (ev X (n + 2) (.Compare (.Constant (.str ⟨#[c]⟩) k p) [.In] [.Name "text" q] r) σ).bind truth := rfl
  have he' : ev X (n + 2) (.Compare (.Constant (.str ⟨#[c]⟩) k p) [.In] [.Name "text" q] r) σ = (ev X (n + 1) (.Name "text" q) σ).bind fun b => cmp .In (.str ⟨#[c]⟩) b := rfl
  rw [he, he', ev_nm h3 h4]
  rfl
theorem esc_ev {X : Cx} {σ : Sg} {n : Nat} {c : Nat} {z : Str} {k2 k3 : Nat} {p5 p6 p7 p8 p9 : Pos} {x : Str} (h3 : X.K "text" = some .local) (h4 : σ "text" = some (.str x)) (hl : (p6.endLine == p9.line) = true) (hz : ((⟨#[c]⟩ : Str) == z) = false) (hx : x.length ≤ 64) (hzl : z.length ≤ 16) :
    ev X (n + 2) (.Call (.Attribute (.Name "text" p5) "replace" p6) [.Constant (.str ⟨#[c]⟩) k2 p7, .Constant (.str z) k3 p8] [] p9) σ = some (.str (Txt.replace x ⟨#[c]⟩ z)) := by
  have he : ev X (n + 2) (.Call (.Attribute (.Name "text" p5) "replace" p6) [.Constant (.str ⟨#[c]⟩) k2 p7, .Constant (.str z) k3 p8] [] p9) σ =
      if (p6.endLine == p9.line && baseOk (.Name "text" p5)) && (decide (("replace" : Str) = "replace") && !((⟨#[c]⟩ : Str) == z)) then (ev X (n + 1) (.Name "text" p5) σ).bind fun ov => (match ov with
        | .str x => if x.length ≤ 64 ∧ z.length ≤ 16 then some (.str (Txt.replace x ⟨#[c]⟩ z)) else none
        | _ => none) else none := rfl
  rw [he, hl, hz, if_pos (by rfl), ev_nm h3 h4]
  show (if x.length ≤ 64 ∧ z.length ≤ 16 then some (V.str (Txt.replace x ⟨#[c]⟩ z)) else none) = _
  rw [if_pos ⟨hx, hzl⟩]
theorem upd_same {σ : Sg} {x : Str} {a : V} (h : σ x = some a) : upd σ x a = σ := by
  funext y
  unfold upd
  split
  · rename_i e; rw [e, h]
  · rfl
theorem esc_ex {X : Cx} {σ : Sg} {n : Nat} {c : Nat} {z : Str} {k1 k2 k3 : Nat} {p1 p2 p3 p4 p5 p6 p7 p8 p9 p10 p11 : Pos} {x : Str} (h3 : X.K "text" = some .local) (hO : X.O "text" = false) (h4 : σ "text" = some (.str x)) (hl : (p6.endLine == p9.line) = true) (hz : ((⟨#[c]⟩ : Str) == z) = false) (hx : x.length ≤ 64) (hzl : z.length ≤ 16) :
    ex X (n + 6) (.If (.Compare (.Constant (.str ⟨#[c]⟩) k1 p1) [.In] [.Name "text" p2] p3) [.Assign [.Name "text" p4] (.Call (.Attribute (.Name "text" p5) "replace" p6) [.Constant (.str ⟨#[c]⟩) k2 p7, .Constant (.str z) k3 p8] [] p9) p10] [] p11) σ =
      some (.next, upd σ "text" (.str (if Txt.contains x ⟨#[c]⟩ = true then Txt.replace x ⟨#[c]⟩ z else x))) := by
  have he : ∀ (t : Expr) (b : Stmt) (p : Pos), ex X (n + 6) (.If t [b] [] p) σ = (tst X (n + 5) t σ).bind fun c => if c then thenS (ex X (n + 4) b σ) (fun σ => some (.next, σ)) else some (.next, σ) := fun t b p => rfl
  rw [he, esc_tst (n := n + 2) h3 h4]
  cases hc : Txt.contains x ⟨#[c]⟩ with
  | false =>
    simp only [Option.bind_some, Bool.false_eq_true, if_false]
    rw [upd_same h4]
  | true =>
    simp only [Option.bind_some, if_true]
    have he2 : ∀ (e : Expr) (p q : Pos), ex X (n + 4) (.Assign [.Name "text" p] e q) σ = if X.O "text" then (if makes X e then (ev X (n + 3) e σ).bind fun v => (putOwn X "text" v σ).map (Fl.next, ·) else none) else (ev X (n + 3) e σ).bind fun v => (put X "text" v σ).map (Fl.next, ·) := fun e p q => rfl
    rw [he2, hO, esc_ev (n := n + 1) h3 h4 hl hz hx hzl]
    have hp : put X "text" (.str (Txt.replace x ⟨#[c]⟩ z)) σ = some (upd σ "text" (.str (Txt.replace x ⟨#[c]⟩ z))) := by
      unfold put
      exact if_pos ⟨.inl h3, rfl, hO⟩
    simp only [Bool.false_eq_true, if_false, Option.bind_some, hp, Option.map_some]
    rfl
theorem esc_run {X : Cx} (h3 : X.K "text" = some .local) (hO : X.O "text" = false) {ss : List Stmt} {cs : List (Nat × Str)} (e : EscS ss cs) : ∀ (n : Nat) (σ : Sg) (x : Str), σ "text" = some (.str x) → escFits cs x.cps.toList = true →
    ∃ y σ', exs X (n + cs.length + 8) ss σ = some (.ret (.str y), σ') ∧ y.cps.toList = escL cs x.cps.toList := by
  induction e with
  | @ret p q =>
    intro n σ x h4 _
    refine ⟨x, σ, ?_, rfl⟩
    have he : exs X (n + 0 + 8) [.Return (some (.Name "text" p)) q] σ = thenS ((ev X (n + 6) (.Name "text" p) σ).map fun v => (.ret v, σ)) (fun σ => some (.next, σ)) := rfl
    show exs X (n + 0 + 8) _ _ = _
    rw [he, ev_nm (n := n + 5) h3 h4]
    rfl
  | @step c z k1 k2 k3 p1 p2 p3 p4 p5 p6 p7 p8 p9 p10 p11 r cs hl hz hzl _ ih =>
    intro n σ x h4 hf
    simp only [escFits, Bool.and_eq_true, decide_eq_true_eq] at hf
    have hx : x.length ≤ 64 := by
      have : x.cps.toList.length = x.length := by show x.cps.toList.length = x.cps.size; simp
      omega
    have hs := esc_ex (n := n + cs.length + 2) (k1 := k1) (k2 := k2) (k3 := k3) (p1 := p1) (p2 := p2) (p3 := p3) (p4 := p4) (p5 := p5) (p6 := p6) (p7 := p7) (p8 := p8) (p9 := p9) (p10 := p10) (p11 := p11) h3 hO h4 hl hz hx hzl
    obtain ⟨y, σ', h1, h2⟩ := ih n _ _ (upd_self (σ := σ)) (by rw [cond_replace]; exact hf.2)
    refine ⟨y, σ', ?_, by rw [h2, cond_replace]; rfl⟩
    have he : ∀ st, exs X (n + (cs.length + 1) + 8) (st :: r) σ = thenS (ex X (n + cs.length + 8) st σ) (exs X (n + cs.length + 8) r) := fun st => rfl
    rw [List.length_cons, he, hs]
    exact h1
end Mine
end
section
set_option maxRecDepth 20000
namespace Mine
open PySem

noncomputable def escPairs : Nat → List (Nat × Str)
  | 0 => [(38, "&amp;"), (60, "&lt;"), (62, "&gt;")]
  | 1 => [(38, "&amp;"), (60, "&lt;"), (62, "&gt;"), (34, "&quot;"), (13, "&#13;"), (10, "&#10;"), (9, "&#09;")]
  | 2 => [(38, "&amp;"), (62, "&gt;"), (34, "&quot;")]
  | 3 => [(38, "&amp;"), (60, "&lt;"), (62, "&gt;"), (13, "&#xD;")]
  | _ => [(38, "&amp;"), (60, "&lt;"), (34, "&quot;"), (9, "&#x9;"), (10, "&#xA;"), (13, "&#xD;")]
noncomputable def escName : Nat → Str
  | 0 => "_escape_cdata"
  | 1 => "_escape_attrib"
  | 2 => "_escape_attrib_html"
  | 3 => "_escape_cdata_c14n"
  | _ => "_escape_attrib_c14n"
noncomputable def escBody (d : DefRec) : List Stmt := match d.body with
  | [.Try b _ _ _ _] => b
  | _ => []
theorem esc_0 {d : DefRec} (h : recOf (escName 0) = some d) : EscS (escBody d) (escPairs 0) := by
  have e : d = (recOf (escName 0)).get rfl := by simp [h]
  subst e
  exact .step rfl rfl (by decide) (.step rfl rfl (by decide) (.step rfl rfl (by decide) .ret))
theorem esc_1 {d : DefRec} (h : recOf (escName 1) = some d) : EscS (escBody d) (escPairs 1) := by
  have e : d = (recOf (escName 1)).get rfl := by simp [h]
  subst e
  exact .step rfl rfl (by decide) (.step rfl rfl (by decide) (.step rfl rfl (by decide) (.step rfl rfl (by decide) (.step rfl rfl (by decide) (.step rfl rfl (by decide) (.step rfl rfl (by decide) .ret))))))
theorem esc_2 {d : DefRec} (h : recOf (escName 2) = some d) : EscS (escBody d) (escPairs 2) := by
  have e : d = (recOf (escName 2)).get rfl := by simp [h]
  subst e
  exact .step rfl rfl (by decide) (.step rfl rfl (by decide) (.step rfl rfl (by decide) .ret))
theorem esc_3 {d : DefRec} (h : recOf (escName 3) = some d) : EscS (escBody d) (escPairs 3) := by
  have e : d = (recOf (escName 3)).get rfl := by simp [h]
  subst e
  exact .step rfl rfl (by decide) (.step rfl rfl (by decide) (.step rfl rfl (by decide) (.step rfl rfl (by decide) .ret)))
theorem esc_4 {d : DefRec} (h : recOf (escName 4) = some d) : EscS (escBody d) (escPairs 4) := by
  have e : d = (recOf (escName 4)).get rfl := by simp [h]
  subst e
  exact .step rfl rfl (by decide) (.step rfl rfl (by decide) (.step rfl rfl (by decide) (.step rfl rfl (by decide) (.step rfl rfl (by decide) (.step rfl rfl (by decide) .ret)))))
end Mine
end
section
namespace Mine
open PySem PySem.Calls PyProof.Rows PySem.W

section
variable {W : World'} {mg mb : Str → Option Value} {X : Cx} {k : Nat} {env : Env} {A : Around} {s₀ s s' s'' : Shared} {okp oa oa' oa'' : Addr → Prop} {val : Str → Value} {σ : Sg}

theorem load_val (i : Inv W mg mb X k env A s₀ okp oa val σ s) {x : Str} {a : V} (e : σ x = some a) {E : Value → Shared → Prop} {Q : Value → Shared → Prop} (h : Q (val x) s) : wpAny (model W.prog W.w) A (loadName env x) Q E s := by
  rcases i.kd x a e with hk | hk
  · obtain ⟨m, hn, hm⟩ := i.loc
    exact wpAny_loadName_local i.en.kind ((i.en.kinds x).trans hk) hn (hm x a e hk) h
  · obtain ⟨c, hc⟩ := i.en.cells x hk
    exact wpAny_loadName_cell i.en.kind ((i.en.kinds x).trans hk) hc (i.cval x a c e hk hc) h
theorem name_val (i : Inv W mg mb X k env A s₀ okp oa val σ s) {x : Str} {p : Pos} {a : V} (hp : plainName x = true) (e : σ x = some a) {E : Value → Shared → Prop} {Q : Value → Shared → Prop} (h : Q (val x) s) : wpAny (model W.prog W.w) A (eval (.Name x p) env) Q E s :=
  wpAny_Name (load_val i e h) (by simpa [plainName] using hp)

theorem isTyp_is {o : Option V} {n : String} (h : isTyp o n = true) : o = some (.typ n) := by
  unfold isTyp at h
  split at h
  · rw [beq_iff_eq] at h; rw [h]
  · cases h
/-- a list made anew -/
theorem make_e {ok ow : Addr → Prop} {n : Nat} {e : Expr} {xs : List V} (cc : Cc W mg mb X k env A ok ow σ s) (hm : makes X e = true) (h : ev X n e σ = some (.lst xs)) {E : Value → Shared → Prop} {Q : Value → Shared → Prop}
    (hq : ∀ s₁ s' D vs, Kx s s₁ → Kx s₁ s' → s₁.heap.get? D = none → s'.heap.PlainList D vs.toArray → RepL W s₁.heap ok ow vs xs → Q (.ref D) s') : wpAny (model W.prog W.w) A (eval e env) Q E s := by
  cases n with
  | zero => cases h
  | succ n =>
    unfold makes at hm
    generalize view e = w at hm
    induction w <;> try (exact Bool.noConfusion hm)
    rotate_left 1
    · rename_i es p
      have he : ev X (n + 1) (.List es p) σ = (evs X n es σ).bind fun vs => if noOwn vs && vs.length ≤ big then some (.lst vs) else none := rfl
      rw [he] at h
      refine bindE h fun vs hv h => ?_
      split at h <;> cases h
      rename_i hf
      simp only [Bool.and_eq_true, decide_eq_true_eq] at hf
      obtain ⟨hs, g⟩ := (sd n).evs cc hv
      refine PyProof.Rows.List_ ?_
      rw [star_each hs, back_each]
      refine g E _ fun ws s₁ k₁ r₁ => ?_
      have hl := r₁.len
      have h3 := hf.2
      rw [big_is] at h3
      refine wpAny_newObj_type (hq s₁ _ _ ws k₁ ⟨kOf (Kp.push _ _), Nat.le_refl _⟩ (none_size _) ⟨_, Heap.get?_push_size _ rfl⟩ (r₁.list hf.1)) ?_
      show ws.toArray.size ≤ sizeLine
      rw [List.size_toArray, sizeLine_is]; omega
    · rename_i f np args p
      (unfold EV.makes at hm; dsimp only at hm)
      simp only [Bool.and_eq_true, beq_iff_eq] at hm
      have hG := isTyp_is hm.2
      have he : ev X (n + 1) (.Call (.Name f np) args [] p) σ = if plainName f && !args.isEmpty then (if X.K f = some .globalImplicit then X.G f else σ f).bind fun fv => (evs X n args σ).bind fun as => app X fv as else none := rfl
      rw [he] at h
      split at h <;> try (cases h; done)
      rename_i hf
      simp only [Bool.and_eq_true, Bool.not_eq_true'] at hf
      refine bindE h fun fv h1 h => ?_
      refine bindE h fun as h2 h4 => ?_
      clear h
      have h1' := h1
      rw [if_pos hm.1, hG] at h1'
      cases h1'
      refine wpAny_Call_ofName ((name_ok cc hf.1 h1).use fun v s₁ k₁ r₁ => ?_)
      have c₁ := cc.up k₁
      obtain ⟨hs, g⟩ := (sd n).evs c₁ h2
      rw [star_each hs, back_each]
      cases rTyp r₁
      cases args with
      | nil => cases hf.2
      | cons a ar =>
        refine PyProof.Rows.callWith_type (plain_each _) (args_ok g E _ fun vs s₂ k₂ r₂ => ?_)
        rw [List.nil_append]
        have h : mkT "list" as = some (.lst xs) := h4
        clear h4
        unfold mkT at h
        generalize viewL as = w at h
        induction w <;> (try (cases h; done)) <;> (unfold LV.mkT at h; dsimp only at h)
        obtain ⟨_, rfl, r₃⟩ := reps1 r₂
        obtain ⟨l, t, u, v, rfl, hx, oo, hr⟩ := rRng r₃
        simp only [if_true] at h
        split at h <;> cases h
        rename_i hb; rw [big_is] at hb
        have ht : s₂.toks ≤ s₂.toks := Nat.le_refl _
        refine wpAny_mono (wpAny_toks_of (n := s₂.toks) (Nat.le_refl _) (call_list_range (Q := fun v s' => ∃ h' tk acc' c', v = .ref s₂.heap.objs.size ∧ s' = { s₂ with heap := h', toks := tk } ∧ (∀ b o, s₂.heap.get? b = some o → h'.get? b = some o) ∧
          h'.get? s₂.heap.objs.size = some { cls := .type "list", dict := none, data := .seq acc' c', slots := #[] } ∧ ItemsOf (fun i v => ∃ t, v = .int (_ + i * _) t) acc' _) c₁.good.handled hx (small_of hr) (size_rngLen hr) (by omega) fun h' tk acc' c' hk hg hi => ⟨h', tk, acc', c', rfl, rfl, hk, hg, hi⟩)) (fun v s' hh => ?_) fun _ _ x => x.2
        obtain ⟨htk, h', tk, acc', c', rfl, rfl, hk, hg, hi⟩ := hh
        refine hq s₂ _ _ acc'.toList (k₁.trans k₂) ⟨kOf hk, htk⟩ (none_size _) ⟨c', hg⟩ ?_
        have := rng_list (W := W) (ok := ok) (ow := ow) (h := s₂.heap) acc'.toList 0 _ (by rw [Array.length_toList]) fun j v hj => by
          obtain ⟨t, ht⟩ := hi.2 j v (by simpa using hj)
          exact ⟨t, by rw [ht]; congr 3; omega⟩
        rw [← List.range_eq_range', hi.1] at this
        exact this

theorem setItem_plain {prog : Program} {w : World} {E : Value → Shared → Prop} {l : Addr} {items : Array Value} {kk : Int} {t : Tok} {v : Value} {Q : Unit → Shared → Prop} (hl : s.heap.PlainList l items)
    (h0 : 0 ≤ kk) (hfit : kk < 2 ^ 63) (hn : kk < items.size)
    (hQ : ∀ h', h'.PlainList l (items.setIfInBounds kk.toNat v) → Heap.SameBut l s.heap h' → Q () { s with heap := h' }) :
    wpAny (model prog w) A (setItem (.ref l) (.int kk t) v) Q E s := by
  obtain ⟨n, ho⟩ := id hl
  have hT := hl.isList.typeIs
  unfold setItem
  try with_reducible refine wpAny_holding ?_
  refine wpAny_bind (wpAny_sequenceKey hT (by decide) ?_)
  refine wpAny_bind (wpAny_callSpecial?_slot (name := Str.ofString "__setitem__") hT slot_list_setitem
    (wpAny_call_entry slot_list_setitem hT entry_list_setitem ?_ (args_list_setitem _ _ _)))
  show wpAny _ _ (Builtin.List.listSubscript? (.int kk t) >>= _) _ _ s
  refine wpAny_bind (wpAny_listSubscript_int (fitsIndex_of h0 hfit) ?_)
  obtain ⟨j, rfl⟩ := Int.eq_ofNat_of_zero_le h0
  have hj : j < items.size := by omega
  have hx' : items[j]? = some items[j] := Array.getElem?_eq_getElem hj
  show wpAny _ _ ((seqItemAt l j >>= fun r => pure (r.map (j, ·))) >>= _) _ _ s
  refine wpAny_bind (wpAny_bind (wpAny_seqItemAt ho rfl (wpAny_pure ?_)))
  rw [hx']
  show wpAny _ _ (setSeqItemAt l j v >>= _) _ _ s
  obtain ⟨n', hm⟩ : ∃ n', Obj.mapSeq (·.setIfInBounds j v) { cls := .type "list", data := .seq items n } = { cls := .type "list", data := .seq (items.setIfInBounds j v) n' } := ⟨_, rfl⟩
  have hfin : (s.heap.update l (Obj.mapSeq (·.setIfInBounds j v))).PlainList l (items.setIfInBounds j v) := ⟨n', by rw [Heap.get?_update_self _ ho (by rw [hm]; rfl), hm]⟩
  refine wpAny_bind (wpAny_setSeqItemAt ho rfl ?_)
  exact wpAny_pure ⟨.none, rfl, wpAny_pure (hQ _ hfin (Heap.SameBut.update ..))⟩

theorem append_val {x : Str} {ap p np : Pos} {e : Expr} {D : Addr} {ws : List Value} {a : V} {okk oww : Addr → Prop} (hl : (ap.endLine == p.line) = true) (hn : noStar [e] = true) (hsz : ws.length ≤ 4096) {E : Value → Shared → Prop} {Q : Value → Shared → Prop}
    (hx : ∀ {E Q}, Q (.ref D) s → wpAny (model W.prog W.w) A (eval (.Name x np) env) Q E s) (hp : s.heap.PlainList D ws.toArray) (g : Ga W okk oww A [e] env [a] s)
    (hp' : ∀ s', Kx s s' → s'.heap.PlainList D ws.toArray)
    (hq : ∀ v s₁ h', Kx s s₁ → Rep W s₁.heap okk oww v a → h'.PlainList D (ws ++ [v]).toArray → Heap.SameBut D s₁.heap h' → Q .none { s₁ with heap := h' }) :
    wpAny (model W.prog W.w) A (eval (.Call (.Attribute (.Name x np) "append" ap) [e] [] p) env) Q E s := by
  refine wpAny_Call_method (T := "list") (id := "list.append") (base_ok rfl) (few_ok hn (by simp)) hl PySem.F.plainAttrs_list PySem.F.slot_list_append PySem.F.type_list_append (hx ⟨hp.isList.typeIs, fun b e => by cases e; obtain ⟨n, ho⟩ := hp; exact ⟨_, ho, rfl⟩, ?_⟩)
  rw [star_each hn, back_each]
  refine Calls.callWith_builtin (plain_each _) (args_ok g E _ fun vs s₁ k₁ r₁ => ?_)
  obtain ⟨v, rfl, q₁⟩ := reps1 r₁
  clear r₁
  have r₁ := q₁
  show wpAny _ _ (call (.builtin "list.append") [.ref D, v]) _ _ _
  refine wpAny_list_append_plain (hp' _ k₁) (fun h' hh hs => hq v _ h' k₁ r₁ (by simpa using hh) hs) ?_
  rw [sizeLine_is]; simp; omega
theorem insert_val {x : Str} {ap p np : Pos} {e1 e2 : Expr} {D : Addr} {ws : List Value} {kk : Int} {a : V} {okk oww : Addr → Prop} (hl : (ap.endLine == p.line) = true) (hn : noStar [e1, e2] = true) (hsz : ws.length ≤ 4096) (h0 : 0 ≤ kk) (h1 : kk ≤ ws.length) {E : Value → Shared → Prop} {Q : Value → Shared → Prop}
    (hx : ∀ {E Q}, Q (.ref D) s → wpAny (model W.prog W.w) A (eval (.Name x np) env) Q E s) (hp : s.heap.PlainList D ws.toArray) (g : Ga W okk oww A [e1, e2] env [.int kk, a] s)
    (hp' : ∀ s', Kx s s' → s'.heap.PlainList D ws.toArray)
    (hq : ∀ v s₁ h', Kx s s₁ → Rep W s₁.heap okk oww v a → h'.PlainList D (ws.take kk.toNat ++ v :: ws.drop kk.toNat).toArray → Heap.SameBut D s₁.heap h' → Q .none { s₁ with heap := h' }) :
    wpAny (model W.prog W.w) A (eval (.Call (.Attribute (.Name x np) "insert" ap) [e1, e2] [] p) env) Q E s := by
  refine wpAny_Call_method (T := "list") (id := "list.insert") (base_ok rfl) (few_ok hn (by simp)) hl PySem.F.plainAttrs_list PySem.F.slot_list_insert PySem.F.type_list_insert (hx ⟨hp.isList.typeIs, fun b e => by cases e; obtain ⟨n, ho⟩ := hp; exact ⟨_, ho, rfl⟩, ?_⟩)
  rw [star_each hn, back_each]
  refine Calls.callWith_builtin (plain_each _) (args_ok g E _ fun vs s₁ k₁ r₁ => ?_)
  obtain ⟨_, v, rfl, q₁, r₂⟩ := reps2 r₁
  clear r₁
  have r₁ := q₁
  obtain ⟨t, rfl⟩ := rInt r₁
  show wpAny _ _ (call (.builtin "list.insert") [.ref D, .int kk t, v]) _ _ _
  obtain ⟨n, ho⟩ := hp' _ k₁
  have hfit : ¬ (!Builtin.List.listFitsIndex kk) = true := by
    rw [fitsIndex_of h0 (by omega)]; decide
  refine call_meets PySem.F.slot_list_insert ⟨_, ho, rfl⟩ PySem.F.entry_list_insert (PySem.F.args_list_insert_3 _ _ _) (AutoListH.list_insert_list_int_val_1 D ws.toArray n kk t v hfit (by rw [sizeLine_is]; simp; omega)) ⟨ho, ?_⟩
  refine hq v _ _ k₁ r₂ ?_ (Heap.SameBut.update ..)
  have hk : (if kk < 0 then (kk + ((ws.toArray.size : Nat) : Int)).toNat else min kk.toNat ws.toArray.size) = kk.toNat := by
    rw [if_neg (by omega), Nat.min_eq_left (by simp; omega)]
  have hm : (ws.toArray.extract 0 kk.toNat).push v ++ ws.toArray.extract kk.toNat = (ws.take kk.toNat ++ v :: ws.drop kk.toNat).toArray := by
    simp
    exact List.take_of_length_le (by simp)
  obtain ⟨n', e⟩ : ∃ n', Obj.mapSeq (fun xs => have q := if kk < 0 then (kk + ((xs.size : Nat) : Int)).toNat else min kk.toNat xs.size; (xs.extract 0 q).push v ++ xs.extract q) { cls := .type "list", data := .seq ws.toArray n } =
      { cls := .type "list", data := .seq ((ws.toArray.extract 0 (if kk < 0 then (kk + ((ws.toArray.size : Nat) : Int)).toNat else min kk.toNat ws.toArray.size)).push v ++ ws.toArray.extract (if kk < 0 then (kk + ((ws.toArray.size : Nat) : Int)).toNat else min kk.toNat ws.toArray.size)) n' } := ⟨_, rfl⟩
  rw [hk, hm] at e
  exact ⟨n', by rw [Heap.get?_update_self _ ho (by rw [e]; rfl), e]⟩
end
end Mine
end
section
namespace Mine
open PySem PySem.Calls PyProof.Rows PySem.W

/-- what a run of statements leaves -/
noncomputable def FlOk (W : World') (ok ow : Addr → Prop) (h : Heap) : Fl → Flow → Prop
  | .next, f => f = .next
  | .ret a, f => ∃ v, f = .ret v ∧ Rep W h ok ow v a

/-- the fixed part of a call -/
structure Fx where
  W : World'
  mg : Str → Option Value
  mb : Str → Option Value
  X : Cx
  k : Nat
  env : Env
  A : Around
  s₀ : Shared
noncomputable abbrev Fx.I (F : Fx) := Inv F.W F.mg F.mb F.X F.k F.env F.A F.s₀
noncomputable abbrev Fx.M (F : Fx) := model F.W.prog F.W.w

structure Out (F : Fx) (okp oa : Addr → Prop) (s : Shared) (p : Fl × Sg) (f : Flow) (s' : Shared) : Prop where
  ex : ∃ oa' val', F.I okp oa' val' p.2 s' ∧ Stp F.env oa oa' s s' ∧ FlOk F.W (okOf F.env okp oa') oa' s'.heap p.1 f
noncomputable def Gs (F : Fx) (okp oa : Addr → Prop) (t : Sem Flow) (p : Fl × Sg) (s : Shared) : Prop :=
  ∀ (E : Value → Shared → Prop) (Q : Flow → Shared → Prop), (∀ f s', Out F okp oa s p f s' → Q f s') → wpAny F.M F.A t Q E s

section
variable {F : Fx} {okp oa oa' : Addr → Prop} {val : Str → Value} {σ σ' : Sg} {s s' : Shared} {n : Nat}

theorem Out.after (t : Stp F.env oa oa' s s') {p : Fl × Sg} {f : Flow} {s'' : Shared} (o : Out F okp oa' s' p f s'') : Out F okp oa s p f s'' :=
  let ⟨oa'', v, i, st, fl⟩ := o.ex; ⟨oa'', v, i, t.trans st, fl⟩
theorem outNext (i : F.I okp oa' val σ s') (t : Stp F.env oa oa' s s') : Out F okp oa s (.next, σ) .next s' := ⟨oa', val, i, t, rfl⟩

/-- an expression in a call -/
theorem use_ev (i : F.I okp oa val σ s) {e : Expr} {a : V} (h : ev F.X n e σ = some a) {E : Value → Shared → Prop} {Q : Value → Shared → Prop}
    (hq : ∀ v s', Kx s s' → F.I okp oa val σ s' → Rep F.W s'.heap (okOf F.env okp oa) oa v a → Q v s') : wpAny F.M F.A (eval e F.env) Q E s :=
  ((sd n).ev i.cc h).use fun v s' k r => hq v s' k (i.up k) r

theorem put_is {x : Str} {a : V} (h : put F.X x a σ = some σ') : (F.X.K x = some .local ∨ F.X.K x = some .cell) ∧ a.isOwn = false ∧ σ' = upd σ x a := by
  unfold put at h
  split at h <;> cases h
  rename_i hc
  exact ⟨hc.1, hc.2.1, rfl⟩
theorem use_put (i : F.I okp oa val σ s) {x : Str} {a : V} {v : Value} (h : put F.X x a σ = some σ') (r : Rep F.W s.heap (okOf F.env okp oa) oa v a) {E : Value → Shared → Prop} {Q : Unit → Shared → Prop}
    (hq : ∀ s' val', F.I okp oa val' σ' s' → Stp F.env oa oa s s' → Q () s') : wpAny F.M F.A (storeName F.env x v) Q E s := by
  obtain ⟨hk, hn, rfl⟩ := put_is h
  exact store_ok i hk r (fun xs e => by rw [e] at hn; cases hn) fun s' i' t _ => hq s' _ i' t

theorem swaps_not {e : Expr} {x : Str} {p : Pos} {l : Nat} (h : ∀ elt gs sc q, e = .ListComp elt gs sc q → False) (hv : ∃ a, ev F.X n e σ = some a) : swapsWith e (some (.Name x p)) l F.env = pure false := by
  cases e <;> first | rfl | skip
  · exact absurd rfl (h _ _ _ _)
  · obtain ⟨a, ha⟩ := hv; cases n <;> cases ha
  · obtain ⟨a, ha⟩ := hv; cases n <;> cases ha

/-- a name is given what an expression gives -/
theorem assign_e (i : F.I okp oa val σ s) {x : Str} {px p : Pos} {e : Expr} {a : V} (h : ev F.X n e σ = some a) (hp : put F.X x a σ = some σ') (hs : swapsWith e (some (.Name x px)) p.line F.env = pure false) :
    Gs F okp oa (exec (.Assign [.Name x px] e p) F.env) (.next, σ') s := fun E Q hq =>
  wpAny_Assign_Name (use_ev i h fun v s₁ k₁ i₁ r₁ => use_put i₁ hp r₁ fun s₂ val' i₂ t₂ => hq _ _ (outNext i₂ ((Stp.ofKx k₁).trans t₂))) hs

theorem putOwn_is {x : Str} {a : V} (h : putOwn F.X x a σ = some σ') : ∃ xs, a = .lst xs ∧ (F.X.K x = some .local ∨ F.X.K x = some .cell) ∧ σ' = upd σ x (.own xs) := by
  unfold putOwn at h
  split at h <;> try (cases h; done)
  split at h <;> cases h
  rename_i hc
  exact ⟨_, rfl, hc.1, rfl⟩
/-- a name is given a list made anew -/
theorem make_own (i : F.I okp oa val σ s) {e : Expr} {xs : List V} (hm : makes F.X e = true) (h : ev F.X n e σ = some (.lst xs)) {E : Value → Shared → Prop} {Q : Value → Shared → Prop}
    (hq : ∀ D s', s.heap.get? D = none → F.I okp (fun b => oa b ∨ b = D) val σ s' → Stp F.env oa (fun b => oa b ∨ b = D) s s' → Rep F.W s'.heap (okOf F.env okp fun b => oa b ∨ b = D) (fun b => oa b ∨ b = D) (.ref D) (.own xs) → Q (.ref D) s') : wpAny F.M F.A (eval e F.env) Q E s := by
  refine make_e i.cc hm h fun s₁ s' D vs k₁ k₂ hD hp r => ?_
  have i₁ := i.up k₁
  obtain ⟨i₂, t₂⟩ := i₁.bar k₂ hD hp
  exact hq D s' (none_kp k₁.kp hD) i₂ ((Stp.ofKx k₁).trans t₂) (.own hp (.inr rfl) (bar_rep i₁ hD r k₂.kp))
theorem own_ref {h : Heap} {ok ow : Addr → Prop} {v : Value} {xs : List V} {W : World'} (r : Rep W h ok ow v (.own xs)) : ∃ D, v = .ref D ∧ ow D := by
  obtain ⟨D, _, rfl, _, w, _⟩ := rOwn r; exact ⟨D, rfl, w⟩
theorem use_own (i : F.I okp oa val σ s) {x : Str} {xs : List V} {D : Addr} (hk : F.X.K x = some .local ∨ F.X.K x = some .cell) (r : Rep F.W s.heap (okOf F.env okp oa) oa (.ref D) (.own xs)) (ap : ∀ y ys, σ y = some (.own ys) → val y ≠ .ref D) {E : Value → Shared → Prop} {Q : Unit → Shared → Prop}
    (hq : ∀ s', F.I okp oa (updV val x (.ref D)) (upd σ x (.own xs)) s' → Stp F.env oa oa s s' → (∀ b o, oa b → s.heap.get? b = some o → s'.heap.get? b = some o) → Q () s') : wpAny F.M F.A (storeName F.env x (.ref D)) Q E s :=
  store_ok i hk r (fun _ _ y ys _ e => ap y ys e) hq
theorem fresh_ne (i : F.I okp oa val σ s) {D : Addr} (hD : s.heap.get? D = none) (y : Str) (ys : List V) (e : σ y = some (.own ys)) : val y ≠ .ref D := fun q => by
  obtain ⟨D', h1, h2⟩ := own_ref (i.rep y _ e)
  rw [q] at h1; cases h1
  obtain ⟨it, hl⟩ := i.lst _ h2
  exact list_some hl.isList hD
theorem assign_own (i : F.I okp oa val σ s) {x : Str} {px p : Pos} {e : Expr} {a : V} (hm : makes F.X e = true) (h : ev F.X n e σ = some a) (hp : putOwn F.X x a σ = some σ') (hs : swapsWith e (some (.Name x px)) p.line F.env = pure false) :
    Gs F okp oa (exec (.Assign [.Name x px] e p) F.env) (.next, σ') s := fun E Q hq => by
  obtain ⟨xs, rfl, hk, rfl⟩ := putOwn_is hp
  exact wpAny_Assign_Name (make_own i hm h fun D s₁ hD i₁ t₁ r₁ => use_own i₁ hk r₁ (fresh_ne i hD) fun s₂ i₂ t₂ _ => hq _ _ (outNext i₂ (t₁.trans t₂))) hs

/-- one value for two names -/
theorem assign_two (i : F.I okp oa val σ s) {x y : Str} {px py p : Pos} {e : Expr} {a : V} {σ'' : Sg} (h : ev F.X n e σ = some a) (hp : put F.X x a σ = some σ') (hp' : put F.X y a σ' = some σ'') :
    Gs F okp oa (exec (.Assign [.Name x px, .Name y py] e p) F.env) (.next, σ'') s := fun E Q hq =>
  wpAny_Assign_two (use_ev i h fun v s₁ k₁ i₁ r₁ => PyProof.Rows.assign_Name (use_put i₁ hp r₁ fun s₂ val' i₂ t₂ => PyProof.Rows.assign_Name (use_put i₂ hp' (t₂.rep (put_is hp).2.1 r₁) fun s₃ val'' i₃ t₃ => hq _ _ (outNext i₃ (((Stp.ofKx k₁).trans t₂).trans t₃))))) rfl rfl

theorem ownOf_is {x : Str} {xs : List V} (h : ownOf F.X σ x = some xs) : plainName x = true ∧ σ x = some (.own xs) := by
  unfold ownOf at h
  split at h <;> try (cases h; done)
  rename_i hc
  split at h <;> cases h
  exact ⟨hc.1, by assumption⟩
theorem own_at (i : F.I okp oa val σ s) {x : Str} {xs : List V} (h : σ x = some (.own xs)) : ∃ D ws, val x = .ref D ∧ s.heap.PlainList D ws.toArray ∧ oa D ∧ RepL F.W s.heap (okOf F.env okp oa) oa ws xs := rOwn (i.rep x _ h)

/-- a place of an own list is stored -/
theorem assign_at (i : F.I okp oa val σ s) {x : Str} {px ps p : Pos} {ie e : Expr} {a : V} {kk : Int} {xs : List V} (h : ev F.X n e σ = some a) (ho : ownOf F.X σ x = some xs) (hi : ev F.X n ie σ = some (.int kk)) (hc : 0 ≤ kk ∧ kk < xs.length ∧ xs.length ≤ big ∧ a.isOwn = false) :
    Gs F okp oa (exec (.Assign [.Subscript (.Name x px) ie ps] e p) F.env) (.next, upd σ x (.own (xs.set kk.toNat a))) s := fun E Q hq => by
  obtain ⟨hp, hx⟩ := ownOf_is ho
  refine wpAny_Assign_Subscript (use_ev i h fun v s₁ k₁ i₁ r₁ => name_val i₁ hp hx (use_ev i₁ hi fun w s₂ k₂ i₂ r₂ => ?_)) (by cases e <;> rfl)
  obtain ⟨D, ws, hv, hl, hD, rl⟩ := own_at i₂ hx
  obtain ⟨t, rfl⟩ := rInt r₂
  rw [hv]
  have hlen := rl.len
  obtain ⟨c1, c2, c3, c4⟩ := hc
  rw [big_is] at c3
  refine setItem_plain hl c1 (by omega) (by simp; omega) fun h' hl' hs' => ?_
  obtain ⟨i₃, t₃⟩ := turnOwn (tk := s₂.toks) i₂ hx hv hD (ws := ws.set kk.toNat v) (by simpa using hl') (fun b o hb e => hs'.extBut b o hb e) (rl.set kk.toNat (r₁.up k₂.kp) c4) (Nat.le_refl _)
  exact hq _ _ (outNext i₃ (((Stp.ofKx k₁).trans (Stp.ofKx k₂)).trans t₃))

theorem aug_e (i : F.I okp oa val σ s) {x : Str} {px p : Pos} {op : Operator} {e : Expr} {a b : V} {q : Fl × Sg} (hx : σ x = some a) (h : ev F.X n e σ = some b)
    (hr : (match (generalizing := false) op, a, b with
        | .Add, .int a, .int b => (put F.X x (.int (a + b)) σ).map (Fl.next, ·)
        | .Sub, .int a, .int b => (put F.X x (.int (a - b)) σ).map (Fl.next, ·)
        | _, _, _ => none) = some q) :
    Gs F okp oa (exec (.AugAssign (.Name x px) op e p) F.env) q s := fun E Q hq => by
  refine wpAny_AugAssign_Name (load_val i hx (use_ev i h fun v s₁ k₁ i₁ r₁ => ?_))
  have r₀ := i₁.rep x a hx
  generalize val x = vx at r₀
  split at hr <;> try (cases hr; done)
  · obtain ⟨t, rfl⟩ := rInt r₀
    obtain ⟨u, rfl⟩ := rInt r₁
    obtain ⟨σ₂, hp, rfl⟩ := Option.map_eq_some_iff.mp hr
    refine iadd_int ?_
    have kt : Kx s₁ { s₁ with toks := s₁.toks + 1 } := ⟨kTok, Nat.le_succ _⟩
    exact use_put (i₁.up kt) hp (.int _ _) fun s₂ val' i₂ t₂ => hq _ _ (outNext i₂ (((Stp.ofKx k₁).trans (Stp.ofKx kt)).trans t₂))
  · obtain ⟨t, rfl⟩ := rInt r₀
    obtain ⟨u, rfl⟩ := rInt r₁
    obtain ⟨σ₂, hp, rfl⟩ := Option.map_eq_some_iff.mp hr
    refine isub_int ?_
    have kt : Kx s₁ { s₁ with toks := s₁.toks + 1 } := ⟨kTok, Nat.le_succ _⟩
    exact use_put (i₁.up kt) hp (.int _ _) fun s₂ val' i₂ t₂ => hq _ _ (outNext i₂ (((Stp.ofKx k₁).trans (Stp.ofKx kt)).trans t₂))
theorem ret_e (i : F.I okp oa val σ s) {e : Expr} {p : Pos} {a : V} (h : ev F.X n e σ = some a) : Gs F okp oa (exec (.Return (some e) p) F.env) (.ret a, σ) s := fun E Q hq =>
  wpAny_Return_some (use_ev i h fun v s₁ k₁ i₁ r₁ => hq _ _ ⟨oa, val, i₁, Stp.ofKx k₁, v, rfl, r₁⟩)
end
end Mine
end
section
namespace Mine
open PySem PySem.Calls PyProof.Rows PySem.W

section
variable {F : Fx} {okp oa oa' : Addr → Prop} {val : Str → Value} {σ σ' : Sg} {s s' : Shared} {n : Nat}

theorem evs_len : ∀ {es : List Expr} {n : Nat} {as : List V}, evs F.X n es σ = some as → es.length = as.length := by
  intro es
  induction es with
  | nil =>
    intro n as h
    cases n with
    | zero => cases h
    | succ n => cases h; rfl
  | cons e r ih =>
    intro n as h
    cases n with
    | zero => cases h
    | succ n =>
      unfold evs at h
      split at h
      · rename_i hx; cases hx
      · cases h
      · rename_i hx; cases hx
        refine bindE h fun a _ h => ?_
        obtain ⟨bs, hb, rfl⟩ := Option.map_eq_some_iff.mp h
        rw [List.length_cons, List.length_cons, ih hb]

/-! a method that turns an own list -/
theorem app_stmt (i : F.I okp oa val σ s) {x : Str} {np ap p q : Pos} {e : Expr} {xs : List V} {a : V} (hl : (ap.endLine == p.line) = true) (ho : ownOf F.X σ x = some xs) (he : evs F.X n [e] σ = some [a]) (hn : a.isOwn = false) (hb : xs.length ≤ big) :
    Gs F okp oa (exec (.Expr (.Call (.Attribute (.Name x np) "append" ap) [e] [] p) q) F.env) (.next, upd σ x (.own (xs ++ [a]))) s := fun E Q hq => by
  obtain ⟨hp, hx⟩ := ownOf_is ho
  obtain ⟨D, ws, hv, hpl, hD, rl⟩ := own_at i hx
  obtain ⟨hs, g⟩ := (sd n).evs i.cc he
  have hlen := rl.len
  rw [big_is] at hb
  refine wpAny_Expr_any ?_ (by unfold interactive; rw [i.en.kind]; rfl) rfl
  refine append_val hl hs (by omega) (fun h => name_val i hp hx (by rw [hv]; exact h)) hpl g (fun s' k => hpl.at fun o e => k.kp _ _ e) fun v s₁ h' k₁ r₁ hl' hs' => ?_
  obtain ⟨i₃, t₃⟩ := turnOwn (tk := s₁.toks) (i.up k₁) hx hv hD hl' (fun b o hb e => hs'.extBut b o hb e) ((rl.up k₁.kp).append (.cons r₁ hn .nil)) (Nat.le_refl _)
  exact hq _ _ (outNext i₃ ((Stp.ofKx k₁).trans t₃))
theorem ins_stmt (i : F.I okp oa val σ s) {x : Str} {np ap p q : Pos} {e1 e2 : Expr} {xs : List V} {kk : Int} {a : V} (hl : (ap.endLine == p.line) = true) (ho : ownOf F.X σ x = some xs) (he : evs F.X n [e1, e2] σ = some [.int kk, a]) (hn : a.isOwn = false) (h0 : 0 ≤ kk) (h1 : kk ≤ xs.length) (hb : xs.length ≤ big) :
    Gs F okp oa (exec (.Expr (.Call (.Attribute (.Name x np) "insert" ap) [e1, e2] [] p) q) F.env) (.next, upd σ x (.own (xs.take kk.toNat ++ a :: xs.drop kk.toNat))) s := fun E Q hq => by
  obtain ⟨hp, hx⟩ := ownOf_is ho
  obtain ⟨D, ws, hv, hpl, hD, rl⟩ := own_at i hx
  obtain ⟨hs, g⟩ := (sd n).evs i.cc he
  have hlen := rl.len
  rw [big_is] at hb
  refine wpAny_Expr_any ?_ (by unfold interactive; rw [i.en.kind]; rfl) rfl
  refine insert_val hl hs (by omega) h0 (by omega) (fun h => name_val i hp hx (by rw [hv]; exact h)) hpl g (fun s' k => hpl.at fun o e => k.kp _ _ e) fun v s₁ h' k₁ r₁ hl' hs' => ?_
  obtain ⟨i₃, t₃⟩ := turnOwn (tk := s₁.toks) (i.up k₁) hx hv hD hl' (fun b o hb e => hs'.extBut b o hb e) (((rl.up k₁.kp).take kk.toNat).append (.cons r₁ hn ((rl.up k₁.kp).drop kk.toNat))) (Nat.le_refl _)
  exact hq _ _ (outNext i₃ ((Stp.ofKx k₁).trans t₃))

/-! names in order -/
inductive NamesAre : List Expr → List Str → Prop
  | nil : NamesAre [] []
  | cons {x p es xs} : NamesAre es xs → NamesAre (.Name x p :: es) (x :: xs)
theorem names_are : ∀ {es : List Expr} {xs : List Str}, names es = some xs → NamesAre es xs := by
  intro es
  induction es with
  | nil => intro xs h; cases h; exact .nil
  | cons e r ih =>
    intro xs h
    cases e <;> try (cases h; done)
    obtain ⟨ys, hy, rfl⟩ := Option.map_eq_some_iff.mp h
    exact .cons (ih hy)
theorem NamesAre.len {es xs} (q : NamesAre es xs) : es.length = xs.length := by
  induction q with
  | nil => rfl
  | cons _ ih => exact congrArg (· + 1) ih
theorem NamesAre.each {es xs} (q : NamesAre es xs) : (assignEach es F.env).length = es.length ∧ (assignEach es F.env).findIdx? (·.1) = none := by
  induction q with
  | nil => exact ⟨rfl, rfl⟩
  | cons _ ih =>
    refine ⟨congrArg (· + 1) ih.1, ?_⟩
    refine (List.findIdx?_cons (p := (·.1)) (x := (false, _)) (xs := assignEach _ F.env)).trans ?_
    rw [ih.2]
    rfl
theorem puts_ok : ∀ {es : List Expr} {xs : List Str} {ws : List Value} {vs : List V} {σ σ' : Sg} {s : Shared} {val : Str → Value} {E : Value → Shared → Prop} {Q : Unit → Shared → Prop}, NamesAre es xs → F.I okp oa val σ s → puts F.X xs vs σ = some σ' → RepL F.W s.heap (okOf F.env okp oa) oa ws vs →
    (∀ s' val', F.I okp oa val' σ' s' → Stp F.env oa oa s s' → Q () s') → wpAny F.M F.A (assignInOrder ((assignEach es F.env).map (·.2)) ws) Q E s
  | _, _, ws, vs, σ, σ', s, val, E, Q, .nil, i, h, r, hq => by
    cases vs with
    | nil => cases h; cases r; exact wpAny_pure (hq s val i Stp.refl)
    | cons => cases h
  | _, _, ws, vs, σ, σ', s, val, E, Q, .cons (x := x) nm, i, h, r, hq => by
    cases vs with
    | nil => cases h
    | cons a vs =>
      cases r with
      | cons r1 n1 r2 =>
        refine bindE h fun σ₁ h1 h2 => ?_
        refine wpAny_bind (wpAny_holding (PyProof.Rows.assign_Name (use_put i h1 r1 fun s₁ val₁ i₁ t₁ => ?_)))
        exact puts_ok nm i₁ h2 (r2.on (fun b o hb e => t₁.kp b o hb.2 e) (fun _ _ q => q)) fun s' val' i' t' => hq s' val' i' (t₁.trans t')

theorem bindT_ok (i : F.I okp oa val σ s) {t : Expr} {a : V} {v : Value} (h : bindT F.X t a σ = some σ') (r : Rep F.W s.heap (okOf F.env okp oa) oa v a) {E : Value → Shared → Prop} {Q : Unit → Shared → Prop}
    (hq : ∀ s' val', F.I okp oa val' σ' s' → Stp F.env oa oa s s' → Q () s') : wpAny F.M F.A (assign t F.env v) Q E s := by
  unfold bindT at h
  generalize view t = w at h
  induction w <;> try (cases h; done)
  · exact PyProof.Rows.assign_Name (use_put i h r hq)
  · refine bindE h fun vs hv h1 => ?_
    refine bindE h1 fun xs hx h2 => ?_
    refine ifE h2 fun hlen h3 => ?_
    have nm := names_are hx
    have e0 := tup_is hv
    subst e0
    obtain ⟨D, ws, rfl, ⟨nn, hT⟩, hok, hr⟩ := rTup r
    obtain ⟨e1, e2⟩ := nm.each (F := F)
    refine PyProof.Rows.assign_Tuple_tuple i.good.handled ⟨_, hT, rfl, _, rfl⟩ (by rw [e1, nm.len, hlen, List.size_toArray, hr.len]) e2 fun h' hx' => ?_
    have kx : Kx s { s with heap := h' } := ⟨kOf fun b o e => hx' b o (Nat.ne_of_lt (Heap.lt_size e)) e, Nat.le_refl _⟩
    exact puts_ok nm (i.up kx) h3 (hr.up kx.kp) fun s' val' i' t' => hq s' val' i' ((Stp.ofKx kx).trans t')
end
end Mine
end
section
namespace Mine
open PySem PySem.Calls PyProof.Rows PySem.W

section
variable {F : Fx} {okp oa oa' : Addr → Prop} {val : Str → Value} {σ σ' : Sg} {s s' : Shared} {n : Nat}

/-! lists made anew, one after the other -/
inductive Owns (W : World') (h : Heap) (ok ow : Addr → Prop) : List Value → List V → Prop
  | nil : Owns W h ok ow [] []
  | cons {D l ws vs} : Rep W h ok ow (.ref D) (.own l) → Owns W h ok ow ws vs → Owns W h ok ow (.ref D :: ws) (.lst l :: vs)
theorem Owns.len {W : World'} {h : Heap} {ok ow : Addr → Prop} {ws vs} (q : Owns W h ok ow ws vs) : ws.length = vs.length := by
  induction q with
  | nil => rfl
  | cons _ _ ih => exact congrArg (· + 1) ih
theorem Owns.up {W : World'} {h h' : Heap} {ok ow : Addr → Prop} (k : Kp h h') {ws vs} (q : Owns W h ok ow ws vs) : Owns W h' ok ow ws vs := by
  induction q with
  | nil => exact .nil
  | cons a _ ih => exact .cons (a.up k) ih
theorem Owns.keep {W : World'} {h h' : Heap} {ok ow : Addr → Prop} (k : ∀ b o, ow b → h.get? b = some o → h'.get? b = some o) (k' : KpOn ok h h') : ∀ {ws vs}, Owns W h ok ow ws vs → Owns W h' ok ow ws vs
  | _, _, .nil => .nil
  | _, _, .cons a r => by
    refine .cons ?_ (r.keep k k')
    cases a
    rename_i us l w rr
    exact .own (let ⟨n, e⟩ := l; ⟨n, k _ _ w e⟩) w (rr.on k' fun _ _ q => q)
theorem make_lst {X : Cx} {σ : Sg} {n : Nat} {e : Expr} {a : V} (hm : makes X e = true) (ha : ev X n e σ = some a) : ∃ xs, a = .lst xs := by
  cases n with
  | zero => cases ha
  | succ n =>
    unfold makes at hm
    generalize view e = w at hm
    induction w <;> try (exact Bool.noConfusion hm)
    rotate_left 1
    · rename_i es p
      have he : ev X (n + 1) (.List es p) σ = (evs X n es σ).bind fun vs => if noOwn vs && vs.length ≤ big then some (.lst vs) else none := rfl
      rw [he] at ha
      refine bindE ha fun vs hv ha => ?_
      split at ha <;> cases ha
      exact ⟨_, rfl⟩
    · rename_i f np args p
      (unfold EV.makes at hm; dsimp only at hm)
      simp only [Bool.and_eq_true, beq_iff_eq] at hm
      have hG := isTyp_is hm.2
      have he : ev X (n + 1) (.Call (.Name f np) args [] p) σ = if plainName f && !args.isEmpty then (if X.K f = some .globalImplicit then X.G f else σ f).bind fun fv => (evs X n args σ).bind fun as => app X fv as else none := rfl
      rw [he, if_pos hm.1, hG] at ha
      split at ha <;> try (cases ha; done)
      refine bindE ha fun fv h1 ha => ?_
      cases h1
      refine bindE ha fun as h2 ha => ?_
      have ha : mkT "list" as = some a := ha
      unfold mkT at ha
      generalize viewL as = w at ha
      induction w <;> (try (cases ha; done)) <;> (unfold LV.mkT at ha; dsimp only at ha)
      simp only [if_true] at ha
      split at ha <;> cases ha
      exact ⟨_, rfl⟩
theorem makes_evs : ∀ {es : List Expr} {n : Nat} {vs : List V} {oa : Addr → Prop} {s : Shared} {E : Value → Shared → Prop} {Q : List Value → Shared → Prop}, es.all (makes F.X) = true → evs F.X n es σ = some vs → F.I okp oa val σ s →
    (∀ ws s' oa', Kx s s' → F.I okp oa' val σ s' → Stp F.env oa oa' s s' → Owns F.W s'.heap (okOf F.env okp oa') oa' ws vs → ws.Pairwise (· ≠ ·) → (∀ D, .ref D ∈ ws → s.heap.get? D = none) → Q ws s') → wpAny F.M F.A (spliced (es.map fun e => (false, eval e F.env))) Q E s := by
  intro es
  induction es with
  | nil =>
    intro n vs oa s E Q _ h i hq
    cases n with
    | zero => cases h
    | succ n => cases h; exact Calls.spliced_nil (hq [] s oa (Kx.refl s) i Stp.refl .nil .nil (by simp))
  | cons e r ih =>
    intro n vs oa s E Q hm h i hq
    cases n with
    | zero => cases h
    | succ n =>
      simp only [List.all_cons, Bool.and_eq_true] at hm
      unfold evs at h
      split at h
      · rename_i hx; cases hx
      · cases h
      · rename_i hx; cases hx
        refine bindE h fun a ha h => ?_
        obtain ⟨bs, hb, rfl⟩ := Option.map_eq_some_iff.mp h
        have hlst := make_lst hm.1 ha
        obtain ⟨xs, rfl⟩ := hlst
        refine Calls.spliced_cons (make_e i.cc hm.1 ha fun s₁ s₂ D us k₁ k₂ hD hp rr => ?_)
        have i₁ := i.up k₁
        obtain ⟨i₂, t₂⟩ := i₁.bar k₂ hD hp
        have r₂ : Rep F.W s₂.heap (okOf F.env okp fun b => oa b ∨ b = D) (fun b => oa b ∨ b = D) (.ref D) (.own xs) := .own hp (.inr rfl) (bar_rep i₁ hD rr k₂.kp)
        refine ih hm.2 hb i₂ fun ws s₃ oa' k₃ i₃ t₃ ow pw fr => ?_
        refine hq _ s₃ oa' (k₁.trans (k₂.trans k₃)) i₃ (((Stp.ofKx k₁).trans t₂).trans t₃) (.cons ?_ ow) (List.pairwise_cons.mpr ⟨fun w hw e => ?_, pw⟩) fun D' hD' => ?_
        · refine (r₂.let (fun b ⟨o, eo⟩ hb => ⟨hb.1, fun c => ?_⟩) t₃.inc).up k₃.kp
          rcases c with c | c | c
          · exact hb.2 (.inl c)
          · exact hb.2 (.inr (.inl c))
          · rcases t₃.grow b c with g | g
            · exact hb.2 (.inr (.inr g))
            · rw [g] at eo; cases eo
        · subst e
          exact list_some hp.isList (fr D hw)
        · rcases List.mem_cons.mp hD' with e | e
          · cases e; exact none_kp k₁.kp hD
          · exact none_kp (k₁.trans k₂).kp (fr D' e)

theorem putsOwn_ok : ∀ {es : List Expr} {xs : List Str} {ws : List Value} {vs : List V} {σ σ' : Sg} {s : Shared} {val : Str → Value} {E : Value → Shared → Prop} {Q : Unit → Shared → Prop}, NamesAre es xs → F.I okp oa val σ s → putsOwn F.X xs vs σ = some σ' → Owns F.W s.heap (okOf F.env okp oa) oa ws vs →
    ws.Pairwise (· ≠ ·) → (∀ y ys D, .ref D ∈ ws → σ y = some (.own ys) → val y ≠ .ref D) → (∀ s' val', F.I okp oa val' σ' s' → Stp F.env oa oa s s' → Q () s') → wpAny F.M F.A (assignInOrder ((assignEach es F.env).map (·.2)) ws) Q E s
  | _, _, ws, vs, σ, σ', s, val, E, Q, .nil, i, h, r, _, _, hq => by
    cases vs with
    | nil => cases h; cases r; exact wpAny_pure (hq s val i Stp.refl)
    | cons => cases h
  | _, _, ws, vs, σ, σ', s, val, E, Q, .cons (x := x) nm, i, h, r, pw, ap, hq => by
    cases vs with
    | nil => cases h
    | cons a vs =>
      cases r with
      | cons r1 r2 =>
        rename_i D l ws
        refine bindE h fun σ₁ h1 h2 => ?_
        obtain ⟨xs', e, hk, rfl⟩ := putOwn_is h1
        cases e
        obtain ⟨pw1, pw2⟩ := List.pairwise_cons.mp pw
        refine wpAny_bind (wpAny_holding (PyProof.Rows.assign_Name (use_own i hk r1 (fun y ys e => ap y ys D (by simp) e) fun s₁ i₁ t₁ ko => ?_)))
        refine putsOwn_ok nm i₁ h2 ?_ pw2 (fun y ys D' hD' e => ?_) fun s' val' i' t' => hq s' val' i' (t₁.trans t')
        · exact r2.keep (fun b o hb e => ko b o hb e) (fun b o hb e => t₁.kp b o hb.2 e)
        · by_cases hy : y = x
          · subst hy; rw [updV_self]; exact pw1 _ hD'
          · rw [updV_ne hy]; rw [upd_ne hy] at e; exact ap y ys D' (by simp [hD']) e
end
end Mine
end
section
namespace Mine
open PySem PySem.Calls PyProof.Rows PySem.W

section
variable {F : Fx} {okp oa oa' : Addr → Prop} {val : Str → Value} {σ σ' : Sg} {s s' : Shared} {n : Nat}

theorem filt_lt {f : Expr → Option Str} (hf : ∀ x p, F.X.K x ≠ some .local → f (.Name x p) = none) : ∀ {ts : List Expr} {xs : List Str}, NamesAre ts xs → (ts.filterMap f).length ≤ ts.length ∧ (xs.any (fun x => F.X.K x != some .local) = true → (ts.filterMap f).length < ts.length)
  | _, _, .nil => ⟨Nat.le_refl _, fun h => by simp at h⟩
  | _, _, .cons (x := x) (p := p) (es := es) nm => by
    obtain ⟨h1, h2⟩ := filt_lt hf nm
    rw [List.filterMap_cons]
    cases hx : f (.Name x p) with
    | none =>
      refine ⟨?_, fun _ => ?_⟩ <;> simp only [List.length_cons] <;> omega
    | some y =>
      refine ⟨by simp only [List.length_cons]; omega, fun h => ?_⟩
      have : F.X.K x = some .local := by
        by_cases q : F.X.K x = some .local
        · exact q
        · rw [hf x p q] at hx; cases hx
      simp only [List.any_cons, this, bne_self_eq_false, Bool.false_or] at h
      have := h2 h
      simp only [List.length_cons]; omega
theorem swapped_none (en : EnvOk F.X F.env) {ts es : List Expr} {xs : List Str} {k1 k2 : Nat} {p1 p2 : Pos} (nm : NamesAre ts xs) (hx : xs.any (fun x => F.X.K x != some .local) = true) : swappedStores [.Tuple ts k1 p1] (.Tuple es k2 p2) F.env = pure none := by
  unfold swappedStores
  simp only
  split
  · rfl
  · split
    · rfl
    · split
      · rfl
      · rename_i h
        exfalso
        apply h
        have := (filt_lt (F := F) (f := fun
          | .Name id pos => if F.env.kindOf id == some .local && pos.line == (ts.head?.map (·.pos.line)).getD 0 then some id else none
          | _ => none) (fun x p hx => by
            have : (F.env.kindOf x == some .local) = false := by rw [en.kinds, beq_eq_false_iff_ne]; exact hx
            simp only [this, Bool.false_and, Bool.false_eq_true, if_false]) nm).2 hx
        simp only [Bool.or_eq_true, bne_iff_ne, ne_eq]
        left
        exact Nat.ne_of_lt this
theorem own_tuple (i : F.I okp oa val σ s) {ts es : List Expr} {k1 k2 : Nat} {p1 p2 p : Pos} {xs : List Str} {vs : List V} (hx : names ts = some xs) (hm : es.all (makes F.X) = true) (hl : xs.length = es.length) (ha : xs.any (fun x => F.X.K x != some .local) = true) (hb : es.length ≤ big) (he : evs F.X n es σ = some vs) (hp : putsOwn F.X xs vs σ = some σ') :
    Gs F okp oa (exec (.Assign [.Tuple ts k1 p1] (.Tuple es k2 p2) p) F.env) (.next, σ') s := fun E Q hq => by
  have nm := names_are hx
  obtain ⟨hs, _⟩ := (sd n).evs i.cc he
  have hel := evs_len he
  rw [big_is] at hb
  refine PyProof.Rows.Assign_Tuple (PyProof.Rows.Tuple_ ?_) rfl (swapped_none i.en nm ha)
  rw [star_each hs, back_each]
  refine makes_evs hm he i fun ws s₁ oa' k₁ i₁ t₁ ow pw fr => ?_
  have hwl := ow.len
  refine wpAny_newObj_type ?_ (by show ws.toArray.size ≤ sizeLine; rw [List.size_toArray, sizeLine_is]; omega)
  have kT : Kx s₁ { s₁ with heap := s₁.heap.push { cls := .type "tuple", data := .seq ws.toArray } } := ⟨kOf (Kp.push _ _), Nat.le_refl _⟩
  obtain ⟨e1, e2⟩ := nm.each (F := F)
  refine PyProof.Rows.assign_Tuple_tuple i.good.handled ⟨_, Heap.get?_push_size _ rfl, rfl, _, rfl⟩ (by rw [e1, nm.len, hl, List.size_toArray, hwl, hel]) e2 fun h' hx' => ?_
  have kx : Kx { s₁ with heap := s₁.heap.push { cls := .type "tuple", data := .seq ws.toArray } } { s₁ with heap := h' } := ⟨⟨h', s₁.toks, rfl, fun b o e => hx' b o (Nat.ne_of_lt (Heap.lt_size e)) e⟩, Nat.le_refl _⟩
  have kk := kT.trans kx
  exact putsOwn_ok nm (i₁.up kk) hp (ow.up kk.kp) pw (fun y ys D hD e => fresh_ne i (fr D hD) y ys e) fun s' val' i' t' => hq _ _ (outNext i' ((t₁.trans (Stp.ofKx kk)).trans t'))

noncomputable def isStar : Expr → Bool
  | .Starred .. => true
  | _ => false
theorem noStar_any : ∀ {es : List Expr}, noStar es = true → (es.any fun | .Starred .. => true | _ => false) = false
  | [], _ => rfl
  | e :: r, h => by
    have h2 : isStar e = false ∧ noStar r = true := by cases e <;> first | exact ⟨rfl, h⟩ | cases h
    rw [List.any_cons, noStar_any h2.2, Bool.or_false]
    exact h2.1
/-- two names that change places -/
theorem swap_two (i : F.I okp oa val σ s) {x y : Str} {p q p1 p2 p3 : Pos} {k1 k2 : Nat} {a b : Expr} {u v : V} {σ'' : Sg} (hx : F.X.K x = some .local) (hy : F.X.K y = some .local) (hne : x ≠ y) (hl : p.line = q.line) (hc : constantsAlone 8 a = false) (hf : foldedForSure 8 a = false)
    (he : evs F.X n [a, b] σ = some [u, v]) (h1 : put F.X y v σ = some σ') (h2 : put F.X x u σ' = some σ'') :
    Gs F okp oa (exec (.Assign [.Tuple [.Name x p, .Name y q] k1 p1] (.Tuple [a, b] k2 p2) p3) F.env) (.next, σ'') s := fun E Q hq => by
  obtain ⟨hs, g⟩ := (sd n).evs i.cc he
  have hst : ([a, b].any fun | .Starred .. => true | _ => false) = false := noStar_any hs
  have hsw : swappedStores [.Tuple [.Name x p, .Name y q] k1 p1] (.Tuple [a, b] k2 p2) F.env = pure (some [x, y]) := by
    have hkx : (F.env.kindOf x == some NameKind.local) = true := by rw [i.en.kinds, hx]; rfl
    have hky : (F.env.kindOf y == some NameKind.local) = true := by rw [i.en.kinds, hy]; rfl
    have hbk : F.env.blockKind = .function := by unfold Env.blockKind; rw [i.en.kind]; rfl
    have hd : ([x, y].eraseDups.length != [x, y].length) = false := by
      have : (y == x) = false := by rw [beq_eq_false_iff_ne]; exact hne.symm
      simp [List.eraseDups_cons, this]
    have hll : (q.line == p.line) = true := by rw [hl]; simp
    unfold swappedStores
    simp only [hst, hbk, List.filterMap_cons, List.filterMap_nil, hkx, hky, List.head?_cons, Option.map_some, Option.getD_some, Bool.true_and]
    have q1 : (p.line == (Expr.Name x p).pos.line) = true := by show (p.line == p.line) = true; simp
    have q2 : (q.line == (Expr.Name x p).pos.line) = true := hll
    simp only [q1, q2, if_true]
    rw [if_neg (by simp), if_neg (by rw [Bool.not_eq_true]; exact hst), if_neg (by rw [Bool.not_eq_true, Bool.or_eq_false_iff]; exact ⟨rfl, hd⟩), if_neg (by simp [hf]), if_neg (by simp [hc])]
  refine PyProof.Rows.Assign_Tuple_swapped (PyProof.Rows.Tuple_ ?_) rfl hsw
  rw [star_each hs, back_each]
  refine g E _ fun ws s₁ k₁ r₁ => ?_
  have r₁ := r₁.list (by unfold noOwn; simp [(put_is h1).2.1, (put_is h2).2.1])
  cases r₁; rename_i va vs ra na r₂; cases r₂; rename_i vb vs rb nb r₃; cases r₃
  refine wpAny_newObj_type ?_ (by show 2 ≤ sizeLine; rw [sizeLine_is]; omega)
  have kT : Kx s₁ { s₁ with heap := s₁.heap.push { cls := .type "tuple", data := .seq [va, vb].toArray } } := ⟨kOf (Kp.push _ _), Nat.le_refl _⟩
  refine PyProof.Rows.unpackItems_tuple (items := [va, vb].toArray) i.good.handled ⟨_, Heap.get?_push_size _ rfl, rfl, _, rfl⟩ fun h' hx' => ?_
  have kx : Kx { s₁ with heap := s₁.heap.push { cls := .type "tuple", data := .seq [va, vb].toArray } } { s₁ with heap := h' } := ⟨⟨h', s₁.toks, rfl, fun b o e => hx' b o (Nat.ne_of_lt (Heap.lt_size e)) e⟩, Nat.le_refl _⟩
  have kk := k₁.trans (kT.trans kx)
  show wpAny _ _ (assignInOrder [fun v => bindName F.env y v, fun v => bindName F.env x v] [vb, va]) _ _ _
  refine wpAny_bind (wpAny_holding (wpAny_bindName (use_put (i.up kk) h1 (rb.up (kT.trans kx).kp) fun s₂ val₂ i₂ t₂ => ?_)))
  refine wpAny_bind (wpAny_holding (wpAny_bindName (use_put i₂ h2 (t₂.rep na (ra.up (kT.trans kx).kp)) fun s₃ val₃ i₃ t₃ => ?_)))
  exact wpAny_pure (hq _ _ (outNext i₃ (((Stp.ofKx kk).trans t₂).trans t₃)))
end
end Mine
end
section
namespace Mine
open PySem PySem.Calls PyProof.Rows PySem.W

structure Sx (F : Fx) (n : Nat) : Prop where
  ex : ∀ {okp oa val σ s st p}, F.I okp oa val σ s → ex F.X n st σ = some p → Gs F okp oa (exec st F.env) p s
  exs : ∀ {okp oa val σ s ss p}, F.I okp oa val σ s → exs F.X n ss σ = some p → Gs F okp oa (execs ss F.env) p s

section
variable {F : Fx} {okp oa oa' : Addr → Prop} {val : Str → Value} {σ σ' : Sg} {s s' : Shared} {n : Nat}

theorem if_s (d : Sx F n) (i : F.I okp oa val σ s) {t : Expr} {b o : List Stmt} {pp : Pos} {c : Bool} {p : Fl × Sg} (h1 : tst F.X n t σ = some c) (h2 : (if c = true then exs F.X n b σ else exs F.X n o σ) = some p) : Gs F okp oa (exec (.If t b o pp) F.env) p s := fun E Q hq => by
  refine wpAny_If ((sd n).tst i.cc h1 _ _ fun s₁ k₁ => ?_)
  cases c with
  | true => exact d.exs (i.up k₁) h2 _ _ fun f s₂ o => hq f s₂ (o.after (Stp.ofKx k₁))
  | false => exact d.exs (i.up k₁) h2 _ _ fun f s₂ o => hq f s₂ (o.after (Stp.ofKx k₁))

theorem while_s (d : Sx F n) (i : F.I okp oa val σ s) {t : Expr} {b : List Stmt} {pp : Pos} {p : Fl × Sg} {m : Nat} (h : whileL (fun σ => tst F.X n t σ) (fun σ => exs F.X n b σ) m σ = some p) : Gs F okp oa (exec (.While t b [] pp) F.env) p s := fun E Q hq => by
  refine wpAny_While (codeAny_whileLoop (fun m s' => ∃ oa' val' σ', F.I okp oa' val' σ' s' ∧ Stp F.env oa oa' s s' ∧ whileL (fun σ => tst F.X n t σ) (fun σ => exs F.X n b σ) m σ' = some p) ?_ m ⟨oa, val, σ, i, Stp.refl, h⟩)
  rintro m s' ⟨oa', val', σ', i', t', h⟩
  cases m with
  | zero => cases h
  | succ m =>
    unfold whileL at h
    refine bindE h fun c h1 h => ?_
    refine (sd n).tst i'.cc h1 _ _ fun s₁ k₁ => ?_
    cases c with
    | false =>
      cases h
      exact wpAny_execs_nil (hq _ _ (outNext (i'.up k₁) (t'.trans (Stp.ofKx k₁))))
    | true =>
      simp only [if_true] at h ⊢
      obtain ⟨⟨fl, σ₂⟩, h2, h⟩ := Option.bind_eq_some_iff.mp h
      refine d.exs (i'.up k₁) h2 _ _ fun f s₂ o => ?_
      obtain ⟨oa₂, val₂, i₂, t₂, hf⟩ := o.ex
      cases fl with
      | next =>
        cases hf
        exact ⟨m, Nat.lt_succ_self _, oa₂, val₂, σ₂, i₂, (t'.trans (Stp.ofKx k₁)).trans t₂, h⟩
      | ret u =>
        cases h
        obtain ⟨v, rfl, r⟩ := hf
        exact hq _ _ ⟨oa₂, val₂, i₂, (t'.trans (Stp.ofKx k₁)).trans t₂, v, rfl, r⟩

theorem Rep.offW {W : World'} {ok ok' ow : Addr → Prop} {h h' : Heap} {wr : List Addr} (e : ∀ b o, b ∉ wr → h.get? b = some o → h'.get? b = some o) (n1 : ∀ c ∈ wr, ¬ ok c) (n2 : ∀ c ∈ wr, ¬ ow c) (im : ∀ b, ok b → ok' b) {v : Value} {a : V} (r : Rep W h ok ow v a) : Rep W h' ok' ow v a := by
  cases hn : a.isOwn with
  | false => exact r.on (fun b o hb => e b o (fun q => n1 b q hb)) (fun b _ x => im b x) hn
  | true =>
    obtain ⟨xs, rfl⟩ := own_is hn
    obtain ⟨D, vs, rfl, l, w, r⟩ := rOwn r
    exact .own (let ⟨o, ho⟩ := l; ⟨o, e _ _ (fun q => n2 _ q w) ho⟩) w (r.on (fun b o hb => e b o (fun q => n1 b q hb)) (fun b _ x => im b x))
/-- what is walked over is turned, and nothing that is told of -/
theorem Inv.turnW {okp' : Addr → Prop} (i : F.I okp oa val σ s) {wr : List Addr} {h' : Heap} {tk : Nat} (hc : ∀ c ∈ wr, F.s₀.heap.get? c = none) (hok : ∀ c ∈ wr, ¬ okp c) (hn : ∀ c ∈ wr, ¬ chg F.env oa c) (hx : ∀ b o, b ∉ wr → s.heap.get? b = some o → h'.get? b = some o) (ht : s.toks ≤ tk)
    (im : ∀ b, okp b → okp' b) (hf : Fresh okp' h') : F.I okp' oa val σ { s with heap := h', toks := tk } := by
  have ne : ∀ b, chg F.env oa b → b ∉ wr := fun b h q => hn b q h
  exact { i with
    kx := ⟨kVia i.kx.keeps fun b o e => hx b o (fun q => by rw [hc b q] at e; cases e) (i.kx.kp b o e), Nat.le_trans i.kx.toks ht⟩
    fr := hf
    loc := let ⟨m, hn', hm⟩ := i.loc; ⟨m, hn'.at' fun o e => hx _ o (ne _ (.inl rfl)) e, hm⟩
    cel := fun x c' h => let ⟨v, o, ho, hd⟩ := i.cel x c' h; ⟨v, o, hx _ o (ne _ (.inr (.inl ⟨x, h⟩))) ho, hd⟩
    cval := fun x a c' h1 h2 h3 => let ⟨o, ho, hd⟩ := i.cval x a c' h1 h2 h3; ⟨o, hx _ o (ne _ (.inr (.inl ⟨x, h3⟩))) ho, hd⟩
    rep := fun x a h => (i.rep x a h).offW hx (fun c q r => hok c q r.1) (fun c q r => hn c q (.inr (.inr r))) (fun b h => ⟨im b h.1, h.2⟩)
    lst := fun b h => let ⟨it, o, ho⟩ := i.lst b h; ⟨it, o, hx _ _ (ne _ (.inr (.inr h))) ho⟩ }
theorem Inv.less (i : F.I okp oa val σ s) (k : Kx s s') {wr : List Addr} (hw : ∀ c ∈ wr, s.heap.get? c = none) (hh : ∀ c ∈ wr, s'.heap.get? c ≠ none) : F.I (fun b => okp b ∧ b ∉ wr) oa val σ s' := by
  have i' := i.up k
  exact { i' with
    fr := fun b hb => ⟨i'.fr b hb, fun q => hh b q hb⟩
    rep := fun x a h => ((i.rep x a h).let (fun b ⟨o, e⟩ hb => ⟨⟨hb.1, fun q => by rw [hw b q] at e; cases e⟩, hb.2⟩) (fun _ h => h)).up k.kp }

structure StpW (env : Env) (wr : List Addr) (oa oa' : Addr → Prop) (s s' : Shared) : Prop where
  kp : ∀ b o, ¬ chg env oa b → b ∉ wr → s.heap.get? b = some o → s'.heap.get? b = some o
  inc : ∀ b, oa b → oa' b
  grow : ∀ b, oa' b → oa b ∨ s.heap.get? b = none
  ex : ∀ b, s'.heap.get? b = none → s.heap.get? b = none
theorem StpW.step {env : Env} {wr : List Addr} {oa oa' oa'' : Addr → Prop} {s s' s'' : Shared} (x : StpW env wr oa oa' s s') (y : Stp env oa' oa'' s' s'') : StpW env wr oa oa'' s s'' where
  kp := fun b o hb hw e => y.kp b o (fun h => by
    rcases h with h | h | h
    · exact hb (.inl h)
    · exact hb (.inr (.inl h))
    · rcases x.grow b h with h | h
      · exact hb (.inr (.inr h))
      · rw [h] at e; cases e) (x.kp b o hb hw e)
  inc := fun b h => y.inc b (x.inc b h)
  grow := fun b h => (y.grow b h).elim (fun h => x.grow b h) fun h => .inr (x.ex b h)
  ex := fun b h => x.ex b (y.ex b h)
theorem StpW.turn {env : Env} {wr : List Addr} {oa oa' : Addr → Prop} {s s' s'' : Shared} (x : StpW env wr oa oa' s s') (hx : ∀ b o, b ∉ wr → s'.heap.get? b = some o → s''.heap.get? b = some o) (hw : ∀ b ∈ wr, s''.heap.get? b ≠ none) : StpW env wr oa oa' s s'' where
  kp := fun b o hb hw e => hx b o hw (x.kp b o hb hw e)
  inc := x.inc
  grow := x.grow
  ex := fun b h => x.ex b (by
    cases e : s'.heap.get? b with
    | none => rfl
    | some o =>
      by_cases q : b ∈ wr
      · exact absurd h (hw b q)
      · rw [hx b o q e] at h; cases h)
end
end Mine
end
section
namespace Mine
open PySem PySem.Calls PyProof.Rows PySem.W

section
variable {F : Fx} {okp oa oa' : Addr → Prop} {val : Str → Value} {σ σ' : Sg} {s s' : Shared} {n : Nat}

theorem StpW.out {env : Env} {wr : List Addr} {s₁ s₂ s₅ : Shared} (k : Kx s₁ s₂) (hw : ∀ c ∈ wr, s₁.heap.get? c = none) (t : StpW env wr oa oa' s₂ s₅) : Stp env oa oa' s₁ s₅ where
  kp := fun b o hb e => t.kp b o hb (fun q => by rw [hw b q] at e; cases e) (k.kp b o e)
  inc := t.inc
  grow := fun b h => (t.grow b h).imp id fun e => none_kp k.kp e
  ex := fun b h => none_kp k.kp (t.ex b h)

theorem fore : ∀ {m j n : Nat}, m + j = n → j < n → m - 1 < m ∧ m - 1 + (j + 1) = n
  | 0, j, _, h, hl => absurd ((Nat.zero_add j).symm.trans h) (Nat.ne_of_lt hl)
  | k + 1, j, _, h, _ => ⟨Nat.lt_succ_self k, (Nat.succ_add k j).symm.trans h⟩
theorem for_s (d : Sx F n) (i : F.I okp oa val σ s) {t it : Expr} {b : List Stmt} {pp : Pos} {a : V} {xs : List V} {p : Fl × Sg} (h1 : ev F.X n it σ = some a) (h2 : a.items = some xs) (ho : a.isOwn = false)
    (h : forL (fun v σ => (bindT F.X t v σ).bind fun σ' => exs F.X n b σ') xs σ = some p) : Gs F okp oa (exec (.For t it b [] pp) F.env) p s := fun E Q hq => by
  refine wpAny_For (use_ev i h1 fun v s₁ k₁ i₁ r₁ => ?_) (fun x => by cases it <;> first | rfl | (cases n <;> cases h1))
  refine iter_ok i.good.handled r₁ h2 E _ fun iv s₂ I fp wr P St k₂ w hP hfp => ?_
  have hw := w.wr
  have hh := w.here 0 _ w.st
  have i₂ := i₁.less k₂ hw hh
  have ws₀ : ∀ c ∈ wr, F.s₀.heap.get? c = none := fun c hc => none_kp i₁.kx.kp (hw c hc)
  rw [w.it]
  refine codeAny_forLoop_any (fun m s' => ∃ oa' val' σ' j, j ≤ xs.length ∧ m + j = xs.length ∧ F.I (fun b => okp b ∧ b ∉ wr) oa' val' σ' s' ∧ StpW F.env wr oa oa' s₂ s' ∧ St j s'.heap ∧ forL (fun v σ => (bindT F.X t v σ).bind fun σ' => exs F.X n b σ') (xs.drop j) σ' = some p) ?_ xs.length
    ⟨oa, val, σ, 0, Nat.zero_le _, rfl, i₂, ⟨fun b o _ _ e => e, fun _ h => h, fun _ h => .inl h, fun _ h => h⟩, w.st, by simpa using h⟩
  rintro m s' ⟨oa', val', σ', j, hj, hm, i', t', st, h⟩
  have wrn : ∀ c ∈ wr, ¬ chg F.env oa' c := fun c hc q => by
    rcases q with q | q | q
    · exact i₁.chg_some (.inl q) (hw c hc)
    · exact i₁.chg_some (.inr (.inl q)) (hw c hc)
    · rcases t'.grow c q with g | g
      · exact i₁.chg_some (.inr (.inr g)) (hw c hc)
      · exact hh c hc g
  by_cases hlt : j < xs.length
  · refine wpAny_mono (wpAny_toks_of (n := s'.toks) (Nat.le_refl _) (w.walks.item j s' (fun r s'' => ∃ v h' tk, r = some v ∧ s'' = { s' with heap := h', toks := tk } ∧ P j v ∧ St (j + 1) h' ∧ (∀ b o, b ∉ wr → s'.heap.get? b = some o → h'.get? b = some o)) _ hlt st fun v h' tk Pv st' hk => ⟨v, h', tk, rfl, rfl, Pv, st', hk⟩)) (fun r s'' hh => ?_) fun _ _ x => x.2
    obtain ⟨htk, u, h', tk, rfl, rfl, Pu, st', hk⟩ := hh
    have hh' := w.here _ _ st'
    have fr' : Fresh (fun b => okp b ∧ b ∉ wr) h' := fun b hb => i'.fr b (by
      cases e : s'.heap.get? b with
      | none => rfl
      | some o =>
        by_cases q : b ∈ wr
        · exact absurd hb (hh' b q)
        · rw [hk b o q e] at hb; cases hb)
    have i'' := Inv.turnW i' ws₀ (fun c hc q => q.2 hc) wrn hk htk (fun _ h => h) fr'
    have t'' : StpW F.env wr oa oa' s₂ { s' with heap := h', toks := tk } := t'.turn hk hh'
    obtain ⟨x, hxj, ru, hn⟩ := hP j u Pu
    have ru' : Rep F.W h' (okOf F.env (fun b => okp b ∧ b ∉ wr) oa') oa' u x := ru.on (fun b o hb e => t''.kp b o hb.2 (fun q => by rw [hw b q] at e; cases e) (k₂.kp b o e)) (fun b ⟨o, e⟩ hb => ⟨⟨hb.1, fun q => by rw [hw b q] at e; cases e⟩, fun c => by
      rcases c with c | c | c
      · exact hb.2 (.inl c)
      · exact hb.2 (.inr (.inl c))
      · rcases t'.grow b c with g | g
        · exact hb.2 (.inr (.inr g))
        · rw [k₂.kp b o e] at g; cases g⟩) hn
    have hd : xs.drop j = x :: xs.drop (j + 1) := by
      rw [List.drop_eq_getElem_cons hlt]
      congr 1
      rw [List.getElem?_eq_getElem hlt] at hxj
      exact Option.some.inj hxj
    rw [hd] at h
    unfold forL at h
    obtain ⟨⟨fl, σ₃⟩, h3, h⟩ := Option.bind_eq_some_iff.mp h
    refine bindE h3 fun σ₂ h4 h5 => ?_
    refine w.go _ _ (j + 1) _ t u st' ?_
    refine bindT_ok i'' h4 ru' fun s₄ val₄ i₄ t₄ => ?_
    refine d.exs i₄ h5 _ _ fun f s₅ o => ?_
    obtain ⟨oa₅, val₅, i₅, t₅, hf⟩ := o.ex
    have T := (t''.step t₄).step t₅
    cases fl with
    | next =>
      cases hf
      refine ⟨m - 1, (fore hm hlt).1, oa₅, val₅, σ₃, j + 1, hlt, (fore hm hlt).2, i₅, T, ?_, h⟩
      refine w.walks.frame (j + 1) h' s₅.heap st' fun b hb o e => (t₄.trans t₅).kp b o (fun q => ?_) e
      have nofp : ∀ {P : Prop}, (chg F.env oa b → P) → (s₂.heap.get? b = none → P) → P := fun f g => by
        rcases q with q | q | q
        · exact f (.inl q)
        · exact f (.inr (.inl q))
        · rcases t'.grow b q with q | q
          · exact f (.inr (.inr q))
          · exact g q
      refine nofp (fun q => ?_) fun q => w.fpo b hb q
      rcases hfp ho b hb with z | z
      · exact i₁.chg_some q z
      · exact z.2 q
    | ret u =>
      cases h
      obtain ⟨v, rfl, r⟩ := hf
      have i₆ : F.I okp oa₅ val₅ σ₃ s₅ := Inv.turnW (wr := []) (h' := s₅.heap) (tk := s₅.toks) i₅ (by simp) (by simp) (by simp) (fun b o _ e => e) (Nat.le_refl _) (fun b h => h.1) (fun b hb => (i₅.fr b hb).1)
      exact hq _ _ ⟨oa₅, val₅, i₆, (Stp.ofKx k₁).trans (T.out k₂ hw), v, rfl, r.let (fun b _ hb => ⟨hb.1.1, hb.2⟩) fun _ h => h⟩
  · have hjn : j = xs.length := by omega
    subst hjn
    rw [List.drop_length] at h
    cases h
    refine wpAny_mono (wpAny_toks_of (n := s'.toks) (Nat.le_refl _) (w.walks.done s' (fun r s'' => ∃ h' tk, r = none ∧ s'' = { s' with heap := h', toks := tk } ∧ (∀ b o, b ∉ wr → s'.heap.get? b = some o → h'.get? b = some o)) _ st fun h' tk hk => ⟨h', tk, rfl, rfl, hk⟩)) (fun r s'' hh => ?_) fun _ _ x => x.2
    obtain ⟨htk, h', tk, rfl, rfl, hk⟩ := hh
    have back : ∀ b, b ∉ wr → h'.get? b = none → s'.heap.get? b = none := fun b q hb => by
      cases e : s'.heap.get? b with
      | none => rfl
      | some o => rw [hk b o q e] at hb; cases hb
    have i₆ : F.I okp oa' val' σ' { s' with heap := h', toks := tk } := Inv.turnW i' ws₀ (fun c hc q => q.2 hc) wrn hk htk (fun _ h => h.1) fun b hb => by
      by_cases q : b ∈ wr
      · exact i₁.fr b (hw b q)
      · exact (i'.fr b (back b q hb)).1
    refine wpAny_execs_nil (hq _ _ (outNext i₆ ((Stp.ofKx k₁).trans ⟨fun b o hb e => ?_, t'.inc, fun b q => (t'.grow b q).imp id fun e => none_kp k₂.kp e, fun b hb => ?_⟩)))
    · have q : b ∉ wr := fun q => by rw [hw b q] at e; cases e
      exact hk b o q (t'.kp b o hb q (k₂.kp b o e))
    · by_cases q : b ∈ wr
      · exact hw b q
      · exact none_kp k₂.kp (t'.ex b (back b q hb))

theorem try_s (d : Sx F n) (i : F.I okp oa val σ s) {b : List Stmt} {h₀ : ExceptHandler} {hs : List ExceptHandler} {pp : Pos} {p : Fl × Sg} (h : exs F.X n b σ = some p) : Gs F okp oa (exec (.Try b (h₀ :: hs) [] [] pp) F.env) p s := fun E Q hq => by
  refine wpAny_Try_except (d.exs i h _ _ fun f s₁ o => ?_)
  obtain ⟨oa', val', i', t', hf⟩ := id o.ex
  obtain ⟨fl, σ'⟩ := p
  cases fl with
  | next => cases hf; exact wpAny_execs_nil (hq _ _ o)
  | ret u => obtain ⟨v, rfl, r⟩ := hf; exact hq _ _ o

/-- a local name is stored in another heap -/
theorem Inv.putL (i : F.I okp oa val σ s) {y : Str} {a : V} {v : Value} {m : Str → Option Value} (hy : F.X.K y = some .local) (hm : ∀ x a, σ x = some a → F.X.K x = some .local → m x = some (val x)) {h' : Heap} {tk : Nat}
    (hn' : h'.Ns F.env.locals (fun z => if z = y then some v else m z)) (hx : ∀ b o, b ≠ F.env.locals → s.heap.get? b = some o → h'.get? b = some o) (ht : F.s₀.toks ≤ tk) (r : Rep F.W h' (okOf F.env okp oa) oa v a) (na : a.isOwn = false) :
    F.I okp oa (updV val y v) (upd σ y a) { s with heap := h', toks := tk } ∧ Stp F.env oa oa s { s with heap := h', toks := tk } := by
  have hc : chg F.env oa F.env.locals := .inl rfl
  have n1 : ¬ okOf F.env okp oa F.env.locals := fun q => q.2 hc
  refine ⟨{ i with
      kx := ⟨kVia i.kx.keeps fun b o e => hx b o (fun q => by rw [q, i.frs _ hc] at e; cases e) (i.kx.kp b o e), ht⟩
      fr := frAt i.fr hx (ns_some hn')
      loc := ⟨_, hn', fun x b e q => ?_⟩
      cel := fun y c e => let ⟨u, o, ho, hd⟩ := i.cel y c e; ⟨u, o, hx _ o (i.loc_cell e) ho, hd⟩
      cval := fun x b c e q1 q2 => ?_
      kd := fun x b e => ?_
      rep := fun x b e => ?_
      lst := fun b hb => let ⟨it, o, ho⟩ := i.lst b hb; ⟨it, o, hx _ _ (fun q => i.loc_own (q ▸ hb)) ho⟩
      apart := apart_upd i (fun xs e => by rw [e] at na; cases na) }, Stp.at hc hx (ns_some hn')⟩
  · by_cases hxy : x = y
    · subst hxy; rw [updV_self]; exact if_pos rfl
    · rw [upd_ne hxy] at e; rw [updV_ne hxy]; exact (if_neg hxy).trans (hm x b e q)
  · have hxy : x ≠ y := by rintro rfl; rw [hy] at q1; cases q1
    rw [upd_ne hxy] at e; rw [updV_ne hxy]
    obtain ⟨o, ho, hd⟩ := i.cval x b c e q1 q2
    exact ⟨o, hx _ o (i.loc_cell q2) ho, hd⟩
  · by_cases hxy : x = y
    · subst hxy; exact .inl hy
    · rw [upd_ne hxy] at e; exact i.kd x b e
  · by_cases hxy : x = y
    · subst hxy; rw [upd_self] at e; cases e; rw [updV_self]; exact r
    · rw [upd_ne hxy] at e; rw [updV_ne hxy]; exact (i.rep x b e).off hx n1 i.loc_own
end
end Mine
end
section
namespace Mine
open PySem PySem.Calls PyProof.Rows PySem.W

section
variable {F : Fx} {okp oa oa' : Addr → Prop} {val : Str → Value} {σ σ' : Sg} {s s' : Shared} {n : Nat}

theorem comp_assign (i : F.I okp oa val σ s) {y : Str} {py spos pos : Pos} {elt : Expr} {gs : List Comprehension} {sc : Scope} {a : V} (h : ev F.X n (.ListComp elt gs sc pos) σ = some a) (hp : put F.X y a σ = some σ') :
    Gs F okp oa (exec (.Assign [.Name y py] (.ListComp elt gs sc pos) spos) F.env) (.next, σ') s := by
  obtain ⟨hk0, hna, rfl⟩ := put_is hp
  obtain ⟨b, hb⟩ : ∃ b, b = (F.env.blockKind == .function && F.env.kindOf y == some .local && py.line == (Expr.ListComp elt gs sc pos).pos.line && !(sc.names.any fun (n, k) => n == y && (k == .local || k == .cell))) := ⟨_, rfl⟩
  have hsw : swapsWith (.ListComp elt gs sc pos) (some (.Name y py)) spos.line F.env = pure b := by rw [hb]; rfl
  cases b with
  | false => exact assign_e i h hp hsw
  | true =>
    have hy : F.X.K y = some .local := by
      have := hb.symm
      simp only [Bool.and_eq_true, beq_iff_eq] at this
      rw [← i.en.kinds]; exact this.1.1.2
    clear hb
    intro E Q hq
    refine wpAny_mono (wpAny_toks_of (n := s.toks) (Nat.le_refl _) (Q := fun f s' => s.toks ≤ s'.toks → Out F okp oa s (.next, upd σ y a) f s') ?_) (fun f s' hh => hq f s' (hh.2 hh.1)) fun _ _ x => x.2
    cases n with
    | zero => cases h
    | succ n =>
      have key : ∃ x px iter ifs, gs = [⟨.Name x px, iter, ifs, 0⟩] := by
        unfold ev at h
        generalize view (.ListComp elt gs sc pos) = w at h
        cases w with
        | comp _ x px iter ifs _ _ => exact ⟨_, _, _, _, rfl⟩
        | no _ => cases h
      obtain ⟨x, px, iter, ifs, rfl⟩ := key
      have he : ev F.X (n + 1) (.ListComp elt [⟨.Name x px, iter, ifs, 0⟩] sc pos) σ = if compOk F.X x sc && ifs.length ≤ 1 then
          (ev F.X n iter σ).bind fun it => it.items.bind fun xs => if xs.length ≤ big then
            (compL (fun v => tsts (compCx F.X sc) n ifs (compSg σ x sc v)) (fun v => ev (compCx F.X sc) n elt (compSg σ x sc v)) xs).map .lst else none
        else none := rfl
      rw [he] at h
      refine ifE h fun hf h => ?_
      simp only [Bool.and_eq_true, decide_eq_true_eq] at hf
      refine bindE h fun it hi h => ?_
      refine bindE h fun xs hx h => ?_
      refine ifE h fun h3 h => ?_
      obtain ⟨out, ho, rfl⟩ := Option.map_eq_some_iff.mp h
      have hc := compOk_is hf.1
      obtain ⟨cl, hcl, hlk⟩ := closure_of sc F.env fun p hp e => i.en.cells p.1 (hc.free p hp e)
      refine wpAny_Assign_ListComp_free (compP fun v => tsts (compCx F.X sc) n ifs (compSg σ x sc v)) (compF F.W fun v => ev (compCx F.X sc) n elt (compSg σ x sc v)) hsw hcl hc.cell hc.kind hc.locs hc.x ((i.en.kinds y).trans hy) (by rw [i.en.kind]; rfl) ?_ (fun x => ?_)
      · refine use_ev i hi fun v s₁ k₁ i₁ r₁ => ?_
        refine wpAny_mono (comp_core (cl := cl) i₁.cc hc hlk r₁ hx ho (fun env' σ' s' b c' e => tests_ok (sd n) hf.2 c' e) (fun env' σ' s' b c' e => (sd n).ev c' e) E) (fun iv s₂ hh => ?_) fun _ _ e => e
        obtain ⟨I, fp, wr, P, St, w, k₂, hqq, hr⟩ := hh
        obtain ⟨m, hn, hm⟩ := i₁.loc
        have hnw : F.env.locals ∉ wr := fun q => ns_some hn (w.wr _ q)
        refine ⟨I, fp, wr, xs.length, P, St, m, w.it, w.walks, by rw [sizeLine_is]; rw [big_is] at h3; omega, w.st, w.fp, hnw, hn.keeps k₂.kp, hqq, fun D h' tk ys vs hD hL _ hlen hP hF hNs hk => ?_⟩
        intro htk
        have kk : ∀ b o, b ≠ F.env.locals → s₁.heap.get? b = some o → h'.get? b = some o := fun b o q e => hk b o q (fun hm => by rw [w.wr b hm] at e; cases e) (k₂.kp b o e)
        obtain ⟨k2k, _⟩ := k₂
        obtain ⟨h₂, t₂, rfl, k2p⟩ := k2k
        obtain ⟨i₃, t₃⟩ := i₁.putL (tk := tk) hy hm hNs kk (Nat.le_trans i.kx.toks htk) (.lst hL ((i₁.fresh).up k2p _ hD) (hr vs ys.toList hlen hP hF _ _ _)) rfl
        exact outNext i₃ ((Stp.ofKx k₁).trans t₃)
      · cases iter <;> first | rfl | (cases n <;> cases hi)

theorem sx_zero : Sx F 0 := ⟨fun _ h => (nomatch h), fun _ h => (nomatch h)⟩
theorem sx_exs (d : Sx F n) (i : F.I okp oa val σ s) {ss : List Stmt} {p : Fl × Sg} (h : exs F.X (n + 1) ss σ = some p) : Gs F okp oa (execs ss F.env) p s := fun E Q hq => by
  unfold exs at h
  split at h
  · cases h; exact wpAny_execs_nil (hq _ _ (outNext i Stp.refl))
  · unfold thenS at h
    obtain ⟨⟨fl, σ₁⟩, h1, h⟩ := Option.bind_eq_some_iff.mp h
    refine wpAny_execs_cons (d.ex i h1 _ _ fun f s₁ o => ?_)
    obtain ⟨oa', val', i', t', hf⟩ := o.ex
    cases fl with
    | next => cases hf; exact d.exs i' h _ _ fun f s₂ o₂ => hq f s₂ (o₂.after t')
    | ret u => cases h; obtain ⟨v, rfl, r⟩ := hf; exact hq _ _ o
theorem expr_s (i : F.I okp oa val σ s) {x m : Str} {np ap p q : Pos} {args : List Expr} {r : Fl × Sg} (h : (if ap.endLine == p.line then (ownOf F.X σ x).bind fun xs => (evs F.X n args σ).bind fun as => (match as with
        | [v] => if m = "append" ∧ v.isOwn = false ∧ xs.length ≤ big then some (Fl.next, upd σ x (.own (xs ++ [v]))) else none
        | [.int k, v] => if m = "insert" ∧ v.isOwn = false ∧ 0 ≤ k ∧ k ≤ xs.length ∧ xs.length ≤ big then some (.next, upd σ x (.own (xs.take k.toNat ++ v :: xs.drop k.toNat))) else none
        | _ => none) else none) = some r) : Gs F okp oa (exec (.Expr (.Call (.Attribute (.Name x np) m ap) args [] p) q) F.env) r s := by
  refine ifE h fun hl h => ?_
  refine bindE h fun xs h1 h => ?_
  refine bindE h fun as h2 h5 => ?_
  clear h
  have hlen := evs_len h2
  split at h5
  · refine ifE h5 ?_
    clear h5
    intro hc h5
    obtain ⟨rfl, hn, hb⟩ := hc
    have h5 := Option.some.inj h5
    subst h5
    obtain ⟨e, r, e1, hlen⟩ := len_s hlen.symm
    have e2 := len0 hlen
    rw [e2] at e1
    rw [e1] at h2 ⊢
    exact app_stmt i hl h1 h2 hn hb
  · refine ifE h5 ?_
    clear h5
    intro hc h5
    obtain ⟨rfl, hn, h0, h3, hb⟩ := hc
    have h5 := Option.some.inj h5
    subst h5
    obtain ⟨e, r, e1, hlen⟩ := len_s hlen.symm
    obtain ⟨e', r', e2, hlen⟩ := len_s hlen
    have e3 := len0 hlen
    rw [e3] at e2
    rw [e2] at e1
    rw [e1] at h2 ⊢
    exact ins_stmt i hl h1 h2 hn h0 h3 hb
  · cases h5
theorem sx_ex (d : Sx F n) (i : F.I okp oa val σ s) {st : Stmt} {p : Fl × Sg} (h : ex F.X (n + 1) st σ = some p) : Gs F okp oa (exec st F.env) p s := by
  unfold ex at h
  generalize viewS st = w at h
  induction w
  · rename_i x px e pos
    dsimp only at h
    split at h
    · refine ifE h fun hm h => ?_
      refine bindE h fun v h1 h => ?_
      obtain ⟨σ₁, h2, rfl⟩ := Option.map_eq_some_iff.mp h
      refine assign_own i hm h1 h2 (swaps_not (fun elt gs sc q e => ?_) ⟨_, h1⟩)
      subst e
      unfold makes at hm
      generalize view (.ListComp elt gs sc q) = w at hm
      cases w <;> exact Bool.noConfusion hm
    · refine bindE h fun v h1 h => ?_
      obtain ⟨σ₁, h2, rfl⟩ := Option.map_eq_some_iff.mp h
      by_cases hc : ∃ elt gs sc q, e = .ListComp elt gs sc q
      · obtain ⟨elt, gs, sc, q, rfl⟩ := hc
        exact comp_assign i h1 h2
      · exact assign_e i h1 h2 (swaps_not (fun elt gs sc q e => hc ⟨elt, gs, sc, q, e⟩) ⟨_, h1⟩)
  · dsimp only at h
    refine bindE h fun v h1 h => ?_
    refine bindE h fun σ₁ h2 h => ?_
    obtain ⟨σ₂, h3, rfl⟩ := Option.map_eq_some_iff.mp h
    exact assign_two i h1 h2 h3
  · dsimp only at h
    refine ifE h fun hc h => ?_
    refine bindE h fun vs h1 h => ?_
    split at h <;> try (cases h; done)
    refine bindE h fun σ₁ h2 h => ?_
    obtain ⟨σ₂, h3, rfl⟩ := Option.map_eq_some_iff.mp h
    exact swap_two i hc.1.1 hc.1.2.1 hc.1.2.2 hc.2.1 hc.2.2.1 hc.2.2.2 h1 h2 h3
  · dsimp only at h
    refine bindE h fun xs hx h => ?_
    refine ifE h fun hc h => ?_
    simp only [Bool.and_eq_true, decide_eq_true_eq] at hc
    refine bindE h fun vs h1 h => ?_
    obtain ⟨σ₂, h3, rfl⟩ := Option.map_eq_some_iff.mp h
    exact own_tuple i hx hc.1.1.1 hc.1.1.2 hc.1.2 hc.2 h1 h3
  · dsimp only at h
    refine bindE h fun v h1 h => ?_
    refine bindE h fun xs h2 h => ?_
    refine bindE h fun kk h3 h => ?_
    split at h <;> try (cases h; done)
    split at h <;> cases h
    exact assign_at i h1 h2 h3 (by assumption)
  · dsimp only at h
    split at h <;> try (cases h; done)
    refine bindE h fun a h1 h => ?_
    refine bindE h fun b h2 h => ?_
    exact aug_e i h1 h2 h
  · dsimp only at h
    refine bindE h fun c h1 h => ?_
    exact if_s d i h1 h
  · exact while_s d i h
  · dsimp only at h
    refine bindE h fun v h1 h => ?_
    refine bindE h fun xs h2 h => ?_
    refine ifE h fun hc h => ?_
    simp only [Bool.and_eq_true, decide_eq_true_eq, Bool.not_eq_true'] at hc
    exact for_s d i h1 h2 hc.2 h
  · dsimp only at h
    obtain ⟨v, h1, rfl⟩ := Option.map_eq_some_iff.mp h
    exact ret_e i h1
  · exact expr_s i h
  · exact try_s d i h
  · cases h
theorem sx : ∀ n, Sx F n
  | 0 => sx_zero
  | n + 1 => ⟨fun i h => sx_ex (sx n) i h, fun i h => sx_exs (sx n) i h⟩
end
end Mine
end
section
namespace Mine
open PySem PySem.Calls PyProof.Rows PySem.W

theorem both_true {a b : Bool} (h : (a && b) = true) : a = true ∧ b = true := by cases a <;> cases b <;> first | exact ⟨rfl, rfl⟩ | cases h
noncomputable def recD (l : List DefRec) (i : Nat) : DefRec := l.getD i ⟨"", ⟨[], [], none, [], [], none, []⟩, [], default, ⟨0, 0, 0, 0⟩⟩
noncomputable def BindOk (d : DefRec) : Prop := ∀ (pm code doc : Value) (vs : List Value), (fdOf d).params.length = vs.length → bindArgs (d.data pm code doc) ⟨vs, []⟩ = pure ((fdOf d).params.zip vs)
theorem bindOk1 {d : DefRec} (h1 : (fdOf d).params.length = 1) (h : ∀ pm code doc v, bindArgs (d.data pm code doc) ⟨[v], []⟩ = pure ((fdOf d).params.zip [v])) : BindOk d := fun pm code doc vs hl => by
  rw [h1] at hl
  obtain ⟨v, r, e, hl⟩ := len_s hl
  rw [e, len0 hl]
  exact h pm code doc v
theorem bindOk2 {d : DefRec} (h1 : (fdOf d).params.length = 2) (h : ∀ pm code doc v w, bindArgs (d.data pm code doc) ⟨[v, w], []⟩ = pure ((fdOf d).params.zip [v, w])) : BindOk d := fun pm code doc vs hl => by
  rw [h1] at hl
  obtain ⟨v, r, e, hl⟩ := len_s hl
  obtain ⟨w, r', e', hl⟩ := len_s hl
  rw [e, e', len0 hl]
  exact h pm code doc v w
theorem bindOk3 {d : DefRec} (h1 : (fdOf d).params.length = 3) (h : ∀ pm code doc u v w, bindArgs (d.data pm code doc) ⟨[u, v, w], []⟩ = pure ((fdOf d).params.zip [u, v, w])) : BindOk d := fun pm code doc vs hl => by
  rw [h1] at hl
  obtain ⟨u, r, e, hl⟩ := len_s hl
  obtain ⟨v, r', e', hl⟩ := len_s hl
  obtain ⟨w, r'', e'', hl⟩ := len_s hl
  rw [e, e', e'', len0 hl]
  exact h pm code doc u v w
noncomputable def AllP (P : DefRec → Prop) : List DefRec → Prop
  | [] => True
  | d :: r => P d ∧ AllP P r
theorem allP_mem {P : DefRec → Prop} {l : List DefRec} (h : AllP P l) (d) (hd : d ∈ l) : P d := by
  induction l with
  | nil => cases hd
  | cons a r ih =>
    rcases List.mem_cons.mp hd with e | hd
    · rw [e]; exact h.1
    · exact ih h.2 hd
theorem allP_step {P : DefRec → Prop} {l : List DefRec} {i : Nat} (hi : decide (i < l.length) = true) (h : P (recD l i)) (h' : AllP P (l.drop (i + 1))) : AllP P (l.drop i) := by
  have hi := of_decide_eq_true hi
  rw [List.drop_eq_getElem_cons hi]
  refine ⟨?_, h'⟩
  unfold recD at h
  rw [List.getD_eq_getElem?_getD, List.getElem?_eq_getElem hi] at h
  exact h
theorem allP_end {P : DefRec → Prop} {l : List DefRec} {i : Nat} (hi : decide (l.length ≤ i) = true) : AllP P (l.drop i) := by
  rw [List.drop_eq_nil_of_le (of_decide_eq_true hi)]
  trivial
theorem bind_all : AllP BindOk (recs.drop 0) := by
  refine allP_step (by kernel_rfl) (bindOk2 (by kernel_rfl) fun pm code doc v w => by kernel_rfl) ?_
  refine allP_step (by kernel_rfl) (bindOk3 (by kernel_rfl) fun pm code doc u v w => by kernel_rfl) ?_
  refine allP_step (by kernel_rfl) (bindOk2 (by kernel_rfl) fun pm code doc v w => by kernel_rfl) ?_
  refine allP_step (by kernel_rfl) (bindOk2 (by kernel_rfl) fun pm code doc v w => by kernel_rfl) ?_
  refine allP_step (by kernel_rfl) (bindOk2 (by kernel_rfl) fun pm code doc v w => by kernel_rfl) ?_
  refine allP_step (by kernel_rfl) (bindOk2 (by kernel_rfl) fun pm code doc v w => by kernel_rfl) ?_
  refine allP_step (by kernel_rfl) (bindOk2 (by kernel_rfl) fun pm code doc v w => by kernel_rfl) ?_
  refine allP_step (by kernel_rfl) (bindOk2 (by kernel_rfl) fun pm code doc v w => by kernel_rfl) ?_
  refine allP_step (by kernel_rfl) (bindOk2 (by kernel_rfl) fun pm code doc v w => by kernel_rfl) ?_
  refine allP_step (by kernel_rfl) (bindOk2 (by kernel_rfl) fun pm code doc v w => by kernel_rfl) ?_
  refine allP_step (by kernel_rfl) (bindOk2 (by kernel_rfl) fun pm code doc v w => by kernel_rfl) ?_
  refine allP_step (by kernel_rfl) (bindOk2 (by kernel_rfl) fun pm code doc v w => by kernel_rfl) ?_
  refine allP_step (by kernel_rfl) (bindOk2 (by kernel_rfl) fun pm code doc v w => by kernel_rfl) ?_
  refine allP_step (by kernel_rfl) (bindOk1 (by kernel_rfl) fun pm code doc v => by kernel_rfl) ?_
  refine allP_step (by kernel_rfl) (bindOk1 (by kernel_rfl) fun pm code doc v => by kernel_rfl) ?_
  refine allP_step (by kernel_rfl) (bindOk1 (by kernel_rfl) fun pm code doc v => by kernel_rfl) ?_
  refine allP_step (by kernel_rfl) (bindOk1 (by kernel_rfl) fun pm code doc v => by kernel_rfl) ?_
  refine allP_step (by kernel_rfl) (bindOk1 (by kernel_rfl) fun pm code doc v => by kernel_rfl) ?_
  refine allP_step (by kernel_rfl) (bindOk1 (by kernel_rfl) fun pm code doc v => by kernel_rfl) ?_
  refine allP_step (by kernel_rfl) (bindOk1 (by kernel_rfl) fun pm code doc v => by kernel_rfl) ?_
  refine allP_step (by kernel_rfl) (bindOk1 (by kernel_rfl) fun pm code doc v => by kernel_rfl) ?_
  refine allP_step (by kernel_rfl) (bindOk1 (by kernel_rfl) fun pm code doc v => by kernel_rfl) ?_
  refine allP_step (by kernel_rfl) (bindOk2 (by kernel_rfl) fun pm code doc v w => by kernel_rfl) ?_
  refine allP_step (by kernel_rfl) (bindOk2 (by kernel_rfl) fun pm code doc v w => by kernel_rfl) ?_
  refine allP_step (by kernel_rfl) (bindOk2 (by kernel_rfl) fun pm code doc v w => by kernel_rfl) ?_
  refine allP_step (by kernel_rfl) (bindOk1 (by kernel_rfl) fun pm code doc v => by kernel_rfl) ?_
  refine allP_step (by kernel_rfl) (bindOk2 (by kernel_rfl) fun pm code doc v w => by kernel_rfl) ?_
  refine allP_step (by kernel_rfl) (bindOk2 (by kernel_rfl) fun pm code doc v w => by kernel_rfl) ?_
  refine allP_step (by kernel_rfl) (bindOk1 (by kernel_rfl) fun pm code doc v => by kernel_rfl) ?_
  exact allP_end (by kernel_rfl)
theorem bind_any {d : DefRec} (h : d ∈ recs) (pm code doc : Value) {vs : List Value} (hl : (fdOf d).params.length = vs.length) : bindArgs (d.data pm code doc) ⟨vs, []⟩ = pure ((fdOf d).params.zip vs) :=
  allP_mem bind_all d h pm code doc vs hl

noncomputable def nodupB : List Str → Bool
  | [] => true
  | x :: r => !r.contains x && nodupB r
theorem nodupB_is : ∀ {l : List Str}, nodupB l = true → l.Nodup
  | [], _ => .nil
  | x :: r, h => by
    simp only [nodupB, Bool.and_eq_true, Bool.not_eq_true'] at h
    refine List.nodup_cons.mpr ⟨fun hm => ?_, nodupB_is h.2⟩
    have := h.1
    rw [List.contains_iff_mem.mpr hm] at this
    cases this
noncomputable def defOk (d : DefRec) : Bool := (d.scope.kind == .function) && !d.scope.isCoroutine && !d.scope.isGenerator && nodupB (fdOf d).params && (fdOf d).params.all (fun x => d.scope.names.lookup x == some .local || d.scope.names.lookup x == some .cell)
theorem all_ok : recs.all defOk = true := by kernel_rfl
structure DefOk (d : DefRec) : Prop where
  args : d ∈ recs
  kind : d.scope.kind = .function
  co : d.scope.isCoroutine = false
  gen : d.scope.isGenerator = false
  nodup : (fdOf d).params.Nodup
  pk : ∀ x ∈ (fdOf d).params, d.scope.names.lookup x = some .local ∨ d.scope.names.lookup x = some .cell
theorem defOk_is {n : Str} {d : DefRec} (h : recOf n = some d) : DefOk d := by
  have hm := List.mem_of_find?_eq_some h
  have := List.all_eq_true.mp all_ok d hm
  simp only [defOk, Bool.and_eq_true, Bool.not_eq_true', beq_iff_eq, List.all_eq_true, Bool.or_eq_true] at this
  obtain ⟨⟨⟨⟨h2, h3⟩, h4⟩, h5⟩, h6⟩ := this
  exact ⟨hm, h2, h3, h4, nodupB_is h5, h6⟩
theorem rec_name {n : Str} {d : DefRec} (h : recOf n = some d) : d.name = n := by
  have := List.find?_some h
  simpa using this

theorem cellsFrom_some {x : Str} : ∀ {names : List (Str × NameKind)} {n : Nat} {acc : List (Str × Addr)}, ((acc.lookup x).isSome = true ∨ (x, .cell) ∈ names) → ((cellsFrom n names acc).lookup x).isSome = true
  | [], n, acc, h => by
    rcases h with h | h
    · exact h
    · cases h
  | (y, kd) :: r, n, acc, h => by
    unfold cellsFrom
    split
    · rename_i hk
      refine cellsFrom_some ?_
      rcases h with h | h
      · left
        rw [List.lookup_cons]
        split <;> simp_all
      · rcases List.mem_cons.mp h with e | h
        · cases e
          left
          rw [List.lookup_cons]; simp
        · exact .inr h
    · rename_i hk
      refine cellsFrom_some ?_
      rcases h with h | h
      · exact .inl h
      · rcases List.mem_cons.mp h with e | h
        · cases e; exact absurd rfl hk
        · exact .inr h

theorem bindL_notin {K : Str → Option NameKind} {x : Str} : ∀ {b : List (Str × Value)} {m : Str → Option Value}, x ∉ b.map (·.1) → bindL K b m x = m x
  | [], _, _ => rfl
  | (n, v) :: r, m, h => by
    simp only [List.map_cons, List.mem_cons, not_or] at h
    unfold bindL
    rw [bindL_notin h.2]
    split
    · exact if_neg h.1
    · rfl
theorem bindC_notin {K : Str → Option NameKind} {x : Str} : ∀ {b : List (Str × Value)} {m : Str → Option Value}, x ∉ b.map (·.1) → bindC K b m x = m x
  | [], _, _ => rfl
  | (n, v) :: r, m, h => by
    simp only [List.map_cons, List.mem_cons, not_or] at h
    unfold bindC
    rw [bindC_notin h.2]
    split
    · rfl
    · exact if_neg h.1
theorem bindL_at {K : Str → Option NameKind} {x : Str} {v : Value} (hk : K x = some .local) : ∀ {b : List (Str × Value)} {m : Str → Option Value}, (b.map (·.1)).Nodup → b.lookup x = some v → bindL K b m x = some v
  | [], _, _, h => by cases h
  | (n, w) :: r, m, hn, h => by
    rw [List.map_cons, List.nodup_cons] at hn
    unfold bindL
    rw [List.lookup_cons] at h
    cases hx : x == n with
    | true =>
      rw [hx] at h
      have e : x = n := by simpa using hx
      cases h
      subst e
      rw [bindL_notin hn.1, if_pos hk]
      exact if_pos rfl
    | false =>
      rw [hx] at h
      exact bindL_at hk hn.2 h
theorem bindC_at {K : Str → Option NameKind} {x : Str} {v : Value} (hk : K x = some .cell) : ∀ {b : List (Str × Value)} {m : Str → Option Value}, (b.map (·.1)).Nodup → b.lookup x = some v → bindC K b m x = some v
  | [], _, _, h => by cases h
  | (n, w) :: r, m, hn, h => by
    rw [List.map_cons, List.nodup_cons] at hn
    unfold bindC
    rw [List.lookup_cons] at h
    cases hx : x == n with
    | true =>
      rw [hx] at h
      have e : x = n := by simpa using hx
      cases h
      subst e
      rw [bindC_notin hn.1, if_neg (by rw [hk]; decide)]
      exact if_pos rfl
    | false =>
      rw [hx] at h
      exact bindC_at hk hn.2 h
end Mine
end
section
set_option maxRecDepth 20000
namespace Mine
open PySem

structure EscD (d : DefRec) (cs : List (Nat × Str)) : Prop where
  body : ∃ b h hs p, d.body = [.Try b (h :: hs) [] [] p] ∧ EscS b cs
  k : d.scope.names.lookup ("text" : Str) = some .local
  ps : (fdOf d).params = [("text" : Str)]
  o : (owned (fdOf d).name).contains "text" = false
theorem escD : ∀ i, i < 5 → ∃ d, recOf (escName i) = some d ∧ EscD d (escPairs i) :=
  lt5 ⟨_, rfl, ⟨⟨_, _, _, _, rfl, esc_0 rfl⟩, rfl, rfl, rfl⟩⟩ ⟨_, rfl, ⟨⟨_, _, _, _, rfl, esc_1 rfl⟩, rfl, rfl, rfl⟩⟩ ⟨_, rfl, ⟨⟨_, _, _, _, rfl, esc_2 rfl⟩, rfl, rfl, rfl⟩⟩ ⟨_, rfl, ⟨⟨_, _, _, _, rfl, esc_3 rfl⟩, rfl, rfl, rfl⟩⟩ ⟨_, rfl, ⟨⟨_, _, _, _, rfl, esc_4 rfl⟩, rfl, rfl, rfl⟩⟩
theorem esc_prim (as : List V) : ∀ i, i < 5 → prim (escName i) as = none := lt5 rfl rfl rfl rfl rfl
theorem esc_len : ∀ i, i < 5 → (escPairs i).length ≤ 7 := lt5 (by decide) (by decide) (by decide) (by decide) (by decide)
/-- an escape, sign by sign -/
theorem call_esc (i : Nat) (hi : i < 5) (n : Nat) (x : Str) (hf : escFits (escPairs i) x.cps.toList = true) : ∃ y, callF (n + 1) (escName i) [.str x] = some (.str y) ∧ y.cps.toList = escL (escPairs i) x.cps.toList := by
  obtain ⟨d, hd, E⟩ := escD i hi
  obtain ⟨b, h, hs, p, hb, e⟩ := E.body
  have hσ : start (fdOf d).params [.str x] "text" = some (.str x) := by rw [E.ps]; rfl
  have hl := esc_len i hi
  obtain ⟨y, σ', h1, h2⟩ := esc_run (X := cxOf (fdOf d) (callF n)) E.k E.o e (290 - (escPairs i).length) (start (fdOf d).params [.str x]) x hσ hf
  refine ⟨y, ?_, h2⟩
  unfold callF
  rw [esc_prim _ i hi]
  unfold findDef
  rw [hd]
  simp only [Option.map_some, Option.bind_some]
  rw [if_pos (by rw [E.ps]; rfl)]
  have hbd : (fdOf d).body = [.Try b (h :: hs) [] [] p] := hb
  rw [hbd]
  have he : ∀ (X : Cx) (σ : Sg), exs X 300 [.Try b (h :: hs) [] [] p] σ = thenS (exs X 298 b σ) (fun σ => some (.next, σ)) := fun X σ => rfl
  rw [he]
  have hn : 290 - (escPairs i).length + (escPairs i).length + 8 = 298 := by omega
  rw [hn] at h1
  rw [h1]
  rfl
end Mine
end
section
namespace Mine
open PySem

theorem escL_append : ∀ (cs : List (Nat × Str)) (a b : List Nat), escL cs (a ++ b) = escL cs a ++ escL cs b
  | [], _, _ => rfl
  | p :: r, a, b => by
    show escL r (swapS p.1 p.2.cps.toList (a ++ b)) = _
    rw [swapS_append, escL_append r]
    rfl
theorem escL_nil : ∀ cs : List (Nat × Str), escL cs [] = []
  | [] => rfl
  | p :: r => by
    show escL r (swapS p.1 p.2.cps.toList []) = _
    exact escL_nil r
theorem escL_flat (cs : List (Nat × Str)) : ∀ l : List Nat, escL cs l = l.flatMap fun c => escL cs [c]
  | [] => by rw [escL_nil]; rfl
  | c :: r => by
    rw [List.flatMap_cons, ← escL_flat cs r, ← escL_append]; rfl
/-- a sign that is none of theirs stays -/
theorem escL_other : ∀ (cs : List (Nat × Str)) (c : Nat), (∀ p ∈ cs, p.1 ≠ c) → escL cs [c] = [c]
  | [], _, _ => rfl
  | p :: r, c, h => by
    have : swapS p.1 p.2.cps.toList [c] = [c] := swapS_free _ _ _ (by simp; exact h p (by simp))
    show escL r (swapS p.1 p.2.cps.toList [c]) = [c]
    rw [this]
    exact escL_other r c fun q hq => h q (by simp [hq])
end Mine
end
section
namespace Mine
open PySem
/-! small rules for stepping -/
theorem exs_cons {X : Cx} {n : Nat} {st : Stmt} {r : List Stmt} {σ σ' : Sg} {q : Option (Fl × Sg)} (h : ex X n st σ = some (.next, σ')) (h' : exs X n r σ' = q) : exs X (n + 1) (st :: r) σ = q := by
  have he : exs X (n + 1) (st :: r) σ = thenS (ex X n st σ) (exs X n r) := rfl
  rw [he, h]; exact h'
theorem exs_ret {X : Cx} {n : Nat} {st : Stmt} {r : List Stmt} {σ σ' : Sg} {v : V} (h : ex X n st σ = some (.ret v, σ')) : exs X (n + 1) (st :: r) σ = some (.ret v, σ') := by
  have he : exs X (n + 1) (st :: r) σ = thenS (ex X n st σ) (exs X n r) := rfl
  rw [he, h]; rfl
theorem exs_nil {X : Cx} {n : Nat} {σ : Sg} : exs X (n + 1) [] σ = some (.next, σ) := rfl
theorem ex_assign {X : Cx} {n : Nat} {x : Str} {p q : Pos} {e : Expr} {σ : Sg} {v : V} (hO : X.O x = false) (hk : X.K x = some .local ∨ X.K x = some .cell) (h : ev X n e σ = some v) (hn : v.isOwn = false) : ex X (n + 1) (.Assign [.Name x p] e q) σ = some (.next, upd σ x v) := by
  have he : ex X (n + 1) (.Assign [.Name x p] e q) σ = if X.O x then (if makes X e then (ev X n e σ).bind fun v => (putOwn X x v σ).map (Fl.next, ·) else none) else (ev X n e σ).bind fun v => (put X x v σ).map (Fl.next, ·) := rfl
  have hp : put X x v σ = some (upd σ x v) := by unfold put; exact if_pos ⟨hk, hn, hO⟩
  rw [he, hO, h]
  simp only [Bool.false_eq_true, if_false, Option.bind_some, hp, Option.map_some]
theorem ex_if {X : Cx} {n : Nat} {t : Expr} {b o : List Stmt} {p : Pos} {σ : Sg} {c : Bool} (h : tst X n t σ = some c) : ex X (n + 1) (.If t b o p) σ = if c then exs X n b σ else exs X n o σ := by
  have he : ex X (n + 1) (.If t b o p) σ = (tst X n t σ).bind fun c => if c then exs X n b σ else exs X n o σ := rfl
  rw [he, h]; rfl
theorem ex_return {X : Cx} {n : Nat} {e : Expr} {p : Pos} {σ : Sg} {v : V} (h : ev X n e σ = some v) : ex X (n + 1) (.Return (some e) p) σ = some (.ret v, σ) := by
  have he : ex X (n + 1) (.Return (some e) p) σ = (ev X n e σ).map fun v => (.ret v, σ) := rfl
  rw [he, h]; rfl
theorem evs_nil {X : Cx} {n : Nat} {σ : Sg} : evs X (n + 1) [] σ = some [] := rfl
end Mine
end
section
namespace Mine
open PySem
noncomputable def rest6 : List Int := [174, 37, 283, 67477, 139, 109]
/-- a place of the script, or what stands for it -/
noncomputable def cellAt (xs : List Int) (k : Nat) : Int := if k < xs.length then (xs.getD k 0).fmod 1000000 else rest6.getD k 0
theorem cellAt_range (xs : List Int) (k : Nat) : 0 ≤ cellAt xs k ∧ cellAt xs k < 1000000 := by
  unfold cellAt
  split
  · exact ⟨Int.fmod_nonneg_of_pos _ (by omega), Int.fmod_lt_of_pos _ (by omega)⟩
  · have : ∀ k, 0 ≤ rest6.getD k 0 ∧ rest6.getD k 0 < 1000000 := fun k => by
      match k with
      | 0 => decide
      | 1 => decide
      | 2 => decide
      | 3 => decide
      | 4 => decide
      | 5 => decide
      | k + 6 => simp [rest6]
    exact this k
end Mine
end
section
set_option maxRecDepth 20000
namespace Mine
open PySem
end Mine
end
section
set_option maxRecDepth 20000
namespace Mine
open PySem

noncomputable def p0 : Pos := ⟨0, 0, 0, 0⟩
noncomputable def fdAt (k : Nat) : Fd := match DefRec.ofStmt? (body.getD k (.Pass p0)) with
  | some d => fdOf d
  | none => ⟨"", [], [], default⟩
noncomputable def nth (l : List Stmt) (i : Nat) : Stmt := l.getD i (.Pass p0)
noncomputable def noE : Expr := .Constant .none 0 p0
/-- what a statement holds -/
structure SI where
  test : Expr := noE
  body : List Stmt := []
  els : List Stmt := []
  iter : Expr := noE
  val : Expr := noE
  args : List Expr := []
  target : Expr := noE
noncomputable def SV.info {s : Stmt} : SV s → SI
  | .one _ _ e _ => { val := e }
  | .two _ _ _ _ e _ => { val := e }
  | .aug _ _ _ e _ => { val := e }
  | .cond t b o _ => { test := t, body := b, els := o }
  | .loop t b _ => { test := t, body := b }
  | .each t it b _ => { target := t, iter := it, body := b }
  | .ret e _ => { val := e }
  | .expr _ _ _ _ as _ _ => { args := as }
  | .tries b _ _ _ => { body := b }
  | _ => {}
noncomputable def sTest (s : Stmt) : Expr := (viewS s).info.test
noncomputable def sBody (s : Stmt) : List Stmt := (viewS s).info.body
noncomputable def sElse (s : Stmt) : List Stmt := (viewS s).info.els
noncomputable def sIter (s : Stmt) : Expr := (viewS s).info.iter
noncomputable def sVal (s : Stmt) : Expr := (viewS s).info.val
noncomputable def sArgs (s : Stmt) : List Expr := (viewS s).info.args
noncomputable def sTarget (s : Stmt) : Expr := (viewS s).info.target
/-- what an expression holds -/
structure EI where
  args : List Expr := []
  l : Expr := noE
  r : Expr := noE
  iter : Expr := noE
  ifs : List Expr := []
  sc : Scope := default
noncomputable def EV.info {e : Expr} : EV e → EI
  | .bin l _ r _ => { l := l, r := r }
  | .un _ x _ => { l := x }
  | .bool _ x y _ => { args := [x, y] }
  | .cmp l _ r _ => { l := l, r := r }
  | .call _ _ as _ => { args := as }
  | .meth _ _ _ as _ => { args := as }
  | .sub v i _ _ => { l := v, r := i }
  | .list as _ => { args := as }
  | .tuple as _ _ => { args := as }
  | .comp e _ _ it fs sc _ => { l := e, iter := it, ifs := fs, sc := sc }
  | _ => {}
noncomputable def eArgs (e : Expr) : List Expr := (view e).info.args
noncomputable def eArg (e : Expr) (i : Nat) : Expr := (eArgs e).getD i noE
noncomputable def eL (e : Expr) : Expr := (view e).info.l
noncomputable def eR (e : Expr) : Expr := (view e).info.r
noncomputable def cElt (e : Expr) : Expr := (view e).info.l
noncomputable def cIter (e : Expr) : Expr := (view e).info.iter
noncomputable def cIfs (e : Expr) : List Expr := (view e).info.ifs
noncomputable def cSc (e : Expr) : Scope := (view e).info.sc
noncomputable def SV.isIf {s : Stmt} : SV s → Bool
  | .cond .. => true
  | _ => false
noncomputable def SV.isWhile {s : Stmt} : SV s → Bool
  | .loop .. => true
  | _ => false
noncomputable def SV.isRet {s : Stmt} : SV s → Bool
  | .ret .. => true
  | _ => false
noncomputable def SV.asn (y : Str) {s : Stmt} : SV s → Bool
  | .one x _ _ _ => x == y
  | _ => false
noncomputable def EV.nameIs (y : Str) {e : Expr} : EV e → Bool
  | .name x _ => x == y
  | _ => false
noncomputable def nameIs (e : Expr) (y : Str) : Bool := (view e).nameIs y
noncomputable def SV.forv (y : Str) {s : Stmt} : SV s → Bool
  | .each t _ _ _ => nameIs t y
  | _ => false
noncomputable def isIf (s : Stmt) : Bool := (viewS s).isIf
noncomputable def isWhile (s : Stmt) : Bool := (viewS s).isWhile
noncomputable def isRet (s : Stmt) : Bool := (viewS s).isRet
noncomputable def asn (s : Stmt) (y : Str) : Bool := (viewS s).asn y
noncomputable def forv (s : Stmt) (y : Str) : Bool := (viewS s).forv y
theorem nameIs_is {t : Expr} {y : Str} (h : nameIs t y = true) : ∃ p, t = .Name y p := by
  unfold nameIs at h
  generalize view t = w at h
  induction w <;> try (exact Bool.noConfusion h)
  have e := eq_of_beq h
  subst e
  exact ⟨_, rfl⟩
theorem r_if {X : Cx} {n : Nat} {s : Stmt} {σ : Sg} {c : Bool} (hs : isIf s = true) (h : tst X n (sTest s) σ = some c) : ex X (n + 1) s σ = if c then exs X n (sBody s) σ else exs X n (sElse s) σ := by
  unfold isIf at hs
  generalize viewS s = w at hs
  induction w <;> try (exact Bool.noConfusion hs)
  exact ex_if h
theorem r_while {X : Cx} {n : Nat} {s : Stmt} {σ : Sg} (hs : isWhile s = true) : ex X (n + 1) s σ = whileL (fun σ => tst X n (sTest s) σ) (fun σ => exs X n (sBody s) σ) n σ := by
  unfold isWhile at hs
  generalize viewS s = w at hs
  induction w <;> try (exact Bool.noConfusion hs)
  rfl
theorem r_ret {X : Cx} {n : Nat} {s : Stmt} {σ : Sg} {v : V} (hs : isRet s = true) (h : ev X n (sVal s) σ = some v) : ex X (n + 1) s σ = some (.ret v, σ) := by
  unfold isRet at hs
  generalize viewS s = w at hs
  induction w <;> try (exact Bool.noConfusion hs)
  exact ex_return h
theorem r_asn {X : Cx} {n : Nat} {s : Stmt} {σ : Sg} {v : V} (x : Str) (hs : asn s x = true) (hO : X.O x = false) (hk : X.K x = some .local ∨ X.K x = some .cell) (h : ev X n (sVal s) σ = some v) (hn : v.isOwn = false) : ex X (n + 1) s σ = some (.next, upd σ x v) := by
  unfold asn at hs
  generalize viewS s = w at hs
  induction w <;> try (exact Bool.noConfusion hs)
  have e := eq_of_beq hs
  subst e
  exact ex_assign hO hk h hn
theorem r_for {X : Cx} {n : Nat} {s : Stmt} {σ : Sg} {v : V} {xs : List V} (x : Str) (hs : forv s x = true) (hO : X.O x = false) (hk : X.K x = some .local ∨ X.K x = some .cell) (h : ev X n (sIter s) σ = some v) (hi : v.items = some xs) (hb : xs.length ≤ big) (ho : v.isOwn = false) :
    ex X (n + 1) s σ = forL (fun v σ => (put X x v σ).bind fun σ' => exs X n (sBody s) σ') xs σ := by
  unfold forv at hs
  generalize viewS s = w at hs
  induction w <;> try (exact Bool.noConfusion hs)
  rename_i t it b q
  obtain ⟨p, rfl⟩ := nameIs_is hs
  have he : ex X (n + 1) (.For (.Name x p) it b [] q) σ = (ev X n it σ).bind fun v => v.items.bind fun xs => if decide (xs.length ≤ big) && !v.isOwn then
        forL (fun v σ => (bindT X (.Name x p) v σ).bind fun σ' => exs X n b σ') xs σ else none := rfl
  have h' : ev X n it σ = some v := h
  rw [he, h', Option.bind_some, hi, Option.bind_some, if_pos (by simp [hb, ho])]
  rfl
theorem put_ok {X : Cx} {x : Str} {v : V} {σ : Sg} (hO : X.O x = false) (hk : X.K x = some .local ∨ X.K x = some .cell) (hn : v.isOwn = false) : put X x v σ = some (upd σ x v) := by
  unfold put
  exact if_pos ⟨hk, hn, hO⟩
/-- one statement of a block -/
theorem r_step {X : Cx} {n i : Nat} {b : List Stmt} {σ σ' : Sg} {q : Option (Fl × Sg)} (hi : i < b.length) (h : ex X n (nth b i) σ = some (.next, σ')) (h' : exs X n (b.drop (i + 1)) σ' = q) : exs X (n + 1) (b.drop i) σ = q := by
  have e : b.drop i = nth b i :: b.drop (i + 1) := by
    rw [List.drop_eq_getElem_cons hi]
    unfold nth
    rw [List.getD_eq_getElem?_getD, List.getElem?_eq_getElem hi]; rfl
  rw [e]
  exact exs_cons h h'
theorem r_go {X : Cx} {n i : Nat} {b : List Stmt} {σ σ' : Sg} (hi : i < b.length) (h : ex X n (nth b i) σ = some (.next, σ')) : exs X (n + 1) (b.drop i) σ = exs X n (b.drop (i + 1)) σ' := r_step hi h rfl
theorem r_last {X : Cx} {n i : Nat} {b : List Stmt} {σ σ' : Sg} {v : V} (hi : i < b.length) (h : ex X n (nth b i) σ = some (.ret v, σ')) : exs X (n + 1) (b.drop i) σ = some (.ret v, σ') := by
  have e : b.drop i = nth b i :: b.drop (i + 1) := by
    rw [List.drop_eq_getElem_cons hi]
    unfold nth
    rw [List.getD_eq_getElem?_getD, List.getElem?_eq_getElem hi]; rfl
  rw [e]
  exact exs_ret h
theorem r_end {X : Cx} {n i : Nat} {b : List Stmt} {σ : Sg} (hi : b.length ≤ i) : exs X (n + 1) (b.drop i) σ = some (.next, σ) := by
  rw [List.drop_eq_nil_of_le hi]; rfl
theorem r_start {X : Cx} {n : Nat} {b : List Stmt} {σ : Sg} {q : Option (Fl × Sg)} (h : exs X n (b.drop 0) σ = q) : exs X n b σ = q := h
theorem r_call {n : Nat} {name : Str} {as : List V} {f : Fd} {r : V} {σ' : Sg} (hp : prim name as = none) (hf : findDef name = some f) (hl : f.params.length = as.length) (h : exs (cxOf f (callF n)) 300 (f.body.drop 0) (start f.params as) = some (.ret r, σ')) : callF (n + 1) name as = some r := by
  unfold callF
  rw [hp]
  simp only [hf, Option.bind_some, if_pos hl]
  rw [show f.body = f.body.drop 0 from rfl, h]
  rfl
/-- what a state tells may be laid on top of it -/
theorem upd_laid {σ : Sg} {x : Str} {v : V} (h : σ x = some v) : ∃ τ, σ = upd τ x v := ⟨σ, (upd_same h).symm⟩
theorem upd_upd (σ : Sg) (x : Str) (v w : V) : upd (upd σ x v) x w = upd σ x w := by
  funext y; unfold upd; split <;> rfl
theorem upd_get (σ : Sg) (x : Str) (v : V) : upd σ x v x = some v := by unfold upd; exact if_pos rfl

noncomputable def lay : List (Str × V) → Sg → Sg
  | [], σ => σ
  | p :: r, σ => upd (lay r σ) p.1 p.2
noncomputable def told : List (Str × V) → Sg → Prop
  | [], _ => True
  | p :: r, σ => σ p.1 = some p.2 ∧ told r σ
theorem lay_same : ∀ {l : List (Str × V)} {σ : Sg}, told l σ → lay l σ = σ
  | [], _, _ => rfl
  | p :: r, σ, h => by
    show upd (lay r σ) p.1 p.2 = σ
    rw [lay_same h.2, upd_same h.1]
theorem ev_lay {X : Cx} {n : Nat} {e : Expr} {σ : Sg} {l : List (Str × V)} {r : Option V} (H : told l σ) (h : ev X n e (lay l σ) = r) : ev X n e σ = r := by rw [lay_same H] at h; exact h
theorem tst_lay {X : Cx} {n : Nat} {e : Expr} {σ : Sg} {l : List (Str × V)} {r : Option Bool} (H : told l σ) (h : tst X n e (lay l σ) = r) : tst X n e σ = r := by rw [lay_same H] at h; exact h
theorem evs_lay {X : Cx} {n : Nat} {e : List Expr} {σ : Sg} {l : List (Str × V)} {r : Option (List V)} (H : told l σ) (h : evs X n e (lay l σ) = r) : evs X n e σ = r := by rw [lay_same H] at h; exact h

noncomputable def ofL (l : List Nat) : Str := ⟨l.toArray⟩
theorem ofL_len (l : List Nat) : (ofL l).length = l.length := by show l.toArray.size = _; simp
theorem ofL_cps (l : List Nat) : (ofL l).cps.toList = l := by simp [ofL]
theorem ofL_self (x : Str) : ofL x.cps.toList = x := by cases x; simp [ofL]
theorem ofL_app (a b : List Nat) : ofL a ++ ofL b = ofL (a ++ b) := Str.ext' (by simp [ofL, Str.cps_append])
theorem ofL_inj {a b : List Nat} (h : ofL a = ofL b) : a = b := by have := congrArg (fun s : Str => s.cps.toList) h; simpa [ofL] using this
theorem ofL_beq (a b : List Nat) : (ofL a == ofL b) = (a == b) := by
  rw [Bool.eq_iff_iff, beq_iff_eq, beq_iff_eq]
  exact ⟨ofL_inj, fun h => h ▸ rfl⟩
open Builtin Builtin.Str in
theorem slice_all (x : Str) : Txt.slice x none none = x := by
  have h : StrLaws.sliceText x none none = x := by
    unfold StrLaws.sliceText
    rw [StrLaws.sliceIdx_none_lo, StrLaws.sliceIdx_none_hi, show (0 : Int) = ((0 : Nat) : Int) from rfl, StrLaws.strSliceIndices_plain (Nat.zero_le _) (Nat.le_refl _)]
    rw [if_pos (by simp)]
  exact h
theorem slice_from (l : List Nat) (p : Nat) (h : p ≤ l.length) : Txt.slice (ofL l) (some (p : Int)) none = ofL (l.drop p) := by
  have h1 := StrLaws.sliceText_from (x := ofL l) (i := (p : Int)) ⟨by omega, by simp [ofL]; omega⟩
  refine Eq.trans (b := StrLaws.sliceText (ofL l) (some (p : Int)) none) rfl ?_
  rw [h1]
  unfold ofL
  congr 1
  have e : List.take (l.length - p) (List.drop p l) = List.drop p l := List.take_of_length_le (by simp)
  simpa using e
theorem slice_e {n q : Nat} (h : q ≤ n) : ((-(q : Int)) + (n : Nat) - 0).toNat = n - q := by
  rw [Int.sub_zero, Int.add_comm, ← Int.sub_eq_add_neg, ← Int.ofNat_sub h]; rfl
theorem char_e {n q : Nat} (h : q < n) : (-(q : Int) - 1 + (n : Int)) = ((n - 1 - q : Nat) : Int) := by
  rw [Nat.sub_sub, Nat.add_comm 1 q, Int.ofNat_sub h]
  show _ = (n : Int) - ((q : Int) + 1)
  rw [Int.sub_eq_add_neg (a := (n : Int)), Int.neg_add, Int.add_comm]; rfl
theorem slice_to (l : List Nat) (q : Nat) (h0 : 0 < q) (h : q ≤ l.length) : Txt.slice (ofL l) none (some (-(q : Int))) = ofL (l.take (l.length - q)) := by
  have h1 := StrLaws.sliceText_to_neg (x := ofL l) (j := -(q : Int)) (by omega) (by rw [ofL_len]; omega)
  refine Eq.trans (b := StrLaws.sliceText (ofL l) none (some (-(q : Int)))) rfl ?_
  rw [h1]
  have e : ((-(q : Int)) + ((ofL l).length : Nat) - 0).toNat = l.length - q := by
    rw [ofL_len]; exact slice_e h
  rw [e]
  simp [ofL]
theorem char_at (l : List Nat) (p : Nat) : Txt.charAt (ofL l) (p : Int) = l[p]? := by
  unfold Txt.charAt seqIndex?
  have hn : ¬ ((p : Int) < 0) := by omega
  simp only [hn, if_false, ofL_len]
  by_cases h : p < l.length
  · simp [h, ofL]
  · simp [h, ofL]
theorem char_neg (l : List Nat) (q : Nat) (h : q < l.length) : Txt.charAt (ofL l) (-(q : Int) - 1) = l[l.length - 1 - q]? := by
  unfold Txt.charAt seqIndex?
  have hn : (-(q : Int) - 1 < 0) := by omega
  simp only [hn, if_true, ofL_len]
  have e : (-(q : Int) - 1 + (l.length : Int)) = ((l.length - 1 - q : Nat) : Int) := char_e h
  rw [e]
  have hl : l.length - 1 - q < l.length := by omega
  simp [hl, ofL]
end Mine
end
section
set_option maxRecDepth 20000
namespace Mine
open PySem

/-! ### the distance, as a plain function -/
noncomputable def cpre : List Nat → List Nat → Nat
  | a :: r, b :: s => if a = b then cpre r s + 1 else 0
  | _, _ => 0
theorem cpre_le : ∀ a b : List Nat, cpre a b ≤ a.length ∧ cpre a b ≤ b.length
  | [], b => by simp [cpre]
  | a :: r, [] => by simp [cpre]
  | a :: r, b :: s => by
    have := cpre_le r s
    unfold cpre
    split <;> simp <;> omega
noncomputable def imin (a b : Int) : Int := if b < a then b else a
noncomputable def rowStep (cst : Nat → Nat → Int) (c : Nat) : List Nat → List Int → Int → Int → Int → List Int × Int × Int × Int
  | a :: as, r :: rs, d, res, mn =>
    let res' := imin (imin res r + 2) (d + cst c a)
    let q := rowStep cst c as rs r res' (if res' < mn then res' else mn)
    (res' :: q.1, q.2)
  | _, _, d, res, mn => ([], d, res, mn)
noncomputable def bigMin : Int := 9223372036854775807
noncomputable def rowsP (cst : Nat → Nat → Int) (m : Int) (a : List Nat) : List Nat → Nat → List Int → Int → Int
  | [], _, _, res => res
  | c :: bs, k, row, res =>
    let q := rowStep cst c a row ((k : Int) * 2) ((k : Int) * 2) bigMin
    if q.2.2.2 > m then m + 1 else rowsP cst m a bs (k + 1) q.1 q.2.2.1
noncomputable def row0 (k : Nat) : List Int := (List.range k).map fun (j : Nat) => 2 + (j : Int) * 2
noncomputable def tailP (cst : Nat → Nat → Int) (a b : List Nat) (m : Int) : Int :=
  if ((b.length : Int) - a.length) * 2 > m then m + 1 else rowsP cst m a b 0 (row0 a.length) 0
noncomputable def levP (cst : Nat → Nat → Int) (la lb : List Nat) (m : Int) : Int :=
  if la = lb then 0 else
  let a := la.drop (cpre la lb)
  let b := lb.drop (cpre la lb)
  let q := cpre a.reverse b.reverse
  let a' := a.take (a.length - q)
  let b' := b.take (b.length - q)
  if a' = [] ∨ b' = [] then 2 * ((a'.length : Int) + b'.length) else
  if b'.length < a'.length then tailP cst b' a' m else tailP cst a' b' m

noncomputable def cstS (a b : Nat) : Int := subst1 (ofL [a]) (ofL [b])
where subst1 (a b : Str) : Int := if a == b then 0 else if Txt.lower a == Txt.lower b then 1 else 2
noncomputable def okS (c : Nat) : Prop := (Txt.lower (ofL [c])).length ≤ big

noncomputable def levF : Fd := fdAt 5
theorem find_lev : findDef "_levenshtein_distance" = some levF := by kernel_rfl
noncomputable abbrev levS (i : Nat) : Stmt := nth levF.body i
noncomputable abbrev LX (C : Str → List V → Option V) : Cx := cxOf levF C
theorem lev_len : levF.body.length = 17 := by kernel_rfl

theorem cut_from (l : List Nat) (j : Nat) (hl : l.length ≤ big) (hj : j ≤ l.length) : cut (.str (ofL l)) (.int j) .nil = some (.str (ofL (l.drop j))) := by
  show (if (ofL l).length ≤ big then some (V.str (Txt.slice (ofL l) (some (j : Int)) none)) else none) = _
  rw [if_pos (by rw [ofL_len]; exact hl), slice_from l j hj]
theorem cut_all (l : List Nat) (hl : l.length ≤ big) : cut (.str (ofL l)) .nil .nil = some (.str (ofL l)) := by
  show (if (ofL l).length ≤ big then some (V.str (Txt.slice (ofL l) none none)) else none) = _
  rw [if_pos (by rw [ofL_len]; exact hl), slice_all]
theorem cut_to (l : List Nat) (q : Nat) (hl : l.length ≤ big) (h0 : 0 < q) (hq : q ≤ l.length) : cut (.str (ofL l)) .nil (.int (-(q : Int))) = some (.str (ofL (l.take (l.length - q)))) := by
  show (if (ofL l).length ≤ big then some (V.str (Txt.slice (ofL l) none (some (-(q : Int))))) else none) = _
  rw [if_pos (by rw [ofL_len]; exact hl), slice_to l q h0 hq]
theorem truth_str (l : List Nat) (hl : l.length ≤ big) : truth (.str (ofL l)) = some (decide (l ≠ [])) := by
  show (if (ofL l).length ≤ big then some ((ofL l).length != 0) else none) = _
  rw [if_pos (by rw [ofL_len]; exact hl), ofL_len]
  cases l <;> rfl
theorem smallI_nat (k : Nat) (h : k < 2 ^ 62) : smallI (k : Int) = true := by unfold smallI; simpa using h
theorem smallI_of {k : Int} (h : -(2 ^ 62) < k) (h' : k < 2 ^ 62) : smallI k = true := by unfold smallI; simp; omega
theorem item_str (l : List Nat) (j : Nat) (c : Nat) (hj : j < 2 ^ 62) (h : l[j]? = some c) : item (.str (ofL l)) (.int j) = some (.str (ofL [c])) := by
  show (if smallI (j : Int) then (Txt.charAt (ofL l) j).map fun c => V.str ⟨#[c]⟩ else none) = _
  rw [if_pos (smallI_nat j hj), char_at, h]; rfl
theorem item_neg (l : List Nat) (q : Nat) (c : Nat) (hq : q < l.length) (hl : l.length ≤ big) (h : l[l.length - 1 - q]? = some c) : item (.str (ofL l)) (.int (-(q : Int) - 1)) = some (.str (ofL [c])) := by
  have hs : smallI (-(q : Int) - 1) = true := by
    unfold big at hl
    exact smallI_of (by omega) (by omega)
  show (if smallI (-(q : Int) - 1) then (Txt.charAt (ofL l) (-(q : Int) - 1)).map fun c => V.str ⟨#[c]⟩ else none) = _
  rw [if_pos hs, char_neg l q hq, h]; rfl
theorem cmp_signs (a b : Nat) : cmp .Eq (.str (ofL [a])) (.str (ofL [b])) = some (.bool (decide (a = b))) := by
  show some (V.bool (ofL [a] == ofL [b])) = _
  rw [ofL_beq]
  congr 2
  rw [Bool.eq_iff_iff]; simp

/-- the first loop's test -/
theorem pre_test (C) (la lb : List Nat) (j : Nat) (hla : la.length ≤ big) (hlb : lb.length ≤ big) (h1 : j ≤ la.length) (h2 : j ≤ lb.length) {σ : Sg} {n : Nat} (H : told [("a", .str (ofL la)), ("b", .str (ofL lb)), ("pre", .int j)] σ) :
    tst (LX C) (n + 20) (sTest (levS 2)) σ = some (decide (cpre (la.drop j) (lb.drop j) ≠ 0)) := by
  refine tst_lay H ?_
  have h : tst (LX C) (n + 20) (sTest (levS 2)) (lay [("a", .str (ofL la)), ("b", .str (ofL lb)), ("pre", .int j)] σ) =
      ((cut (.str (ofL la)) (.int j) .nil).bind truth).bind fun t => if t then (((cut (.str (ofL lb)) (.int j) .nil).bind truth).bind fun t => if t then
        (((item (.str (ofL la)) (.int j)).bind fun u => (item (.str (ofL lb)) (.int j)).bind fun v => cmp .Eq u v).bind truth).bind (fun t => if t then some true else some false) else some false) else some false := by kernel_rfl
  rw [h, cut_from la j hla h1, cut_from lb j hlb h2]
  simp only [Option.bind_some]
  rw [truth_str _ (by simp; omega), truth_str _ (by simp; omega)]
  simp only [Option.bind_some]
  cases ea : la.drop j with
  | nil => simp [cpre]
  | cons x r =>
    cases eb : lb.drop j with
    | nil => simp [cpre]
    | cons y t =>
      have hx : la[j]? = some x := by
        have : (la.drop j)[0]? = some x := by rw [ea]; rfl
        simpa using this
      have hy : lb[j]? = some y := by
        have : (lb.drop j)[0]? = some y := by rw [eb]; rfl
        simpa using this
      unfold big at hla
      rw [item_str la j x (by omega) hx, item_str lb j y (by omega) hy]
      simp only [Option.bind_some, cmp_signs]
      unfold cpre
      by_cases hxy : x = y <;> simp [hxy, truth]
theorem drop_cpre (a b : List Nat) (j : Nat) (h : cpre (a.drop j) (b.drop j) ≠ 0) : cpre (a.drop (j + 1)) (b.drop (j + 1)) + 1 = cpre (a.drop j) (b.drop j) := by
  have ha : a.drop (j + 1) = (a.drop j).tail := by simp
  have hb : b.drop (j + 1) = (b.drop j).tail := by simp
  rw [ha, hb]
  generalize a.drop j = u at h ⊢
  generalize b.drop j = v at h ⊢
  cases u <;> cases v <;> simp [cpre] at h ⊢
  simp [h]
theorem room {d n j : Nat} (h : d + 1 ≤ n - j) : j + 1 ≤ n := Nat.lt_of_sub_pos (Nat.lt_of_lt_of_le (Nat.succ_pos d) h)
theorem neg_step (j : Nat) : -((j + 1 : Nat) : Int) = -(j : Int) - 1 := Int.neg_add (a := (j : Int)) (b := 1)
theorem step_r {j d : Nat} : j + 1 + d = j + (d + 1) := Nat.add_right_comm j 1 d
theorem pre_loop (C) (la lb : List Nat) (hla : la.length ≤ big) (hlb : lb.length ≤ big) {n : Nat} : ∀ (d j m : Nat) (σ : Sg), cpre (la.drop j) (lb.drop j) = d → j ≤ la.length → j ≤ lb.length → told [("a", .str (ofL la)), ("b", .str (ofL lb)), ("pre", .int j)] σ →
    whileL (fun σ => tst (LX C) (n + 20) (sTest (levS 2)) σ) (fun σ => exs (LX C) (n + 20) (sBody (levS 2)) σ) (d + 1 + m) σ = some (.next, upd σ "pre" (.int ((j + d : Nat) : Int)))
  | 0, j, m, σ, hd, h1, h2, H => by
    have ht := pre_test C la lb j hla hlb h1 h2 (n := n) H
    rw [hd] at ht
    rw [show 0 + 1 + m = m + 1 from Nat.add_comm _ _]
    unfold whileL
    rw [ht]
    simp only [Option.bind_some, ne_eq, not_true, decide_false, Bool.false_eq_true, if_false]
    exact congrArg (fun z => some (Fl.next, z)) (upd_same H.2.2.1).symm
  | d + 1, j, m, σ, hd, h1, h2, H => by
    have ht := pre_test C la lb j hla hlb h1 h2 (n := n) H
    rw [hd] at ht
    rw [show d + 1 + 1 + m = (d + 1 + m) + 1 from Nat.add_right_comm (d + 1) 1 m]
    unfold whileL
    rw [ht]
    have hb : exs (LX C) (n + 20) (sBody (levS 2)) σ = some (.next, upd σ "pre" (.int ((j + 1 : Nat) : Int))) := by
      have h := lay_same H
      have e : exs (LX C) (n + 20) (sBody (levS 2)) (lay [("a", .str (ofL la)), ("b", .str (ofL lb)), ("pre", .int j)] σ) = some (.next, upd (lay [("a", .str (ofL la)), ("b", .str (ofL lb)), ("pre", .int j)] σ) "pre" (.int ((j : Int) + 1))) := by kernel_rfl
      rw [h] at e
      exact e
    have hle := cpre_le (la.drop j) (lb.drop j)
    rw [hd] at hle
    simp only [List.length_drop] at hle
    have hc := drop_cpre la lb j (hd ▸ Nat.succ_ne_zero d)
    have ih := pre_loop C la lb hla hlb (n := n) d (j + 1) m (upd σ "pre" (.int ((j + 1 : Nat) : Int))) (Nat.succ.inj (hc.trans hd)) (room hle.1) (room hle.2) ⟨H.1, H.2.1, rfl, trivial⟩
    simp only [Option.bind_some, ne_eq, Nat.add_eq_zero_iff, Nat.succ_ne_zero, and_false, not_false_eq_true, decide_true, if_true, hb]
    rw [ih, upd_upd]
    rw [step_r]
noncomputable def hiV : Nat → V
  | 0 => .nil
  | q + 1 => .int (-((q + 1 : Nat) : Int))
theorem cut_hi (l : List Nat) (q : Nat) (hl : l.length ≤ big) (hq : q ≤ l.length) : cut (.str (ofL l)) .nil (hiV q) = some (.str (ofL (l.take (l.length - q)))) := by
  cases q with
  | zero => 
    show cut (.str (ofL l)) .nil .nil = _
    rw [cut_all l hl]; simp
  | succ q => exact cut_to l (q + 1) hl (by omega) hq
theorem post_test (C) (la lb : List Nat) (q : Nat) (hla : la.length ≤ big) (hlb : lb.length ≤ big) (h1 : q ≤ la.length) (h2 : q ≤ lb.length) {σ : Sg} {n : Nat} (H : told [("a", .str (ofL la)), ("b", .str (ofL lb)), ("post", .int (-(q : Int)))] σ) :
    tst (LX C) (n + 20) (sTest (levS 6)) σ = some (decide (cpre (la.reverse.drop q) (lb.reverse.drop q) ≠ 0)) := by
  refine tst_lay H ?_
  have h : tst (LX C) (n + 20) (sTest (levS 6)) (lay [("a", .str (ofL la)), ("b", .str (ofL lb)), ("post", .int (-(q : Int)))] σ) =
      ((cut (.str (ofL la)) .nil (hiV q)).bind truth).bind fun t => if t then (((cut (.str (ofL lb)) .nil (hiV q)).bind truth).bind fun t => if t then
        (((item (.str (ofL la)) (.int (-(q : Int) - 1))).bind fun u => (item (.str (ofL lb)) (.int (-(q : Int) - 1))).bind fun v => cmp .Eq u v).bind truth).bind (fun t => if t then some true else some false) else some false) else some false := by
    cases q with
    | zero => kernel_rfl
    | succ q => kernel_rfl
  rw [h, cut_hi la q hla h1, cut_hi lb q hlb h2]
  simp only [Option.bind_some]
  rw [truth_str _ (by simp; omega), truth_str _ (by simp; omega)]
  simp only [Option.bind_some]
  have key : ∀ (l : List Nat), q ≤ l.length → (l.reverse.drop q = [] ↔ l.take (l.length - q) = []) := fun l hq => by
    rw [← List.length_eq_zero_iff, ← List.length_eq_zero_iff]; simp
  have key2 : ∀ (l : List Nat) (x : Nat) (r : List Nat), l.reverse.drop q = x :: r → q < l.length ∧ l[l.length - 1 - q]? = some x := fun l x r e => by
    have h0 : (l.reverse.drop q)[0]? = some x := by rw [e]; rfl
    have hlt : q < l.length := by
      have := congrArg List.length e
      simp at this; omega
    refine ⟨hlt, ?_⟩
    rw [List.getElem?_drop, List.getElem?_reverse (by omega)] at h0
    simpa using h0
  cases ea : la.reverse.drop q with
  | nil => simp [cpre, (key la h1).1 ea]
  | cons x r =>
    have na : la.take (la.length - q) ≠ [] := fun e => by rw [(key la h1).2 e] at ea; cases ea
    cases eb : lb.reverse.drop q with
    | nil => simp [cpre, (key lb h2).1 eb, na]
    | cons y t =>
      have nb : lb.take (lb.length - q) ≠ [] := fun e => by rw [(key lb h2).2 e] at eb; cases eb
      obtain ⟨qa, hx⟩ := key2 la x r ea
      obtain ⟨qb, hy⟩ := key2 lb y t eb
      rw [decide_eq_true na, decide_eq_true nb, item_neg la q x qa hla hx, item_neg lb q y qb hlb hy]
      simp only [Option.bind_some, cmp_signs]
      unfold cpre
      by_cases hxy : x = y <;> simp [hxy, truth]
theorem post_loop (C) (la lb : List Nat) (hla : la.length ≤ big) (hlb : lb.length ≤ big) {n : Nat} : ∀ (d j m : Nat) (σ : Sg), cpre (la.reverse.drop j) (lb.reverse.drop j) = d → j ≤ la.length → j ≤ lb.length → told [("a", .str (ofL la)), ("b", .str (ofL lb)), ("post", .int (-(j : Int)))] σ →
    whileL (fun σ => tst (LX C) (n + 20) (sTest (levS 6)) σ) (fun σ => exs (LX C) (n + 20) (sBody (levS 6)) σ) (d + 1 + m) σ = some (.next, upd σ "post" (.int (-((j + d : Nat) : Int))))
  | 0, j, m, σ, hd, h1, h2, H => by
    have ht := post_test C la lb j hla hlb h1 h2 (n := n) H
    rw [hd] at ht
    rw [show 0 + 1 + m = m + 1 from Nat.add_comm _ _]
    unfold whileL
    rw [ht]
    simp only [Option.bind_some, ne_eq, not_true, decide_false, Bool.false_eq_true, if_false]
    exact congrArg (fun z => some (Fl.next, z)) (upd_same H.2.2.1).symm
  | d + 1, j, m, σ, hd, h1, h2, H => by
    have ht := post_test C la lb j hla hlb h1 h2 (n := n) H
    rw [hd] at ht
    rw [show d + 1 + 1 + m = (d + 1 + m) + 1 from Nat.add_right_comm (d + 1) 1 m]
    unfold whileL
    rw [ht]
    have hb : exs (LX C) (n + 20) (sBody (levS 6)) σ = some (.next, upd σ "post" (.int (-((j + 1 : Nat) : Int)))) := by
      have h := lay_same H
      have e : exs (LX C) (n + 20) (sBody (levS 6)) (lay [("a", .str (ofL la)), ("b", .str (ofL lb)), ("post", .int (-(j : Int)))] σ) = some (.next, upd (lay [("a", .str (ofL la)), ("b", .str (ofL lb)), ("post", .int (-(j : Int)))] σ) "post" (.int (-(j : Int) - 1))) := by kernel_rfl
      rw [h] at e
      rw [e, neg_step]
    have hle := cpre_le (la.reverse.drop j) (lb.reverse.drop j)
    rw [hd] at hle
    simp only [List.length_drop, List.length_reverse] at hle
    have hc := drop_cpre la.reverse lb.reverse j (hd ▸ Nat.succ_ne_zero d)
    have ih := post_loop C la lb hla hlb (n := n) d (j + 1) m (upd σ "post" (.int (-((j + 1 : Nat) : Int)))) (Nat.succ.inj (hc.trans hd)) (room hle.1) (room hle.2) ⟨H.1, H.2.1, rfl, trivial⟩
    simp only [Option.bind_some, ne_eq, Nat.succ_ne_zero, not_false_eq_true, decide_true, if_true, hb]
    rw [ih, upd_upd]
    rw [step_r]
end Mine
end
section
set_option maxRecDepth 20000
namespace Mine
open PySem

noncomputable abbrev inB : List Stmt := sBody (levS 15)
noncomputable abbrev inI : List Stmt := sBody (nth inB 3)
theorem inB_len : inB.length = 5 := by kernel_rfl
theorem inI_len : inI.length = 6 := by kernel_rfl
noncomputable def levFacts (la lb : List Nat) (m : Int) (c : Nat) (row : List Int) (d r mn : Int) : List (Str × V) :=
  [("a", .str (ofL la)), ("b", .str (ofL lb)), ("max_cost", .int m), ("bchar", .str (ofL [c])), ("row", .own (row.map .int)), ("distance", .int d), ("result", .int r), ("minimum", .int mn)]
theorem item_own (row : List Int) (i : Nat) (v : Int) (hi : i < 2 ^ 62) (h : row[i]? = some v) : item (.own (row.map .int)) (.int i) = some (.int v) := by
  show (if decide ((0 : Int) ≤ i) && smallI i then (row.map V.int)[(i : Int).toNat]? else none) = _
  rw [if_pos (by rw [smallI_nat i hi]; simp)]
  simp [h]
/-- one turn of the inner loop -/
theorem in_step (C) (la lb : List Nat) (m : Int) (c x : Nat) (done rs : List Int) (d r0 r mn : Int) (i n : Nat) (σ : Sg) (hi : i < 4096) (hx : la[i]? = some x) (hd : done.length = i) (hl : (done ++ r0 :: rs).length ≤ big)
    (hC : C "_substitution_cost" [.str (ofL [c]), .str (ofL [x])] = some (.int (cstS c x))) (H : told (levFacts la lb m c (done ++ r0 :: rs) d r mn) σ) :
    let r' := imin (imin r r0 + 2) (d + cstS c x)
    ∃ σ', exs (LX C) (n + 30) (inI.drop 0) (upd σ "index" (.int i)) = some (.next, σ') ∧ told (levFacts la lb m c (done ++ r' :: rs) r0 r' (if r' < mn then r' else mn)) σ' := by
  intro r'
  rw [← lay_same H]
  generalize hT : lay (levFacts la lb m c (done ++ r0 :: rs) d r mn) σ = T
  have h0 : ex (LX C) (n + 29) (nth inI 0) (upd T "index" (.int i)) = some (.next, upd (upd T "index" (.int i)) "substitute" (.int (d + cstS c x))) := by
    refine r_asn "substitute" (by kernel_rfl) (by kernel_rfl) (.inl (by kernel_rfl)) ?_ rfl
    subst hT
    have h : ev (LX C) (n + 28) (sVal (nth inI 0)) (upd (lay (levFacts la lb m c (done ++ r0 :: rs) d r mn) σ) "index" (.int i)) =
      ((((item (.str (ofL la)) (.int i)).bind fun v => some [v]).map (V.str (ofL [c]) :: ·)).bind fun as => guardOwn as (C "_substitution_cost" as)).bind fun b => bin .Add (.int d) b := by kernel_rfl
    rw [h, item_str la i x (by omega) hx]
    simp only [Option.bind_some, Option.map_some]
    rw [hC]
    rfl
  have h1 : ∀ v, ex (LX C) (n + 28) (nth inI 1) (upd (upd T "index" (.int i)) "substitute" v) = some (.next, upd (upd (upd T "index" (.int i)) "substitute" v) "distance" (.int r0)) := fun v => by
    refine r_asn "distance" (by kernel_rfl) (by kernel_rfl) (.inl (by kernel_rfl)) ?_ rfl
    subst hT
    have h : ev (LX C) (n + 27) (sVal (nth inI 1)) (upd (upd (lay (levFacts la lb m c (done ++ r0 :: rs) d r mn) σ) "index" (.int i)) "substitute" v) = item (.own ((done ++ r0 :: rs).map .int)) (.int i) := by kernel_rfl
    rw [h]
    exact item_own _ i r0 (by omega) (by rw [List.getElem?_append_right (by omega), hd]; simp)
  generalize hs : d + cstS c x = s at h0
  have hr' : r' = imin (imin r r0 + 2) s := by rw [← hs]
  have h2 : ex (LX C) (n + 27) (nth inI 2) (upd (upd (upd T "index" (.int i)) "substitute" (.int s)) "distance" (.int r0)) = some (.next, upd (upd (upd (upd T "index" (.int i)) "substitute" (.int s)) "distance" (.int r0)) "insert_delete" (.int (imin r r0 + 2))) := by
    subst hT; kernel_rfl
  have h3 : ex (LX C) (n + 26) (nth inI 3) (upd (upd (upd (upd T "index" (.int i)) "substitute" (.int s)) "distance" (.int r0)) "insert_delete" (.int (imin r r0 + 2))) = some (.next, upd (upd (upd (upd (upd T "index" (.int i)) "substitute" (.int s)) "distance" (.int r0)) "insert_delete" (.int (imin r r0 + 2))) "result" (.int (imin (imin r r0 + 2) s))) := by
    subst hT; kernel_rfl
  rw [← hr'] at h3
  have h4 : ex (LX C) (n + 25) (nth inI 4) (upd (upd (upd (upd (upd T "index" (.int i)) "substitute" (.int s)) "distance" (.int r0)) "insert_delete" (.int (imin r r0 + 2))) "result" (.int r')) =
      some (.next, upd (upd (upd (upd (upd (upd T "index" (.int i)) "substitute" (.int s)) "distance" (.int r0)) "insert_delete" (.int (imin r r0 + 2))) "result" (.int r')) "row" (.own ((done ++ r' :: rs).map .int))) := by
    have h : ex (LX C) (n + 25) (nth inI 4) (upd (upd (upd (upd (upd T "index" (.int i)) "substitute" (.int s)) "distance" (.int r0)) "insert_delete" (.int (imin r r0 + 2))) "result" (.int r')) =
      if 0 ≤ (i : Int) ∧ (i : Int) < ((done ++ r0 :: rs).map V.int).length ∧ ((done ++ r0 :: rs).map V.int).length ≤ big ∧ (V.int r').isOwn = false then some (.next, upd (upd (upd (upd (upd (upd T "index" (.int i)) "substitute" (.int s)) "distance" (.int r0)) "insert_delete" (.int (imin r r0 + 2))) "result" (.int r')) "row" (.own (((done ++ r0 :: rs).map V.int).set (i : Int).toNat (.int r')))) else none := by
      clear h0 h1 h2 h3
      subst hT; kernel_rfl
    rw [h, if_pos ⟨Int.natCast_nonneg i, by simp; omega, by rw [List.length_map]; exact hl, rfl⟩]
    have e : ((done ++ r0 :: rs).map V.int).set (i : Int).toNat (.int r') = (done ++ r' :: rs).map .int := by
      rw [Int.toNat_natCast, ← List.map_set, ← hd]; simp
    rw [e]
  generalize hU : upd (upd (upd (upd (upd (upd T "index" (.int i)) "substitute" (.int s)) "distance" (.int r0)) "insert_delete" (.int (imin r r0 + 2))) "result" (.int r')) "row" (.own ((done ++ r' :: rs).map .int)) = U at h4
  have h5 : ex (LX C) (n + 24) (nth inI 5) U = if decide (r' < mn) then some (.next, upd U "minimum" (.int r')) else some (.next, U) := by
    rw [r_if (c := decide (r' < mn)) (by kernel_rfl) (by clear h0 h1 h2 h3 h4; subst hU hT; kernel_rfl)]
    have a1 : exs (LX C) (n + 23) (sBody (nth inI 5)) U = some (.next, upd U "minimum" (.int r')) := by clear h0 h1 h2 h3 h4; subst hU hT; kernel_rfl
    have a2 : exs (LX C) (n + 23) (sElse (nth inI 5)) U = some (.next, U) := by kernel_rfl
    rw [a1, a2]
  have run : ∀ U', ex (LX C) (n + 24) (nth inI 5) U = some (.next, U') → exs (LX C) (n + 30) (inI.drop 0) (upd T "index" (.int i)) = some (.next, U') := fun U' h =>
    r_step (by rw [inI_len]; decide) h0 (r_step (by rw [inI_len]; decide) (h1 _) (r_step (by rw [inI_len]; decide) h2 (r_step (by rw [inI_len]; decide) h3 (r_step (by rw [inI_len]; decide) h4 (r_step (by rw [inI_len]; decide) h (r_end (by rw [inI_len]; decide)))))))
  by_cases hm : r' < mn
  · rw [decide_eq_true hm, if_pos rfl] at h5
    refine ⟨_, run _ h5, ?_⟩
    rw [if_pos hm]
    clear h0 h1 h2 h3 h4 h5 run
    subst hU hT
    exact ⟨rfl, rfl, rfl, rfl, rfl, rfl, rfl, rfl, trivial⟩
  · rw [decide_eq_false hm, if_neg (by simp)] at h5
    refine ⟨_, run _ h5, ?_⟩
    rw [if_neg hm]
    clear h0 h1 h2 h3 h4 h5 run
    subst hU hT
    exact ⟨rfl, rfl, rfl, rfl, rfl, rfl, rfl, rfl, trivial⟩
/-- the inner loop -/
theorem in_loop (C) (la lb : List Nat) (m : Int) (c : Nat) (n : Nat) (hla : la.length ≤ big) (hC : ∀ x ∈ la, C "_substitution_cost" [.str (ofL [c]), .str (ofL [x])] = some (.int (cstS c x))) : ∀ (as : List Nat) (rs done : List Int) (d r mn : Int) (i : Nat) (σ : Sg),
    la.drop i = as → as.length = rs.length → done.length = i → told (levFacts la lb m c (done ++ rs) d r mn) σ →
    ∃ σ', forL (fun v σ => (put (LX C) "index" v σ).bind fun σ' => exs (LX C) (n + 30) inI σ') ((List.range' i as.length).map fun (k : Nat) => V.int k) σ = some (.next, σ') ∧
      told (levFacts la lb m c (done ++ (rowStep cstS c as rs d r mn).1) (rowStep cstS c as rs d r mn).2.1 (rowStep cstS c as rs d r mn).2.2.1 (rowStep cstS c as rs d r mn).2.2.2) σ'
  | [], rs, done, d, r, mn, i, σ, ha, hr, hd, H => by
    have : rs = [] := List.length_eq_zero_iff.1 hr.symm
    subst this
    exact ⟨σ, rfl, H⟩
  | x :: as, r0 :: rs, done, d, r, mn, i, σ, ha, hr, hd, H => by
    have hx : la[i]? = some x := by
      have : (la.drop i)[0]? = some x := by rw [ha]; rfl
      simpa using this
    have hm : x ∈ la := List.mem_of_getElem? hx
    have hll := congrArg List.length ha
    simp only [List.length_drop, List.length_cons] at hll hr
    have hi : i < 4096 := by unfold big at hla; omega
    obtain ⟨σ1, h1, H1⟩ := in_step C la lb m c x done rs d r0 r mn i n σ hi hx hd (by simp; omega) (hC x hm) H
    have hd' : la.drop (i + 1) = as := by
      have : la.drop (i + 1) = (la.drop i).tail := by simp
      rw [this, ha]; rfl
    obtain ⟨σ2, h2, H2⟩ := in_loop C la lb m c n hla hC as rs (done ++ [imin (imin r r0 + 2) (d + cstS c x)]) r0 _ _ (i + 1) σ1 hd' (by omega) (by simp [hd]) (by simpa using H1)
    refine ⟨σ2, ?_, by simpa [rowStep] using H2⟩
    rw [List.length_cons, List.range'_succ, List.map_cons]
    unfold forL
    have hp : put (LX C) "index" (.int i) σ = some (upd σ "index" (.int i)) := put_ok (by kernel_rfl) (.inl (by kernel_rfl)) rfl
    rw [hp]
    simp only [Option.bind_some]
    rw [show exs (LX C) (n + 30) inI (upd σ "index" (.int i)) = _ from h1]
    exact h2
end Mine
end
section
set_option maxRecDepth 20000
namespace Mine
open PySem

noncomputable def SV.asn2 (a b : Str) {s : Stmt} : SV s → Bool
  | .two x _ y _ _ _ => x == a && y == b
  | _ => false
noncomputable def asn2 (s : Stmt) (a b : Str) : Bool := (viewS s).asn2 a b
theorem r_asn2 {X : Cx} {n : Nat} {s : Stmt} {σ : Sg} {v : V} (x y : Str) (hs : asn2 s x y = true) (hO : X.O x = false) (hk : X.K x = some .local ∨ X.K x = some .cell) (hO' : X.O y = false) (hk' : X.K y = some .local ∨ X.K y = some .cell) (h : ev X n (sVal s) σ = some v) (hn : v.isOwn = false) : ex X (n + 1) s σ = some (.next, upd (upd σ x v) y v) := by
  unfold asn2 at hs
  generalize viewS s = w at hs
  induction w <;> try (exact Bool.noConfusion hs)
  rename_i a p b q e t
  obtain ⟨e1, e2⟩ := both_true hs
  have e1 := eq_of_beq e1
  have e2 := eq_of_beq e2
  subst e1 e2
  have he : ex X (n + 1) (.Assign [.Name a p, .Name b q] e t) σ = (ev X n e σ).bind fun v => (put X a v σ).bind fun σ' => (put X b v σ').map (Fl.next, ·) := rfl
  have h' : ev X n e σ = some v := h
  rw [he, h', Option.bind_some, put_ok hO hk hn, Option.bind_some, put_ok hO' hk' hn]
  rfl
theorem r_own {X : Cx} {n : Nat} {s : Stmt} {σ : Sg} {xs : List V} (x : Str) (hs : asn s x = true) (hO : X.O x = true) (hm : makes X (sVal s) = true) (hk : X.K x = some .local ∨ X.K x = some .cell) (h : ev X n (sVal s) σ = some (.lst xs)) : ex X (n + 1) s σ = some (.next, upd σ x (.own xs)) := by
  unfold asn at hs
  generalize viewS s = w at hs
  induction w <;> try (exact Bool.noConfusion hs)
  rename_i a p e t
  have e1 := eq_of_beq hs
  subst e1
  have he : ex X (n + 1) (.Assign [.Name a p] e t) σ = if X.O a then (if makes X e then (ev X n e σ).bind fun v => (putOwn X a v σ).map (Fl.next, ·) else none) else (ev X n e σ).bind fun v => (put X a v σ).map (Fl.next, ·) := rfl
  have h' : ev X n e σ = some (.lst xs) := h
  have hm' : makes X e = true := hm
  rw [he, if_pos hO, if_pos hm', h', Option.bind_some]
  unfold putOwn
  simp only
  rw [if_pos ⟨hk, hO⟩]
  rfl
theorem blt_len (l : List Nat) (h : l.length ≤ big) : blt "len" [.str (ofL l)] = some (.int l.length) := by
  have e : blt "len" [.str (ofL l)] = if (ofL l).length ≤ big then some (V.int (ofL l).length) else none := rfl
  rw [e, ofL_len, if_pos h]
theorem rngLen_one (k : Nat) : rngLen 0 k 1 = k := by
  cases k with
  | zero => decide
  | succ k =>
    unfold rngLen Builtin.Range.rangeSize
    rw [if_pos (by decide), if_pos (Int.natCast_pos.2 (Nat.succ_pos k)), Int.sub_zero, Int.ediv_one, Int.sub_add_cancel]; rfl
theorem mkT_range (k : Nat) (h : k ≤ big) : mkT "range" [.int k] = some (.rng 0 k 1) := by
  have e : mkT "range" [.int k] = if smallR 0 k 1 then some (V.rng 0 k 1) else none := rfl
  rw [e, if_pos]
  unfold big at h
  simp [smallR]; omega
theorem items_range (k : Nat) : V.items (.rng 0 k 1) = some ((List.range' 0 k).map fun (j : Nat) => V.int j) := by
  show some (rngList 0 k 1) = _
  unfold rngList
  rw [rngLen_one, List.range_eq_range']
  congr 1
  refine List.map_congr_left fun a _ => ?_
  congr 1
  omega

noncomputable def outFacts (la lb : List Nat) (m : Int) (row : List Int) (r : Int) : List (Str × V) :=
  [("a", .str (ofL la)), ("b", .str (ofL lb)), ("max_cost", .int m), ("row", .own (row.map .int)), ("result", .int r)]
theorem rowStep_len (cst) (c : Nat) : ∀ (as : List Nat) (rs : List Int) (d r mn : Int), as.length = rs.length → (rowStep cst c as rs d r mn).1.length = rs.length
  | [], [], _, _, _, _ => rfl
  | a :: as, b :: rs, d, r, mn, h => by
    simp only [rowStep, List.length_cons]
    rw [rowStep_len cst c as rs _ _ _ (by simpa using h)]
/-- one turn of the outer loop -/
theorem out_step (C) (la lb : List Nat) (m : Int) (c : Nat) (row : List Int) (r0 : Int) (k n : Nat) (σ : Sg) (hla : la.length ≤ big) (hk : k < 4096) (hc : lb[k]? = some c) (hrow : la.length = row.length)
    (hC : ∀ x ∈ la, C "_substitution_cost" [.str (ofL [c]), .str (ofL [x])] = some (.int (cstS c x))) (H : told (outFacts la lb m row r0) σ) :
    let q := rowStep cstS c la row ((k : Int) * 2) ((k : Int) * 2) bigMin
    if q.2.2.2 > m then ∃ σ', exs (LX C) (n + 40) (inB.drop 0) (upd σ "bindex" (.int k)) = some (.ret (.int (m + 1)), σ')
    else ∃ σ', exs (LX C) (n + 40) (inB.drop 0) (upd σ "bindex" (.int k)) = some (.next, σ') ∧ told (outFacts la lb m q.1 q.2.2.1) σ' := by
  intro q
  rw [← lay_same H]
  generalize hT : lay (outFacts la lb m row r0) σ = T
  have h0 : ex (LX C) (n + 39) (nth inB 0) (upd T "bindex" (.int k)) = some (.next, upd (upd T "bindex" (.int k)) "bchar" (.str (ofL [c]))) := by
    refine r_asn "bchar" (by kernel_rfl) (by kernel_rfl) (.inl (by kernel_rfl)) ?_ rfl
    subst hT
    have h : ev (LX C) (n + 38) (sVal (nth inB 0)) (upd (lay (outFacts la lb m row r0) σ) "bindex" (.int k)) = item (.str (ofL lb)) (.int k) := by kernel_rfl
    rw [h, item_str lb k c (by omega) hc]
  have h1 : ex (LX C) (n + 38) (nth inB 1) (upd (upd T "bindex" (.int k)) "bchar" (.str (ofL [c]))) = some (.next, upd (upd (upd (upd T "bindex" (.int k)) "bchar" (.str (ofL [c]))) "distance" (.int ((k : Int) * 2))) "result" (.int ((k : Int) * 2))) := by
    refine r_asn2 "distance" "result" (by kernel_rfl) (by kernel_rfl) (.inl (by kernel_rfl)) (by kernel_rfl) (.inl (by kernel_rfl)) ?_ rfl
    subst hT
    have h : ev (LX C) (n + 37) (sVal (nth inB 1)) (upd (upd (lay (outFacts la lb m row r0) σ) "bindex" (.int k)) "bchar" (.str (ofL [c]))) = if smallI k && smallI 2 then some (V.int ((k : Int) * 2)) else none := by kernel_rfl
    rw [h, smallI_nat k (by omega)]
    rfl
  generalize hU : upd (upd (upd (upd T "bindex" (.int k)) "bchar" (.str (ofL [c]))) "distance" (.int ((k : Int) * 2))) "result" (.int ((k : Int) * 2)) = U at h1
  have h2 : ex (LX C) (n + 37) (nth inB 2) U = some (.next, upd U "minimum" (.int bigMin)) := by kernel_rfl
  have HU : told (levFacts la lb m c ([] ++ row) ((k : Int) * 2) ((k : Int) * 2) bigMin) (upd U "minimum" (.int bigMin)) := by
    clear h0 h1 h2
    subst hU hT
    exact ⟨rfl, rfl, rfl, rfl, rfl, rfl, rfl, rfl, trivial⟩
  obtain ⟨σ1, l1, H1⟩ := in_loop C la lb m c (n + 5) hla hC la row [] _ _ _ 0 _ (by simp) hrow rfl HU
  have h3 : ex (LX C) (n + 36) (nth inB 3) (upd U "minimum" (.int bigMin)) = some (.next, σ1) := by
    have hit : ev (LX C) (n + 35) (sIter (nth inB 3)) (upd U "minimum" (.int bigMin)) = some (.rng 0 la.length 1) := by
      refine ev_lay HU ?_
      have h : ev (LX C) (n + 35) (sIter (nth inB 3)) (lay (levFacts la lb m c ([] ++ row) ((k : Int) * 2) ((k : Int) * 2) bigMin) (upd U "minimum" (.int bigMin))) = ((blt "len" [.str (ofL la)]).bind fun v => some [v]).bind fun as => mkT "range" as := by kernel_rfl
      rw [h, blt_len la hla]
      exact mkT_range _ hla
    rw [r_for "index" (by kernel_rfl) (by kernel_rfl) (.inl (by kernel_rfl)) hit (items_range _) (by simpa using hla) rfl]
    exact l1
  have ht : tst (LX C) (n + 34) (sTest (nth inB 4)) σ1 = some (decide (m < q.2.2.2)) := by
    refine tst_lay H1 ?_
    kernel_rfl
  have h4 := r_if (X := LX C) (s := nth inB 4) (by kernel_rfl) ht
  by_cases hm : m < q.2.2.2
  · rw [if_pos hm]
    rw [decide_eq_true hm, if_pos rfl] at h4
    refine ⟨σ1, ?_⟩
    have e : exs (LX C) (n + 34) (sBody (nth inB 4)) σ1 = some (.ret (.int (m + 1)), σ1) := by
      rw [← lay_same H1]
      kernel_rfl
    rw [e] at h4
    exact r_step (by rw [inB_len]; decide) h0 (r_step (by rw [inB_len]; decide) h1 (r_step (by rw [inB_len]; decide) h2 (r_step (by rw [inB_len]; decide) h3 (r_last (by rw [inB_len]; decide) h4))))
  · rw [if_neg hm]
    rw [decide_eq_false hm, if_neg (by simp)] at h4
    refine ⟨σ1, ?_, ⟨H1.1, H1.2.1, H1.2.2.1, H1.2.2.2.2.1, H1.2.2.2.2.2.2.1, trivial⟩⟩
    have e : exs (LX C) (n + 34) (sElse (nth inB 4)) σ1 = some (.next, σ1) := by kernel_rfl
    rw [e] at h4
    exact r_step (by rw [inB_len]; decide) h0 (r_step (by rw [inB_len]; decide) h1 (r_step (by rw [inB_len]; decide) h2 (r_step (by rw [inB_len]; decide) h3 (r_step (by rw [inB_len]; decide) h4 (r_end (by rw [inB_len]; decide))))))
theorem out_loop (C) (la lb : List Nat) (m : Int) (n : Nat) (hla : la.length ≤ big) (hlb : lb.length ≤ big) (hC : ∀ c ∈ lb, ∀ x ∈ la, C "_substitution_cost" [.str (ofL [c]), .str (ofL [x])] = some (.int (cstS c x))) : ∀ (bs : List Nat) (k : Nat) (row : List Int) (r : Int) (σ : Sg),
    lb.drop k = bs → la.length = row.length → told (outFacts la lb m row r) σ →
    ∃ σ', (forL (fun v σ => (put (LX C) "bindex" v σ).bind fun σ' => exs (LX C) (n + 40) inB σ') ((List.range' k bs.length).map fun (k : Nat) => V.int k) σ = some (.next, σ') ∧ σ' "result" = some (.int (rowsP cstS m la bs k row r))) ∨
      forL (fun v σ => (put (LX C) "bindex" v σ).bind fun σ' => exs (LX C) (n + 40) inB σ') ((List.range' k bs.length).map fun (k : Nat) => V.int k) σ = some (.ret (.int (rowsP cstS m la bs k row r)), σ')
  | [], k, row, r, σ, hb, hr, H => ⟨σ, .inl ⟨rfl, H.2.2.2.2.1⟩⟩
  | c :: bs, k, row, r, σ, hb, hr, H => by
    have hx : lb[k]? = some c := by
      have : (lb.drop k)[0]? = some c := by rw [hb]; rfl
      simpa using this
    have hm : c ∈ lb := List.mem_of_getElem? hx
    have hll := congrArg List.length hb
    simp only [List.length_drop, List.length_cons] at hll
    have hk : k < 4096 := by unfold big at hlb; omega
    have S := out_step C la lb m c row r k n σ hla hk hx hr (hC c hm) H
    have hd' : lb.drop (k + 1) = bs := by
      have : lb.drop (k + 1) = (lb.drop k).tail := by simp
      rw [this, hb]; rfl
    have hp : put (LX C) "bindex" (.int k) σ = some (upd σ "bindex" (.int k)) := put_ok (by kernel_rfl) (.inl (by kernel_rfl)) rfl
    rw [List.length_cons, List.range'_succ, List.map_cons]
    unfold forL rowsP
    rw [hp]
    simp only [Option.bind_some]
    simp only at S
    split at S
    · rename_i hq
      obtain ⟨σ1, h1⟩ := S
      refine ⟨σ1, .inr ?_⟩
      rw [show exs (LX C) (n + 40) inB (upd σ "bindex" (.int k)) = _ from h1, if_pos hq]
      rfl
    · rename_i hq
      obtain ⟨σ1, h1, H1⟩ := S
      rw [show exs (LX C) (n + 40) inB (upd σ "bindex" (.int k)) = _ from h1, if_neg hq]
      exact out_loop C la lb m n hla hlb hC bs (k + 1) _ _ σ1 hd' (by rw [rowStep_len _ _ _ _ _ _ _ hr]; exact hr) H1
end Mine
end
section
set_option maxRecDepth 20000
namespace Mine
open PySem

theorem rngLen_two (k : Nat) : rngLen 2 (2 * ((k : Int) + 1)) 2 = k := by
  cases k with
  | zero => decide
  | succ k =>
    unfold rngLen Builtin.Range.rangeSize
    have e : (2 : Int) * (((k + 1 : Nat) : Int) + 1) - 2 - 1 = 1 + 2 * (k : Int) := by omega
    rw [if_pos (by decide), if_pos (by omega), e, Int.add_mul_ediv_left _ _ (by decide)]
    show ((0 + (k : Int)) + 1).toNat = k + 1
    rw [Int.zero_add]; rfl
theorem mkT_range2 (k : Nat) (h : k ≤ big) : mkT "range" [.int 2, .int (2 * ((k : Int) + 1)), .int 2] = some (.rng 2 (2 * ((k : Int) + 1)) 2) := by
  have e : mkT "range" [.int 2, .int (2 * ((k : Int) + 1)), .int 2] = if smallR 2 (2 * ((k : Int) + 1)) 2 then some (.rng 2 (2 * ((k : Int) + 1)) 2) else none := rfl
  rw [e, if_pos]
  unfold big at h
  simp [smallR]; omega
theorem mkT_list2 (k : Nat) (h : k ≤ big) : mkT "list" [.rng 2 (2 * ((k : Int) + 1)) 2] = some (.lst ((row0 k).map .int)) := by
  have e : mkT "list" [.rng 2 (2 * ((k : Int) + 1)) 2] = if rngLen 2 (2 * ((k : Int) + 1)) 2 ≤ big then some (.lst (rngList 2 (2 * ((k : Int) + 1)) 2)) else none := rfl
  rw [e, rngLen_two, if_pos h]
  unfold rngList row0
  rw [rngLen_two, List.map_map]
  rfl
theorem bin_mul (a b : Int) (ha : smallI a = true) (hb : smallI b = true) : bin .Mult (.int a) (.int b) = some (.int (a * b)) := by
  show (if smallI a && smallI b then some (V.int (a * b)) else none) = _
  rw [ha, hb]; rfl
noncomputable def tailFacts (la lb : List Nat) (m : Int) : List (Str × V) := [("a", .str (ofL la)), ("b", .str (ofL lb)), ("max_cost", .int m)]
/-- from the test of the lengths on -/
theorem lev_tail (C) (la lb : List Nat) (m : Int) (n : Nat) (σ : Sg) (hla : la.length ≤ big) (hlb : lb.length ≤ big) (hC : ∀ c ∈ lb, ∀ x ∈ la, C "_substitution_cost" [.str (ofL [c]), .str (ofL [x])] = some (.int (cstS c x)))
    (H : told (tailFacts la lb m) σ) : ∃ σ', exs (LX C) (n + 60) (levF.body.drop 12) σ = some (.ret (.int (tailP cstS la lb m)), σ') := by
  have hla' := hla
  have hlb' := hlb
  unfold big at hla' hlb'
  have ht : tst (LX C) (n + 58) (sTest (levS 12)) σ = some (decide (m < ((lb.length : Int) - la.length) * 2)) := by
    refine tst_lay H ?_
    have h : tst (LX C) (n + 58) (sTest (levS 12)) (lay (tailFacts la lb m) σ) = ((((blt "len" [.str (ofL lb)]).bind fun x => (blt "len" [.str (ofL la)]).bind fun y => bin .Sub x y).bind fun z => bin .Mult z (.int 2)).bind fun u => cmp .Gt u (.int m)).bind truth := by kernel_rfl
    rw [h, blt_len _ hla, blt_len _ hlb]
    simp only [Option.bind_some]
    show (((bin .Mult (.int ((lb.length : Int) - la.length)) (.int 2)).bind fun u => cmp .Gt u (.int m)).bind truth) = _
    rw [bin_mul _ _ (smallI_of (by omega) (by omega)) (by decide)]
    rfl
  have h12 := r_if (X := LX C) (s := levS 12) (by kernel_rfl) ht
  unfold tailP
  by_cases hm : m < ((lb.length : Int) - la.length) * 2
  · rw [if_pos hm]
    rw [decide_eq_true hm, if_pos rfl] at h12
    refine ⟨σ, r_last (by rw [lev_len]; decide) (h12.trans ?_)⟩
    rw [← lay_same H]
    kernel_rfl
  rw [if_neg hm]
  rw [decide_eq_false hm, if_neg (by simp)] at h12
  have e12 : exs (LX C) (n + 58) (sElse (levS 12)) σ = some (.next, σ) := by kernel_rfl
  rw [e12] at h12
  have h13 : ex (LX C) (n + 58) (levS 13) σ = some (.next, upd σ "row" (.own ((row0 la.length).map .int))) := by
    refine r_own "row" (by kernel_rfl) (by kernel_rfl) (by kernel_rfl) (.inl (by kernel_rfl)) ?_
    refine ev_lay H ?_
    have h : ev (LX C) (n + 57) (sVal (levS 13)) (lay (tailFacts la lb m) σ) = (((((((blt "len" [.str (ofL la)]).bind fun a => bin .Add a (.int 1)).bind fun b => bin .Mult (.int 2) b).bind fun a => some [a, .int 2]).map (V.int 2 :: ·)).bind fun as => mkT "range" as).bind fun v => some [v]).bind fun as => mkT "list" as := by kernel_rfl
    rw [h, blt_len _ hla]
    simp only [Option.bind_some]
    show ((((((bin .Mult (.int 2) (.int ((la.length : Int) + 1))).bind fun a => some [a, .int 2]).map (V.int 2 :: ·)).bind fun as => mkT "range" as).bind fun v => some [v]).bind fun as => mkT "list" as) = _
    rw [bin_mul _ _ (by decide) (smallI_of (by omega) (by omega))]
    simp only [Option.bind_some, Option.map_some]
    rw [mkT_range2 _ hla]
    simp only [Option.bind_some]
    exact mkT_list2 _ hla
  have h14 : ex (LX C) (n + 57) (levS 14) (upd σ "row" (.own ((row0 la.length).map .int))) = some (.next, upd (upd σ "row" (.own ((row0 la.length).map .int))) "result" (.int 0)) := by kernel_rfl
  have H14 : told (outFacts la lb m (row0 la.length) 0) (upd (upd σ "row" (.own ((row0 la.length).map .int))) "result" (.int 0)) := by
    refine ⟨H.1, H.2.1, H.2.2.1, rfl, rfl, trivial⟩
  generalize upd (upd σ "row" (.own ((row0 la.length).map .int))) "result" (.int 0) = U at h14 H14
  have hit : ev (LX C) (n + 55) (sIter (levS 15)) U = some (.rng 0 lb.length 1) := by
    refine ev_lay H14 ?_
    have h : ev (LX C) (n + 55) (sIter (levS 15)) (lay (outFacts la lb m (row0 la.length) 0) U) = ((blt "len" [.str (ofL lb)]).bind fun v => some [v]).bind fun as => mkT "range" as := by kernel_rfl
    rw [h, blt_len lb hlb]
    exact mkT_range _ hlb
  have h15 := r_for (X := LX C) (n := n + 55) (s := levS 15) (σ := U) "bindex" (by kernel_rfl) (by kernel_rfl) (.inl (by kernel_rfl)) hit (items_range _) (by simpa using hlb) rfl
  obtain ⟨σ', L⟩ := out_loop C la lb m (n + 15) hla hlb hC lb 0 (row0 la.length) 0 U (by simp) (by simp [row0]) H14
  rcases L with ⟨L, R⟩ | L
  · have h15' := h15.trans L
    have h16 : ex (LX C) (n + 55) (levS 16) σ' = some (.ret (.int (rowsP cstS m la lb 0 (row0 la.length) 0)), σ') := by
      refine r_ret (by kernel_rfl) ?_
      have H : told [("result", V.int (rowsP cstS m la lb 0 (row0 la.length) 0))] σ' := ⟨R, trivial⟩
      refine ev_lay H ?_
      kernel_rfl
    exact ⟨σ', r_step (by rw [lev_len]; decide) h12 (r_step (by rw [lev_len]; decide) h13 (r_step (by rw [lev_len]; decide) h14 (r_step (by rw [lev_len]; decide) h15' (r_last (by rw [lev_len]; decide) h16))))⟩
  · have h15' := h15.trans L
    exact ⟨σ', r_step (by rw [lev_len]; decide) h12 (r_step (by rw [lev_len]; decide) h13 (r_step (by rw [lev_len]; decide) h14 (r_last (by rw [lev_len]; decide) h15')))⟩
end Mine
end
section
set_option maxRecDepth 20000
namespace Mine
open PySem

theorem fuel {c n m : Nat} (h : c ≤ n) (hn : n ≤ 40) (hm : 41 ≤ m) : c + 1 + (m - (c + 1)) = m := Nat.add_sub_cancel' (Nat.le_trans (Nat.succ_le_succ (Nat.le_trans h hn)) hm)
theorem lev_body (C) (la lb : List Nat) (m : Int) (hla : la.length ≤ 40) (hlb : lb.length ≤ 40) (hC : ∀ x ∈ la ++ lb, ∀ y ∈ la ++ lb, C "_substitution_cost" [.str (ofL [x]), .str (ofL [y])] = some (.int (cstS x y))) :
    ∃ σ', exs (LX C) 300 (levF.body.drop 0) (start levF.params [.str (ofL la), .str (ofL lb), .int m]) = some (.ret (.int (levP cstS la lb m)), σ') := by
  have hA : la.length ≤ big := by unfold big; omega
  have hB : lb.length ≤ big := by unfold big; omega
  generalize hT : start levF.params [.str (ofL la), .str (ofL lb), .int m] = T
  have h0 := r_if (X := LX C) (n := 298) (s := levS 0) (σ := T) (c := ofL la == ofL lb) (by kernel_rfl) (by subst hT; kernel_rfl)
  rw [ofL_beq] at h0
  unfold levP
  by_cases hab : la = lb
  · rw [if_pos hab]
    rw [beq_iff_eq.2 hab, if_pos rfl] at h0
    exact ⟨T, r_last (by rw [lev_len]; decide) (h0.trans (by kernel_rfl))⟩
  rw [if_neg hab]
  dsimp only
  rw [beq_eq_false_iff_ne.2 hab, if_neg (by simp)] at h0
  have e0 : exs (LX C) 298 (sElse (levS 0)) T = some (.next, T) := by kernel_rfl
  rw [e0] at h0
  have h1 : ex (LX C) 298 (levS 1) T = some (.next, upd T "pre" (.int ((0 : Nat) : Int))) := by kernel_rfl
  have hp := cpre_le la lb
  have hw := pre_loop C la lb hA hB (n := 276) (cpre la lb) 0 (296 - (cpre la lb + 1)) (upd T "pre" (.int ((0 : Nat) : Int))) rfl (Nat.zero_le _) (Nat.zero_le _) (by subst hT; exact ⟨rfl, rfl, rfl, trivial⟩)
  rw [fuel (m := 296) hp.1 hla (by decide), upd_upd] at hw
  have h2 : ex (LX C) 297 (levS 2) (upd T "pre" (.int ((0 : Nat) : Int))) = some (.next, upd T "pre" (.int ((0 + cpre la lb : Nat) : Int))) := (r_while (by kernel_rfl)).trans hw
  rw [Nat.zero_add] at h2
  generalize cpre la lb = p at h2 hp ⊢
  have h3 : ex (LX C) 296 (levS 3) (upd T "pre" (.int p)) = some (.next, upd (upd T "pre" (.int p)) "a" (.str (ofL (la.drop p)))) := by
    refine r_asn "a" (by kernel_rfl) (by kernel_rfl) (.inl (by kernel_rfl)) ?_ rfl
    have h : ev (LX C) 295 (sVal (levS 3)) (upd T "pre" (.int p)) = cut (.str (ofL la)) (.int p) .nil := by subst hT; kernel_rfl
    rw [h, cut_from la p hA hp.1]
  have h4 : ex (LX C) 295 (levS 4) (upd (upd T "pre" (.int p)) "a" (.str (ofL (la.drop p)))) = some (.next, upd (upd (upd T "pre" (.int p)) "a" (.str (ofL (la.drop p)))) "b" (.str (ofL (lb.drop p)))) := by
    refine r_asn "b" (by kernel_rfl) (by kernel_rfl) (.inl (by kernel_rfl)) ?_ rfl
    have h : ev (LX C) 294 (sVal (levS 4)) (upd (upd T "pre" (.int p)) "a" (.str (ofL (la.drop p)))) = cut (.str (ofL lb)) (.int p) .nil := by subst hT; kernel_rfl
    rw [h, cut_from lb p hB hp.2]
  generalize hU : upd (upd (upd T "pre" (.int p)) "a" (.str (ofL (la.drop p)))) "b" (.str (ofL (lb.drop p))) = U at h4
  have Ua : U "a" = some (.str (ofL (la.drop p))) := by rw [← hU]; rfl
  have Ub : U "b" = some (.str (ofL (lb.drop p))) := by rw [← hU]; rfl
  have Um : U "max_cost" = some (.int m) := by rw [← hU, ← hT]; rfl
  have h5 : ex (LX C) 294 (levS 5) U = some (.next, upd U "post" (.int (-((0 : Nat) : Int)))) := by kernel_rfl
  have mA : ∀ x ∈ la.drop p, x ∈ la ++ lb := fun x h => List.mem_append_left _ (List.mem_of_mem_drop h)
  have mB : ∀ x ∈ lb.drop p, x ∈ la ++ lb := fun x h => List.mem_append_right _ (List.mem_of_mem_drop h)
  have lA : (la.drop p).length ≤ 40 := by simp; omega
  have lB : (lb.drop p).length ≤ 40 := by simp; omega
  generalize la.drop p = a at *
  generalize lb.drop p = b at *
  have hA : a.length ≤ big := by unfold big; omega
  have hB : b.length ≤ big := by unfold big; omega
  have hq := cpre_le a.reverse b.reverse
  simp only [List.length_reverse] at hq
  have hw := post_loop C a b hA hB (n := 272) (cpre a.reverse b.reverse) 0 (292 - (cpre a.reverse b.reverse + 1)) (upd U "post" (.int (-((0 : Nat) : Int)))) rfl (Nat.zero_le _) (Nat.zero_le _) ⟨Ua, Ub, rfl, trivial⟩
  rw [fuel (m := 292) hq.1 lA (by decide), upd_upd] at hw
  have h6 : ex (LX C) 293 (levS 6) (upd U "post" (.int (-((0 : Nat) : Int)))) = some (.next, upd U "post" (.int (-((0 + cpre a.reverse b.reverse : Nat) : Int)))) := (r_while (by kernel_rfl)).trans hw
  rw [Nat.zero_add] at h6
  generalize cpre a.reverse b.reverse = q at h6 hq ⊢
  have F6 : told [("a", .str (ofL a)), ("b", .str (ofL b)), ("post", .int (-(q : Int)))] (upd U "post" (.int (-(q : Int)))) := ⟨Ua, Ub, rfl, trivial⟩
  have h7 : ex (LX C) 292 (levS 7) (upd U "post" (.int (-(q : Int)))) = some (.next, upd (upd U "post" (.int (-(q : Int)))) "a" (.str (ofL (a.take (a.length - q))))) := by
    refine r_asn "a" (by kernel_rfl) (by kernel_rfl) (.inl (by kernel_rfl)) ?_ rfl
    refine ev_lay F6 ?_
    have h : ev (LX C) 291 (sVal (levS 7)) (lay [("a", .str (ofL a)), ("b", .str (ofL b)), ("post", .int (-(q : Int)))] (upd U "post" (.int (-(q : Int))))) = cut (.str (ofL a)) .nil (hiV q) := by
      cases q with
      | zero => kernel_rfl
      | succ q => kernel_rfl
    rw [h, cut_hi a q hA hq.1]
  have F7 : told [("a", .str (ofL (a.take (a.length - q)))), ("b", .str (ofL b)), ("post", .int (-(q : Int)))] (upd (upd U "post" (.int (-(q : Int)))) "a" (.str (ofL (a.take (a.length - q))))) := ⟨rfl, Ub, rfl, trivial⟩
  have h8 : ex (LX C) 291 (levS 8) (upd (upd U "post" (.int (-(q : Int)))) "a" (.str (ofL (a.take (a.length - q))))) = some (.next, upd (upd (upd U "post" (.int (-(q : Int)))) "a" (.str (ofL (a.take (a.length - q))))) "b" (.str (ofL (b.take (b.length - q))))) := by
    refine r_asn "b" (by kernel_rfl) (by kernel_rfl) (.inl (by kernel_rfl)) ?_ rfl
    refine ev_lay F7 ?_
    have h : ev (LX C) 290 (sVal (levS 8)) (lay [("a", .str (ofL (a.take (a.length - q)))), ("b", .str (ofL b)), ("post", .int (-(q : Int)))] (upd (upd U "post" (.int (-(q : Int)))) "a" (.str (ofL (a.take (a.length - q)))))) = cut (.str (ofL b)) .nil (hiV q) := by
      cases q with
      | zero => kernel_rfl
      | succ q => kernel_rfl
    rw [h, cut_hi b q hB hq.2]
  generalize hW : upd (upd (upd U "post" (.int (-(q : Int)))) "a" (.str (ofL (a.take (a.length - q))))) "b" (.str (ofL (b.take (b.length - q)))) = W at h8
  have FW : told (tailFacts (a.take (a.length - q)) (b.take (b.length - q)) m) W := by rw [← hW]; exact ⟨rfl, rfl, Um, trivial⟩
  have mA : ∀ x ∈ a.take (a.length - q), x ∈ la ++ lb := fun x h => mA x (List.mem_of_mem_take h)
  have mB : ∀ x ∈ b.take (b.length - q), x ∈ la ++ lb := fun x h => mB x (List.mem_of_mem_take h)
  have lA : (a.take (a.length - q)).length ≤ 40 := by simp; omega
  have lB : (b.take (b.length - q)).length ≤ 40 := by simp; omega
  generalize a.take (a.length - q) = u at *
  generalize b.take (b.length - q) = v at *
  have hA : u.length ≤ big := by unfold big; omega
  have hB : v.length ≤ big := by unfold big; omega
  have E : exs (LX C) 300 (levF.body.drop 0) T = exs (LX C) 291 (levF.body.drop 9) W := (r_go (by rw [lev_len]; decide) h0).trans ((r_go (by rw [lev_len]; decide) h1).trans ((r_go (by rw [lev_len]; decide) h2).trans ((r_go (by rw [lev_len]; decide) h3).trans ((r_go (by rw [lev_len]; decide) h4).trans ((r_go (by rw [lev_len]; decide) h5).trans ((r_go (by rw [lev_len]; decide) h6).trans ((r_go (by rw [lev_len]; decide) h7).trans (r_go (by rw [lev_len]; decide) h8))))))))
  have ht9 : tst (LX C) 289 (sTest (levS 9)) W = some (decide (u = [] ∨ v = [])) := by
    refine tst_lay FW ?_
    have h : tst (LX C) 289 (sTest (levS 9)) (lay (tailFacts u v m) W) = ((truth (.str (ofL u))).map (!·)).bind fun t => if t then some true else (((truth (.str (ofL v))).map (!·)).bind fun t => if t then some true else some false) := by kernel_rfl
    rw [h, truth_str _ hA, truth_str _ hB]
    simp only [Option.map_some, Option.bind_some]
    by_cases hu : u = [] <;> by_cases hv : v = [] <;> simp [hu, hv]
  have h9 := r_if (X := LX C) (s := levS 9) (by kernel_rfl) ht9
  by_cases hz : u = [] ∨ v = []
  · rw [if_pos hz]
    rw [decide_eq_true hz, if_pos rfl] at h9
    have e9 : exs (LX C) 289 (sBody (levS 9)) W = some (.ret (.int (2 * ((u.length : Int) + v.length))), W) := by
      have hb9 : exs (LX C) 289 (sBody (levS 9)) W = exs (LX C) 289 ((sBody (levS 9)).drop 0) W := rfl
      rw [hb9]
      refine r_last (Nat.lt_of_lt_of_eq (by decide : 0 < 1) (by kernel_rfl)) ?_
      refine r_ret (by kernel_rfl) ?_
      refine ev_lay FW ?_
      have h : ev (LX C) 287 (sVal (nth (sBody (levS 9)) 0)) (lay (tailFacts u v m) W) = ((blt "len" [.str (ofL u)]).bind fun x => (blt "len" [.str (ofL v)]).bind fun y => bin .Add x y).bind fun z => bin .Mult (.int 2) z := by kernel_rfl
      rw [h, blt_len _ hA, blt_len _ hB]
      simp only [Option.bind_some]
      show bin .Mult (.int 2) (.int ((u.length : Int) + v.length)) = _
      exact bin_mul _ _ (by decide) (smallI_of (by omega) (by omega))
    rw [e9] at h9
    exact ⟨W, E.trans (r_last (by rw [lev_len]; decide) h9)⟩
  rw [if_neg hz]
  rw [decide_eq_false hz, if_neg (by simp)] at h9
  have e9 : exs (LX C) 289 (sElse (levS 9)) W = some (.next, W) := by kernel_rfl
  rw [e9] at h9
  have ht10 : tst (LX C) 288 (sTest (levS 10)) W = some false := by
    refine tst_lay FW ?_
    have h : tst (LX C) 288 (sTest (levS 10)) (lay (tailFacts u v m) W) = (((blt "len" [.str (ofL u)]).bind fun x => cmp .Gt x (.int 40)).bind truth).bind fun t => if t then some true else ((((blt "len" [.str (ofL v)]).bind fun x => cmp .Gt x (.int 40)).bind truth).bind fun t => if t then some true else some false) := by kernel_rfl
    rw [h, blt_len _ hA, blt_len _ hB]
    simp only [Option.bind_some]
    have g : ∀ k : Nat, k ≤ 40 → (cmp .Gt (.int k) (.int 40)).bind truth = some false := fun k hk => by
      show some (decide ((40 : Int) < (k : Int))) = _
      rw [decide_eq_false (by omega)]
    rw [g _ lA, g _ lB]
    rfl
  have h10 := r_if (X := LX C) (s := levS 10) (by kernel_rfl) ht10
  rw [if_neg (by simp)] at h10
  have e10 : exs (LX C) 288 (sElse (levS 10)) W = some (.next, W) := by kernel_rfl
  rw [e10] at h10
  have ht11 : tst (LX C) 287 (sTest (levS 11)) W = some (decide (v.length < u.length)) := by
    refine tst_lay FW ?_
    have h : tst (LX C) 287 (sTest (levS 11)) (lay (tailFacts u v m) W) = (((blt "len" [.str (ofL v)]).bind fun x => (blt "len" [.str (ofL u)]).bind fun y => cmp .Lt x y)).bind truth := by kernel_rfl
    rw [h, blt_len _ hA, blt_len _ hB]
    simp only [Option.bind_some]
    show some (decide ((v.length : Int) < (u.length : Int))) = _
    congr 1
    simp
  have h11 := r_if (X := LX C) (s := levS 11) (by kernel_rfl) ht11
  have fin : ∀ (W' : Sg) (s t : List Nat), ex (LX C) 288 (levS 11) W = some (.next, W') → told (tailFacts s t m) W' → s.length ≤ big → t.length ≤ big → (∀ x ∈ s, x ∈ la ++ lb) → (∀ x ∈ t, x ∈ la ++ lb) →
      ∃ σ', exs (LX C) 300 (levF.body.drop 0) T = some (.ret (.int (tailP cstS s t m)), σ') := fun W' s t h11 F ls lt ms mt => by
    obtain ⟨σ', h12⟩ := lev_tail C s t m 228 W' ls lt (fun c hc x hx => hC c (mt c hc) x (ms x hx)) F
    exact ⟨σ', E.trans (r_step (by rw [lev_len]; decide) h9 (r_step (by rw [lev_len]; decide) h10 (r_step (by rw [lev_len]; decide) h11 h12)))⟩
  by_cases hl : v.length < u.length
  · rw [if_pos hl]
    rw [decide_eq_true hl, if_pos rfl] at h11
    have e11 : exs (LX C) 287 (sBody (levS 11)) W = some (.next, upd (upd W "b" (.str (ofL u))) "a" (.str (ofL v))) := by
      rw [← lay_same FW]
      kernel_rfl
    exact fin _ v u (h11.trans e11) ⟨rfl, rfl, FW.2.2.1, trivial⟩ hB hA mB mA
  · rw [if_neg hl]
    rw [decide_eq_false hl, if_neg (by simp)] at h11
    have e11 : exs (LX C) 287 (sElse (levS 11)) W = some (.next, W) := by kernel_rfl
    exact fin _ u v (h11.trans e11) FW hA hB mA mB
theorem call_lev (n : Nat) (la lb : List Nat) (m : Int) (hla : la.length ≤ 40) (hlb : lb.length ≤ 40) (hC : ∀ x ∈ la ++ lb, ∀ y ∈ la ++ lb, callF n "_substitution_cost" [.str (ofL [x]), .str (ofL [y])] = some (.int (cstS x y))) :
    callF (n + 1) "_levenshtein_distance" [.str (ofL la), .str (ofL lb), .int m] = some (.int (levP cstS la lb m)) := by
  obtain ⟨σ', h⟩ := lev_body (callF n) la lb m hla hlb hC
  exact r_call (by kernel_rfl) find_lev (by kernel_rfl) h
end Mine
end
section
set_option maxRecDepth 20000
namespace Mine
open PySem

theorem c_lt (n : Nat) (a b : Int) : callF (n + 1) "lt" [.int a, .int b] = some (.bool (decide (a < b))) := by kernel_rfl
theorem c_eq (n : Nat) (a b : Str) : callF (n + 1) "eq" [.str a, .str b] = some (.bool (a == b)) := by kernel_rfl
theorem c_xor (n : Nat) (a b : Int) : callF (n + 1) "xor" [.int a, .int b] = some (.int (Builtin.bitXor a b)) := by kernel_rfl
theorem c_and (n : Nat) (a b : Int) : callF (n + 1) "and_" [.int a, .int b] = some (.int (Builtin.bitAnd a b)) := by kernel_rfl
theorem c_rshift (n k : Nat) (a : Int) : callF (n + 1) "rshift" [.int a, .int k] = some (.int (a.fdiv (2 ^ k))) := by
  have h : callF (n + 1) "rshift" [.int a, .int k] = done (thenS (Option.map (fun v => (Fl.ret v, start ["a", "b"] [.int a, .int k])) (if (0 : Int) ≤ k then some (.int (a.fdiv (2 ^ (k : Int).toNat))) else none)) (fun σ => some (.next, σ))) := by kernel_rfl
  rw [h, if_pos (Int.natCast_nonneg k)]
  rfl
theorem c_is (n : Nat) (a b : Int) : callF (n + 1) "_law_is" [.int a, .int b] = some (.bool (a == b)) := by kernel_rfl
theorem c_isb (n : Nat) (a b : Bool) : callF (n + 1) "_law_is" [.bool a, .bool b] = some (.bool (a == b)) := by kernel_rfl
noncomputable def ruleName : Nat → Str
  | 0 => "and_" | 1 => "or_" | 2 => "xor" | 3 => "lt" | 4 => "gt" | 5 => "le" | 6 => "ge" | 7 => "eq" | _ => "ne"
noncomputable def ruleB : Nat → Bool → Bool → Bool
  | 0, a, b => a && b | 1, a, b => a || b | 2, a, b => a != b | 3, a, b => !a && b | 4, a, b => a && !b | 5, a, b => !a || b | 6, a, b => a || !b | 7, a, b => a == b | _, a, b => a != b
theorem c_rule (n i : Nat) (hi : i < 9) (a b : Bool) : callF (n + 1) (ruleName i) [.bool a, .bool b] = some (.bool (ruleB i a b)) := by
  revert hi
  revert i
  cases a <;> cases b <;> (refine lt9 ?_ ?_ ?_ ?_ ?_ ?_ ?_ ?_ ?_ <;> kernel_rfl)
theorem c_contains (n : Nat) (l : List Int) (a : Int) : callF (n + 1) "contains" [.lst (l.map .int), .int a] = some (.bool (l.contains a)) := by
  have hl : ∀ l : List Int, intL (l.map .int) = some l := fun l => by
    induction l with
    | nil => rfl
    | cons x r ih => simp only [List.map_cons, intL, ih, Option.map_some]
  have h : exs (cxOf (fdAt 17) (callF n)) 300 ((fdAt 17).body.drop 0) (start (fdAt 17).params [.lst (l.map .int), .int a]) = some (.ret (.bool (l.contains a)), start (fdAt 17).params [.lst (l.map .int), .int a]) := by
    refine r_last (Nat.lt_of_lt_of_eq (by decide : 0 < 1) (by kernel_rfl)) (r_ret (by kernel_rfl) ?_)
    have h : ev (cxOf (fdAt 17) (callF n)) 298 (sVal (nth (fdAt 17).body 0)) (start (fdAt 17).params [.lst (l.map .int), .int a]) = (intL (l.map .int)).map fun l => .bool (l.contains a) := by kernel_rfl
    rw [h, hl]; rfl
  exact r_call (by kernel_rfl) (by kernel_rfl) (by kernel_rfl) h
theorem c_containsB (n : Nat) (l : List Bool) (a : Bool) : callF (n + 1) "contains" [.lst (l.map .bool), .bool a] = some (.bool (l.contains a)) := by
  have hl : ∀ l : List Bool, boolL (l.map .bool) = some l := fun l => by
    induction l with
    | nil => rfl
    | cons x r ih => simp only [List.map_cons, boolL, ih, Option.map_some]
  have h : exs (cxOf (fdAt 17) (callF n)) 300 ((fdAt 17).body.drop 0) (start (fdAt 17).params [.lst (l.map .bool), .bool a]) = some (.ret (.bool (l.contains a)), start (fdAt 17).params [.lst (l.map .bool), .bool a]) := by
    refine r_last (Nat.lt_of_lt_of_eq (by decide : 0 < 1) (by kernel_rfl)) (r_ret (by kernel_rfl) ?_)
    have h : ev (cxOf (fdAt 17) (callF n)) 298 (sVal (nth (fdAt 17).body 0)) (start (fdAt 17).params [.lst (l.map .bool), .bool a]) = (boolL (l.map .bool)).map fun l => .bool (l.contains a) := by kernel_rfl
    rw [h, hl]; rfl
  exact r_call (by kernel_rfl) (by kernel_rfl) (by kernel_rfl) h
theorem c_subst (n : Nat) (x y : Nat) (hx : okS x) (hy : okS y) : callF (n + 1) "_substitution_cost" [.str (ofL [x]), .str (ofL [y])] = some (.int (cstS x y)) := by
  unfold okS at hx hy
  unfold cstS cstS.subst1
  generalize ofL [x] = a at *
  generalize ofL [y] = b at *
  generalize hT : start (fdAt 4).params [.str a, .str b] = T
  have len : (fdAt 4).body.length = 3 := by kernel_rfl
  have h0 := r_if (X := cxOf (fdAt 4) (callF n)) (n := 298) (s := nth (fdAt 4).body 0) (σ := T) (c := a == b) (by kernel_rfl) (by subst hT; kernel_rfl)
  have e0 : exs (cxOf (fdAt 4) (callF n)) 298 (sBody (nth (fdAt 4).body 0)) T = some (.ret (.int 0), T) := by kernel_rfl
  have e0' : exs (cxOf (fdAt 4) (callF n)) 298 (sElse (nth (fdAt 4).body 0)) T = some (.next, T) := by kernel_rfl
  rw [e0, e0'] at h0
  have fin : ∀ r, exs (cxOf (fdAt 4) (callF n)) 300 ((fdAt 4).body.drop 0) T = some (.ret (.int r), T) → callF (n + 1) "_substitution_cost" [.str a, .str b] = some (.int r) := fun r h => r_call (by kernel_rfl) (by kernel_rfl) (by kernel_rfl) (by rw [hT]; exact h)
  by_cases h : (a == b) = true
  · rw [if_pos h] at h0 ⊢
    exact fin _ (r_last (by rw [len]; decide) h0)
  rw [if_neg h] at h0 ⊢
  have ht : tst (cxOf (fdAt 4) (callF n)) 297 (sTest (nth (fdAt 4).body 1)) T = some (Txt.lower a == Txt.lower b) := by
    have h : tst (cxOf (fdAt 4) (callF n)) 297 (sTest (nth (fdAt 4).body 1)) T = ((if (Txt.lower a).length ≤ big then some (V.str (Txt.lower a)) else none).bind fun u => (if (Txt.lower b).length ≤ big then some (V.str (Txt.lower b)) else none).bind fun v => cmp .Eq u v).bind truth := by subst hT; kernel_rfl
    rw [h, if_pos hx, if_pos hy]; rfl
  have h1 := r_if (X := cxOf (fdAt 4) (callF n)) (s := nth (fdAt 4).body 1) (by kernel_rfl) ht
  have e1 : exs (cxOf (fdAt 4) (callF n)) 297 (sBody (nth (fdAt 4).body 1)) T = some (.ret (.int 1), T) := by kernel_rfl
  have e1' : exs (cxOf (fdAt 4) (callF n)) 297 (sElse (nth (fdAt 4).body 1)) T = some (.next, T) := by kernel_rfl
  rw [e1, e1'] at h1
  by_cases h' : (Txt.lower a == Txt.lower b) = true
  · rw [if_pos h'] at h1 ⊢
    exact fin _ (r_step (by rw [len]; decide) h0 (r_last (by rw [len]; decide) h1))
  · rw [if_neg h'] at h1 ⊢
    have h2 : ex (cxOf (fdAt 4) (callF n)) 297 (nth (fdAt 4).body 2) T = some (.ret (.int 2), T) := by kernel_rfl
    exact fin _ (r_step (by rw [len]; decide) h0 (r_step (by rw [len]; decide) h1 (r_last (by rw [len]; decide) h2)))
theorem c_lev (n : Nat) (la lb : List Nat) (m : Int) (hla : la.length ≤ 40) (hlb : lb.length ≤ 40) (hC : ∀ x ∈ la ++ lb, okS x) :
    callF (n + 2) "_levenshtein_distance" [.str (ofL la), .str (ofL lb), .int m] = some (.int (levP cstS la lb m)) :=
  call_lev (n + 1) la lb m hla hlb fun x hx y hy => c_subst n x y (hC x hx) (hC y hy)
end Mine
end
section
set_option maxRecDepth 20000
namespace Mine
open PySem

theorem cpre_map (f : Nat → Nat) : ∀ (a b : List Nat), (∀ x ∈ a, ∀ y ∈ b, f x = f y → x = y) → cpre (a.map f) (b.map f) = cpre a b
  | [], b, _ => by simp [cpre]
  | x :: a, [], _ => by simp [cpre]
  | x :: a, y :: b, h => by
    have ih := cpre_map f a b fun u hu v hv => h u (List.mem_cons_of_mem _ hu) v (List.mem_cons_of_mem _ hv)
    simp only [List.map_cons, cpre, ih]
    by_cases e : x = y
    · rw [if_pos e, if_pos (by rw [e])]
    · rw [if_neg e, if_neg fun e' => e (h x (List.mem_cons_self ..) y (List.mem_cons_self ..) e')]
theorem rowStep_map (f : Nat → Nat) (cst cst' : Nat → Nat → Int) (c : Nat) : ∀ (as : List Nat) (rs : List Int) (d r mn : Int), (∀ x ∈ as, cst' (f c) (f x) = cst c x) → rowStep cst' (f c) (as.map f) rs d r mn = rowStep cst c as rs d r mn
  | [], rs, d, r, mn, _ => by simp [rowStep]
  | x :: as, [], d, r, mn, _ => by simp [rowStep]
  | x :: as, q :: rs, d, r, mn, h => by
    simp only [List.map_cons, rowStep]
    rw [h x (List.mem_cons_self ..), rowStep_map f cst cst' c as rs _ _ _ fun y hy => h y (List.mem_cons_of_mem _ hy)]
theorem rowsP_map (f : Nat → Nat) (cst cst' : Nat → Nat → Int) (m : Int) (a : List Nat) : ∀ (bs : List Nat) (k : Nat) (row : List Int) (r : Int), (∀ c ∈ bs, ∀ x ∈ a, cst' (f c) (f x) = cst c x) → rowsP cst' m (a.map f) (bs.map f) k row r = rowsP cst m a bs k row r
  | [], k, row, r, _ => rfl
  | c :: bs, k, row, r, h => by
    simp only [List.map_cons, rowsP]
    rw [rowStep_map f cst cst' c a _ _ _ _ (h c (List.mem_cons_self ..)), rowsP_map f cst cst' m a bs _ _ _ fun y hy => h y (List.mem_cons_of_mem _ hy)]
theorem tailP_map (f : Nat → Nat) (cst cst' : Nat → Nat → Int) (m : Int) (a b : List Nat) (h : ∀ c ∈ b, ∀ x ∈ a, cst' (f c) (f x) = cst c x) : tailP cst' (a.map f) (b.map f) m = tailP cst a b m := by
  unfold tailP
  rw [List.length_map, List.length_map, rowsP_map f cst cst' m a b _ _ _ h]
/-- a renaming that keeps equality and costs keeps the distance -/
theorem levP_map (f : Nat → Nat) (cst cst' : Nat → Nat → Int) (m : Int) (a b : List Nat) (hi : ∀ x ∈ a ++ b, ∀ y ∈ a ++ b, f x = f y → x = y) (hc : ∀ x ∈ a ++ b, ∀ y ∈ a ++ b, cst' (f x) (f y) = cst x y) : levP cst' (a.map f) (b.map f) m = levP cst a b m := by
  have e0 : (a.map f = b.map f) ↔ a = b := by
    constructor
    · intro h
      have : ∀ (a b : List Nat), (∀ x ∈ a, ∀ y ∈ b, f x = f y → x = y) → a.map f = b.map f → a = b := fun a => by
        induction a with
        | nil => intro b _ h; cases b with
          | nil => rfl
          | cons _ _ => simp at h
        | cons x r ih => intro b hb h; cases b with
          | nil => simp at h
          | cons y t =>
            simp only [List.map_cons, List.cons.injEq] at h
            rw [hb x (List.mem_cons_self ..) y (List.mem_cons_self ..) h.1, ih t (fun u hu v hv => hb u (List.mem_cons_of_mem _ hu) v (List.mem_cons_of_mem _ hv)) h.2]
      exact this a b (fun x hx y hy => hi x (List.mem_append_left _ hx) y (List.mem_append_right _ hy)) h
    · intro h; rw [h]
  have p0 := cpre_map f a b (fun x hx y hy => hi x (List.mem_append_left _ hx) y (List.mem_append_right _ hy))
  unfold levP
  rw [p0]
  by_cases h : a = b
  · rw [if_pos h, if_pos (e0.2 h)]
  rw [if_neg h, if_neg fun h' => h (e0.1 h')]
  generalize cpre a b = p
  dsimp only
  rw [← List.map_drop, ← List.map_drop]
  have ma : ∀ x ∈ a.drop p, x ∈ a ++ b := fun x h => List.mem_append_left _ (List.mem_of_mem_drop h)
  have mb : ∀ x ∈ b.drop p, x ∈ a ++ b := fun x h => List.mem_append_right _ (List.mem_of_mem_drop h)
  generalize a.drop p = u at *
  generalize b.drop p = v at *
  rw [← List.map_reverse, ← List.map_reverse, cpre_map f u.reverse v.reverse (fun x hx y hy => hi x (ma x (by simpa using hx)) y (mb y (by simpa using hy)))]
  generalize cpre u.reverse v.reverse = q
  rw [List.length_map, List.length_map, ← List.map_take, ← List.map_take]
  have ma : ∀ x ∈ u.take (u.length - q), x ∈ a ++ b := fun x h => ma x (List.mem_of_mem_take h)
  have mb : ∀ x ∈ v.take (v.length - q), x ∈ a ++ b := fun x h => mb x (List.mem_of_mem_take h)
  generalize u.take (u.length - q) = s at *
  generalize v.take (v.length - q) = t at *
  rw [List.length_map, List.length_map, tailP_map f cst cst' m s t (fun x hx y hy => hc x (mb x hx) y (ma y hy)), tailP_map f cst cst' m t s (fun x hx y hy => hc x (ma x hx) y (mb y hy))]
  simp only [List.map_eq_nil_iff]
end Mine
end
section
set_option maxRecDepth 20000
namespace Mine
open PySem

noncomputable def smalls : List Nat := [98, 99, 101, 102, 104, 105, 106, 107, 110, 114, 115, 118, 119, 121, 122]
noncomputable def smallAt (a : Nat) : Nat := smalls.getD a 0
noncomputable def starts : List Nat := [119808, 119860, 119912, 120016, 120172, 120224, 120276, 120328, 120380, 120432]
noncomputable def bigOf (a form : Nat) : Nat := if form < 10 then smallAt a - 32 else starts.getD (form - 10) 0 + smallAt a - 97
noncomputable def costOf (form : Nat) : Nat := if form < 10 then 1 else 2
noncomputable def stays : List Nat := [172, 174, 846, 848, 6149, 6151, 6154, 6158, 8202, 8206, 8287, 8289, 65023, 65040, 65278, 65280]
/-- the signs of the spellings -/
noncomputable def spellSigns : List Nat := [38, 60, 62, 34, 13, 10, 9, 59, 35, 97, 109, 112, 108, 116, 103, 113, 117, 111, 120, 68, 65, 49, 51, 48, 57]
noncomputable def low (c : Nat) : Nat := if 65 ≤ c ∧ c ≤ 90 then c + 32 else c
noncomputable def letterSigns : List Nat := (List.range 15).flatMap fun a => smallAt a :: (List.range 20).map (bigOf a)
noncomputable def allSigns : List Nat := letterSigns ++ stays ++ spellSigns
theorem lower_one {c d : Nat} (hne : c ≠ 0x3A3) (h : Unicode.lowerOf c = [d]) : Txt.lower (ofL [c]) = ofL [d] := by
  unfold Txt.lower
  rw [PyProof.Rows.placed_single (ofL [c]) _ (fun _ => d) fun i x hc => by
    have hx : x = c := by
      have := List.mem_of_getElem? hc
      exact List.mem_singleton.1 (by simpa [ofL] using this)
    subst hx
    have hc' : (ofL [x]).cps[i]? = some x := by simpa using hc
    unfold Unicode.lowerAt
    rw [hc']
    have hne' : (x == 0x3A3) = false := by rw [beq_eq_false_iff_ne]; exact hne
    simp only [hne', Bool.false_and, Bool.false_eq_true, if_false]
    exact h]
  simp [ofL]
theorem clear_shifted {lo hi c : Nat} (h1 : lo ≤ c) (h2 : c ≤ hi) : ∀ {l : List (Nat × Nat × Nat)}, (l.all fun p => decide (p.2.1 < lo) || decide (hi < p.1)) = true → Unicode.shifted l c = none
  | [], _ => rfl
  | (a, b, t) :: r, h => by
    simp only [List.all_cons, Bool.and_eq_true, Bool.or_eq_true, decide_eq_true_eq] at h
    unfold Unicode.shifted
    by_cases ha : c < a
    · rw [if_pos ha]
    · rw [if_neg ha, if_neg (by omega), clear_shifted h1 h2 h.2]
theorem one_clear : (UnicodeData.oneLower.all fun p => decide (p.2.1 < 119808) || decide (120483 < p.1)) = true := by kernel_rfl
theorem several_clear : (UnicodeData.severalLower.all fun p => decide (p.1 < 119808)) = true := by kernel_rfl
theorem look_none {α : Type} {c : Nat} : ∀ {l : List (Nat × α)}, (∀ p ∈ l, p.1 ≠ c) → l.lookup c = none
  | [], _ => rfl
  | (a, b) :: r, h => by
    have : (c == a) = false := by rw [beq_eq_false_iff_ne]; exact fun e => h _ (List.mem_cons_self ..) e.symm
    rw [List.lookup_cons, this]
    exact look_none fun p hp => h p (List.mem_cons_of_mem _ hp)
theorem low_math {c : Nat} (h1 : 119808 ≤ c) (h2 : c ≤ 120483) : Unicode.lowerOf c = [c] := by
  unfold Unicode.lowerOf Unicode.image
  rw [look_none (fun p hp e => by have := List.all_eq_true.1 several_clear p hp; simp only [decide_eq_true_eq] at this; omega), clear_shifted h1 h2 one_clear]
  rfl
theorem low_stay : (stays.all fun c => Unicode.lowerOf c == [c] && low c == c && c != 0x3A3) = true := by kernel_rfl
theorem signs_are : (allSigns.all fun c => decide (c < 128) || decide (119808 ≤ c) && decide (c ≤ 120483) || stays.contains c) = true := by kernel_rfl
theorem low_one {c : Nat} (h : c ∈ allSigns) : Txt.lower (ofL [c]) = ofL [low c] := by
  have h := List.all_eq_true.1 signs_are c h
  simp only [Bool.and_eq_true, Bool.or_eq_true, decide_eq_true_eq, List.contains_iff_mem] at h
  rcases h with (h | ⟨h1, h2⟩) | h
  · exact lower_one (by omega) (PyProof.Rows.lowerOf_ascii c h)
  · rw [show low c = c from if_neg (by omega)]
    exact lower_one (by omega) (low_math h1 h2)
  · have h := List.all_eq_true.1 low_stay c h
    simp only [Bool.and_eq_true, beq_iff_eq, bne_iff_ne] at h
    rw [h.1.2]
    exact lower_one h.2 h.1.1
end Mine
end
section
set_option maxRecDepth 20000
namespace Mine
open PySem

noncomputable def cstN (x y : Nat) : Int := if x = y then 0 else if low x = low y then 1 else 2
theorem okS_all {c : Nat} (h : c ∈ allSigns) : okS c := by
  unfold okS
  rw [low_one h, ofL_len]; show 1 ≤ big; decide
theorem cstS_eq {x y : Nat} (hx : x ∈ allSigns) (hy : y ∈ allSigns) : cstS x y = cstN x y := by
  unfold cstS cstS.subst1 cstN
  rw [low_one hx, low_one hy, ofL_beq, ofL_beq]
  simp
noncomputable def cls (c : Nat) : Nat := ((List.range 15).find? fun a => c == smallAt a || c == smallAt a - 32 || starts.any fun s => c == s + smallAt a - 97).getD 50
theorem cls_rec : ((List.range 15).all fun a => cls (smallAt a) == a && low (smallAt a) == smallAt a && decide (128 > smallAt a) && (List.range 20).all fun f => cls (bigOf a f) == a && smallAt a != bigOf a f && (if f < 10 then low (bigOf a f) == smallAt a else low (bigOf a f) == bigOf a f)) = true := by kernel_rfl
theorem cls_spell : (spellSigns.all fun c => cls c == 50 && decide (c < 128) && decide (low c < 128) && decide (9 ≤ c)) = true := by kernel_rfl
theorem cls_stay : (stays.all fun c => cls c == 50 && decide (128 ≤ c) && low c == c) = true := by kernel_rfl
theorem spell_low : (spellSigns.all fun c => cls (low c) == 50) = true := by kernel_rfl
theorem cls_low {c : Nat} (h : c ∈ allSigns) : cls (low c) = cls c := by
  unfold allSigns letterSigns at h
  simp only [List.mem_append, List.mem_flatMap, List.mem_range, List.mem_cons, List.mem_map] at h
  rcases h with (⟨a, ha, h⟩ | h) | h
  · have hr := List.all_eq_true.1 cls_rec a (List.mem_range.2 ha)
    simp only [Bool.and_eq_true, List.all_eq_true, List.mem_range, beq_iff_eq] at hr
    obtain ⟨⟨⟨h1, h2⟩, _⟩, h4⟩ := hr
    rcases h with rfl | ⟨f, hf, rfl⟩
    · rw [h2]
    · obtain ⟨⟨h5, _⟩, h6⟩ := h4 f hf
      rw [h5]
      split at h6
      · rw [eq_of_beq h6, h1]
      · rw [eq_of_beq h6, h5]
  · have hs := List.all_eq_true.1 cls_stay c h
    simp only [Bool.and_eq_true, beq_iff_eq] at hs
    rw [hs.2]
  · have hs := List.all_eq_true.1 cls_spell c h
    simp only [Bool.and_eq_true, beq_iff_eq] at hs
    rw [eq_of_beq (List.all_eq_true.1 spell_low c h), hs.1.1.1]

theorem mem_stay {t : Nat} (h : t ∈ stays) : t ∈ allSigns := by unfold allSigns; simp [h]
theorem mem_spell {t : Nat} (h : t ∈ spellSigns) : t ∈ allSigns := by unfold allSigns; simp [h]
theorem mem_small {a : Nat} (h : a < 15) : smallAt a ∈ allSigns := by
  unfold allSigns letterSigns
  simp only [List.mem_append, List.mem_flatMap, List.mem_range, List.mem_cons]
  exact .inl (.inl ⟨a, h, .inl rfl⟩)
theorem mem_big {a f : Nat} (h : a < 15) (hf : f < 20) : bigOf a f ∈ allSigns := by
  unfold allSigns letterSigns
  simp only [List.mem_append, List.mem_flatMap, List.mem_range, List.mem_cons]
  refine .inl (.inl ⟨a, h, .inr ?_⟩)
  exact List.mem_map.2 ⟨f, List.mem_range.2 hf, rfl⟩

/-- two signs, small and great either way, of one letter -/
structure Pair (a : Nat) (k : Int) (u v : Nat) : Prop where
  mu : u ∈ allSigns
  mv : v ∈ allSigns
  cu : cls u = a
  cv : cls v = a
  ne : u ≠ v
  cost : cstN u v = k
  cost' : cstN v u = k
  ha : a < 15
theorem pair_of {a f : Nat} (h : a < 15) (hf : f < 20) : Pair a (costOf f) (smallAt a) (bigOf a f) ∧ Pair a (costOf f) (bigOf a f) (smallAt a) := by
  have hc := List.all_eq_true.1 cls_rec a (List.mem_range.2 h)
  simp only [Bool.and_eq_true, List.all_eq_true, List.mem_range, beq_iff_eq, bne_iff_ne, decide_eq_true_eq] at hc
  obtain ⟨⟨⟨h1, h2⟩, h3⟩, h4⟩ := hc
  obtain ⟨⟨h5, h6⟩, h7⟩ := h4 f hf
  have k1 : cstN (smallAt a) (bigOf a f) = costOf f := by
    unfold cstN costOf
    rw [if_neg h6, h2]
    by_cases hf : f < 10
    · rw [if_pos hf] at h7 ⊢
      rw [if_pos (eq_of_beq h7).symm]; rfl
    · rw [if_neg hf] at h7 ⊢
      rw [eq_of_beq h7, if_neg h6]; rfl
  have k2 : cstN (bigOf a f) (smallAt a) = costOf f := by
    rw [← k1]
    unfold cstN
    rw [if_neg h6, if_neg (Ne.symm h6)]
    by_cases e : low (smallAt a) = low (bigOf a f)
    · rw [if_pos e, if_pos e.symm]
    · rw [if_neg e, if_neg (Ne.symm e)]
  exact ⟨⟨mem_small h, mem_big h hf, h1, h5, h6, k1, k2, h⟩, ⟨mem_big h hf, mem_small h, h5, h1, Ne.symm h6, k2, k1, h⟩⟩
theorem far {c d : Nat} (hc : c ∈ allSigns) (hd : d ∈ allSigns) (h : cls c ≠ cls d) : c ≠ d ∧ cstN c d = 2 := by
  have e : c ≠ d := fun e => h (by rw [e])
  refine ⟨e, ?_⟩
  have l1 := cls_low hc
  have l2 := cls_low hd
  unfold cstN
  rw [if_neg e, if_neg fun e' => h (by rw [← l1, ← l2, e'])]
noncomputable def fT (t u0 v0 u1 v1 : Nat) : Nat → Nat
  | 0 => t
  | 1 => u0
  | 2 => v0
  | 3 => u1
  | 4 => v1
  | x => x
noncomputable def cstT (k0 k1 : Int) (x y : Nat) : Int :=
  if x = y then 0 else if x < 9 ∨ y < 9 then (if (x = 1 ∧ y = 2) ∨ (x = 2 ∧ y = 1) then k0 else if (x = 3 ∧ y = 4) ∨ (x = 4 ∧ y = 3) then k1 else 2) else if low x = low y then 1 else 2
noncomputable def toks : List Nat := [0, 1, 2, 3, 4] ++ spellSigns
theorem fT_spell {t u0 v0 u1 v1 p : Nat} (h : 9 ≤ p) : fT t u0 v0 u1 v1 p = p := by
  match p, h with
  | p + 9, _ => rfl
theorem neq {a b c d : Nat} (h1 : a = c) (h2 : b = d) (h : c ≠ d) : a ≠ b := fun e => h (by rw [← h1, ← h2, e])
theorem tok_ok {t a0 a1 u0 v0 u1 v1 : Nat} {k0 k1 : Int} (ht : t ∈ stays) (P0 : Pair a0 k0 u0 v0) (P1 : Pair a1 k1 u1 v1) (hne : a0 ≠ a1) : ∀ x ∈ toks, ∀ y ∈ toks,
    (fT t u0 v0 u1 v1 x = fT t u0 v0 u1 v1 y → x = y) ∧ cstN (fT t u0 v0 u1 v1 x) (fT t u0 v0 u1 v1 y) = cstT k0 k1 x y := by
  have hs := List.all_eq_true.1 cls_stay t ht
  simp only [Bool.and_eq_true, beq_iff_eq, decide_eq_true_eq] at hs
  obtain ⟨⟨s1, s2⟩, s3⟩ := hs
  have sp : ∀ p ∈ spellSigns, cls p = 50 ∧ p < 128 ∧ low p < 128 ∧ 9 ≤ p := fun p hp => by
    have hs := List.all_eq_true.1 cls_spell p hp
    simp only [Bool.and_eq_true, beq_iff_eq, decide_eq_true_eq] at hs
    exact ⟨hs.1.1.1, hs.1.1.2, hs.1.2, hs.2⟩
  have mt := mem_stay ht
  have c0 := P0.ha
  have c1 := P1.ha
  have F : ∀ (x y c d : Nat), fT t u0 v0 u1 v1 x = c → fT t u0 v0 u1 v1 y = d → c ∈ allSigns → d ∈ allSigns → cls c ≠ cls d → cstT k0 k1 x y = 2 → (fT t u0 v0 u1 v1 x = fT t u0 v0 u1 v1 y → x = y) ∧ cstN (fT t u0 v0 u1 v1 x) (fT t u0 v0 u1 v1 y) = cstT k0 k1 x y := fun x y c d ex ey mc md h e => by
    rw [ex, ey, e]
    exact ⟨fun e => absurd e (far mc md h).1, (far mc md h).2⟩
  have S : ∀ x, (fT t u0 v0 u1 v1 x = fT t u0 v0 u1 v1 x → x = x) ∧ cstN (fT t u0 v0 u1 v1 x) (fT t u0 v0 u1 v1 x) = cstT k0 k1 x x := fun x => ⟨fun _ => rfl, by simp [cstN, cstT]⟩
  have TP : ∀ p ∈ spellSigns, ((fT t u0 v0 u1 v1 0 = fT t u0 v0 u1 v1 p → 0 = p) ∧ cstN (fT t u0 v0 u1 v1 0) (fT t u0 v0 u1 v1 p) = cstT k0 k1 0 p) ∧ ((fT t u0 v0 u1 v1 p = fT t u0 v0 u1 v1 0 → p = 0) ∧ cstN (fT t u0 v0 u1 v1 p) (fT t u0 v0 u1 v1 0) = cstT k0 k1 p 0) := fun p hp => by
    obtain ⟨p1, p2, p3, p4⟩ := sp p hp
    rw [fT_spell p4, show fT t u0 v0 u1 v1 0 = t from rfl]
    refine ⟨⟨fun e => by omega, ?_⟩, ⟨fun e => by omega, ?_⟩⟩
    · unfold cstN cstT
      rw [if_neg (by omega), s3, if_neg (by omega), if_neg (by omega), if_pos (by omega), if_neg (by omega), if_neg (by omega)]
    · unfold cstN cstT
      rw [if_neg (by omega), s3, if_neg (by omega), if_neg (by omega), if_pos (by omega), if_neg (by omega), if_neg (by omega)]
  have far2 : ∀ i p, i < 9 → 9 ≤ p → cstT k0 k1 i p = 2 ∧ cstT k0 k1 p i = 2 := fun i p hi hp => by
    constructor
    · unfold cstT; rw [if_neg (by omega), if_pos (by omega), if_neg (by omega), if_neg (by omega)]
    · unfold cstT; rw [if_neg (by omega), if_pos (by omega), if_neg (by omega), if_neg (by omega)]
  have mem : ∀ x ∈ toks, x = 0 ∨ x = 1 ∨ x = 2 ∨ x = 3 ∨ x = 4 ∨ x ∈ spellSigns := fun x hx => by
    unfold toks at hx
    simp only [List.mem_append, List.mem_cons, List.not_mem_nil, or_false] at hx
    rcases hx with (h | h | h | h | h) | h
    · exact .inl h
    · exact .inr (.inl h)
    · exact .inr (.inr (.inl h))
    · exact .inr (.inr (.inr (.inl h)))
    · exact .inr (.inr (.inr (.inr (.inl h))))
    · exact .inr (.inr (.inr (.inr (.inr h))))
  have E : ∀ p ∈ spellSigns, cls p = 50 := fun p hp => (sp p hp).1
  have G : ∀ p ∈ spellSigns, 9 ≤ p := fun p hp => (sp p hp).2.2.2
  have n0 : a0 ≠ 50 := by omega
  have n1 : a1 ≠ 50 := by omega
  have q0 := P0.cu
  have q0' := P0.cv
  have q1 := P1.cu
  have q1' := P1.cv
  intro x hx y hy
  rcases mem x hx with rfl | rfl | rfl | rfl | rfl | hx <;> rcases mem y hy with rfl | rfl | rfl | rfl | rfl | hy
  · exact S 0
  · exact F 0 1 t u0 rfl rfl mt P0.mu (neq s1 P0.cu n0.symm) rfl
  · exact F 0 2 t v0 rfl rfl mt P0.mv (neq s1 P0.cv n0.symm) rfl
  · exact F 0 3 t u1 rfl rfl mt P1.mu (neq s1 P1.cu n1.symm) rfl
  · exact F 0 4 t v1 rfl rfl mt P1.mv (neq s1 P1.cv n1.symm) rfl
  · exact (TP y hy).1
  · exact F 1 0 u0 t rfl rfl P0.mu mt (neq P0.cu s1 n0) rfl
  · exact S 1
  · exact ⟨fun e => absurd e P0.ne, P0.cost⟩
  · exact F 1 3 u0 u1 rfl rfl P0.mu P1.mu (neq P0.cu P1.cu hne) rfl
  · exact F 1 4 u0 v1 rfl rfl P0.mu P1.mv (neq P0.cu P1.cv hne) rfl
  · exact F 1 y u0 y rfl (fT_spell (G y hy)) P0.mu (mem_spell hy) (neq P0.cu (E y hy) n0) (far2 1 y (by omega) (G y hy)).1
  · exact F 2 0 v0 t rfl rfl P0.mv mt (neq P0.cv s1 n0) rfl
  · exact ⟨fun e => absurd e.symm P0.ne, P0.cost'⟩
  · exact S 2
  · exact F 2 3 v0 u1 rfl rfl P0.mv P1.mu (neq P0.cv P1.cu hne) rfl
  · exact F 2 4 v0 v1 rfl rfl P0.mv P1.mv (neq P0.cv P1.cv hne) rfl
  · exact F 2 y v0 y rfl (fT_spell (G y hy)) P0.mv (mem_spell hy) (neq P0.cv (E y hy) n0) (far2 2 y (by omega) (G y hy)).1
  · exact F 3 0 u1 t rfl rfl P1.mu mt (neq P1.cu s1 n1) rfl
  · exact F 3 1 u1 u0 rfl rfl P1.mu P0.mu (neq P1.cu P0.cu hne.symm) rfl
  · exact F 3 2 u1 v0 rfl rfl P1.mu P0.mv (neq P1.cu P0.cv hne.symm) rfl
  · exact S 3
  · exact ⟨fun e => absurd e P1.ne, P1.cost⟩
  · exact F 3 y u1 y rfl (fT_spell (G y hy)) P1.mu (mem_spell hy) (neq P1.cu (E y hy) n1) (far2 3 y (by omega) (G y hy)).1
  · exact F 4 0 v1 t rfl rfl P1.mv mt (neq P1.cv s1 n1) rfl
  · exact F 4 1 v1 u0 rfl rfl P1.mv P0.mu (neq P1.cv P0.cu hne.symm) rfl
  · exact F 4 2 v1 v0 rfl rfl P1.mv P0.mv (neq P1.cv P0.cv hne.symm) rfl
  · exact ⟨fun e => absurd e.symm P1.ne, P1.cost'⟩
  · exact S 4
  · exact F 4 y v1 y rfl (fT_spell (G y hy)) P1.mv (mem_spell hy) (neq P1.cv (E y hy) n1) (far2 4 y (by omega) (G y hy)).1
  · exact (TP x hx).2
  · exact F x 1 x u0 (fT_spell (G x hx)) rfl (mem_spell hx) P0.mu (neq (E x hx) P0.cu n0.symm) (far2 1 x (by omega) (G x hx)).2
  · exact F x 2 x v0 (fT_spell (G x hx)) rfl (mem_spell hx) P0.mv (neq (E x hx) P0.cv n0.symm) (far2 2 x (by omega) (G x hx)).2
  · exact F x 3 x u1 (fT_spell (G x hx)) rfl (mem_spell hx) P1.mu (neq (E x hx) P1.cu n1.symm) (far2 3 x (by omega) (G x hx)).2
  · exact F x 4 x v1 (fT_spell (G x hx)) rfl (mem_spell hx) P1.mv (neq (E x hx) P1.cv n1.symm) (far2 4 x (by omega) (G x hx)).2
  · have gx := G x hx
    have gy := G y hy
    rw [fT_spell gx, fT_spell gy]
    refine ⟨id, ?_⟩
    unfold cstN cstT
    by_cases e : x = y
    · rw [if_pos e, if_pos e]
    · rw [if_neg e, if_neg e, if_neg (show ¬ (x < 9 ∨ y < 9) by omega)]
/-- the distance of two texts of tokens -/
theorem lev_tok {t a0 a1 u0 v0 u1 v1 : Nat} {k0 k1 : Int} (ht : t ∈ stays) (P0 : Pair a0 k0 u0 v0) (P1 : Pair a1 k1 u1 v1) (hne : a0 ≠ a1) (n : Nat) (a b : List Nat) (m : Int) (ha : a.length ≤ 40) (hb : b.length ≤ 40) (ma : ∀ x ∈ a ++ b, x ∈ toks) :
    callF (n + 2) "_levenshtein_distance" [.str (ofL (a.map (fT t u0 v0 u1 v1))), .str (ofL (b.map (fT t u0 v0 u1 v1))), .int m] = some (.int (levP (cstT k0 k1) a b m)) := by
  have K := tok_ok ht P0 P1 hne
  have hm : ∀ x ∈ toks, fT t u0 v0 u1 v1 x ∈ allSigns := fun x hx => by
    unfold toks at hx
    simp only [List.mem_append, List.mem_cons, List.not_mem_nil, or_false] at hx
    rcases hx with (rfl | rfl | rfl | rfl | rfl) | h
    · exact mem_stay ht
    · exact P0.mu
    · exact P0.mv
    · exact P1.mu
    · exact P1.mv
    · have hs := List.all_eq_true.1 cls_spell x h
      simp only [Bool.and_eq_true, beq_iff_eq, decide_eq_true_eq] at hs
      rw [fT_spell hs.2]
      exact mem_spell h
  rw [c_lev n _ _ m (by simpa using ha) (by simpa using hb) (fun x hx => by
    rw [← List.map_append] at hx
    obtain ⟨y, hy, rfl⟩ := List.mem_map.1 hx
    exact okS_all (hm y (ma y hy)))]
  rw [levP_map (fT t u0 v0 u1 v1) (cstT k0 k1) cstS m a b (fun x hx y hy => (K x (ma x hx) y (ma y hy)).1) (fun x hx y hy => by
    rw [cstS_eq (hm x (ma x hx)) (hm y (ma y hy))]
    exact (K x (ma x hx) y (ma y hy)).2)]
end Mine
end
section
set_option maxRecDepth 20000
namespace Mine
open PySem

noncomputable def signs7 : List Nat := [38, 60, 62, 34, 13, 10, 9]
noncomputable def sp (way c : Nat) : List Nat := escL (escPairs way) [c]
noncomputable def gapP (a b : List Nat) : Nat := 2 * (max a.length b.length - cpre a b - min (cpre a.reverse b.reverse) (min a.length b.length - cpre a b))
/-- told as asked, below the bounds 2, 3, 4 and with the price itself -/
noncomputable def okOne (k0 k1 : Int) (a b : List Nat) (price : Int) : Bool :=
  let told := fun m => levP (cstT k0 k1) a b m
  (let r := told 1; r == price || (decide (2 ≤ price) && r == 2)) && (let r := told 2; r == price || (decide (3 ≤ price) && r == 3)) && (let r := told 3; r == price || (decide (4 ≤ price) && r == 4)) && told price == price
noncomputable def okPair (s s' : List Nat) (g : Nat) : Bool :=
  [1, 2].all fun (k0 : Nat) => [1, 2].all fun (k1 : Nat) => [0, 1].all fun (d0 : Nat) => [0, 1].all fun (d1 : Nat) =>
    okOne k0 k1 (0 :: s ++ [1, 3]) (0 :: s' ++ [1 + d0, 3 + d1]) ((k0 * d0 + k1 * d1 + g : Nat) : Int)
noncomputable def pairWay (w : Nat) : Bool := signs7.all fun c => signs7.all fun c' => okPair (sp w c) (sp w c') (gapP (sp w c) (sp w c'))
theorem pair_0 : pairWay 0 = true := by kernel_rfl
theorem pair_1 : pairWay 1 = true := by kernel_rfl
theorem pair_2 : pairWay 2 = true := by kernel_rfl
theorem pair_3 : pairWay 3 = true := by kernel_rfl
theorem pair_4 : pairWay 4 = true := by kernel_rfl
theorem sp_fin : ((List.range 5).all fun w => signs7.all fun c => (sp w c).all (fun x => spellSigns.contains x && decide (9 ≤ x)) && decide ((sp w c).length ≤ 6)) = true := by kernel_rfl
theorem gap_sym : ((List.range 5).all fun w => signs7.all fun c => signs7.all fun c' => gapP (sp w c) (sp w c') == gapP (sp w c') (sp w c)) = true := by kernel_rfl
theorem gap_self (s : List Nat) : gapP s s = 0 := by
  have h : ∀ s : List Nat, cpre s s = s.length := fun s => by
    induction s with
    | nil => rfl
    | cons x r ih => simp [cpre, ih]
  unfold gapP
  rw [h s]; simp
end Mine
end
section
set_option maxRecDepth 20000
namespace Mine
open PySem

noncomputable def letter (a f : Nat) (b : Bool) : Nat := if b then bigOf a f else smallAt a
noncomputable def dif (x y : Bool) : Nat := if x = y then 0 else 1
noncomputable def pageL (t : Nat) (s : List Nat) (u v : Nat) : List Nat := t :: s ++ [u, v]
/-- what the distance tells under a bound, one more than the greatest cost -/
noncomputable def Tells (T : Int → Int) (price : Int) : Prop := T price = price ∧ ∀ b : Nat, 2 ≤ b → b ≤ 4 → T ((b : Int) - 1) = price ∨ ((b : Int) ≤ price ∧ T ((b : Int) - 1) = b)
theorem letter_pair {a f : Nat} (h : a < 15) (hf : f < 20) (x : Bool) : Pair a (costOf f) (letter a f x) (letter a f (!x)) := by
  cases x
  · exact (pair_of h hf).1
  · exact (pair_of h hf).2
theorem two_four {b : Nat} (hb : 2 ≤ b) (hb' : b ≤ 4) : b = 2 ∨ b = 3 ∨ b = 4 := (Nat.eq_or_lt_of_le hb).imp Eq.symm fun h => (Nat.eq_or_lt_of_le h).imp Eq.symm fun h => Nat.le_antisymm hb' h
theorem tells_of {k0 k1 : Int} {a b : List Nat} {price : Int} (h : okOne k0 k1 a b price = true) : Tells (fun m => levP (cstT k0 k1) a b m) price := by
  unfold okOne at h
  simp only [Bool.and_eq_true, Bool.or_eq_true, beq_iff_eq, decide_eq_true_eq] at h
  obtain ⟨⟨⟨h1, h2⟩, h3⟩, h4⟩ := h
  refine ⟨h4, fun b hb hb' => ?_⟩
  have : b = 2 ∨ b = 3 ∨ b = 4 := two_four hb hb'
  rcases this with rfl | rfl | rfl
  · exact h1
  · exact h2
  · exact h3
theorem sp_ok {w c : Nat} (hw : w < 5) (hc : c ∈ signs7) : (∀ x ∈ sp w c, x ∈ spellSigns ∧ 9 ≤ x) ∧ (sp w c).length ≤ 6 := by
  have h := List.all_eq_true.1 (List.all_eq_true.1 sp_fin w (List.mem_range.2 hw)) c hc
  simp only [Bool.and_eq_true, List.all_eq_true, decide_eq_true_eq, List.contains_iff_mem] at h
  exact h
theorem pair_ok {w c c' : Nat} (hw : w < 5) (hc : c ∈ signs7) (hc' : c' ∈ signs7) : okPair (sp w c) (sp w c') (gapP (sp w c) (sp w c')) = true := by
  have h : pairWay w = true := lt5 (p := fun w => pairWay w = true) pair_0 pair_1 pair_2 pair_3 pair_4 w hw
  exact List.all_eq_true.1 (List.all_eq_true.1 h c hc) c' hc'
theorem cost_mem (f : Nat) : costOf f ∈ [1, 2] := by unfold costOf; split <;> simp
theorem dif_mem (x y : Bool) : dif x y ∈ [0, 1] := by cases x <;> cases y <;> decide
theorem tok_fin : ((List.range 5).all fun w => signs7.all fun c => [0, 1].all fun d0 => [0, 1].all fun d1 => (0 :: sp w c ++ [1 + d0, 3 + d1]).all (fun x => toks.contains x) && decide ((0 :: sp w c ++ [1 + d0, 3 + d1]).length ≤ 40)) = true := by kernel_rfl
theorem tok_at {w c d0 d1 : Nat} (hw : w < 5) (hc : c ∈ signs7) (h0 : d0 ∈ [0, 1]) (h1 : d1 ∈ [0, 1]) : (∀ x ∈ 0 :: sp w c ++ [1 + d0, 3 + d1], x ∈ toks) ∧ (0 :: sp w c ++ [1 + d0, 3 + d1]).length ≤ 40 := by
  have h := List.all_eq_true.1 (List.all_eq_true.1 (List.all_eq_true.1 (List.all_eq_true.1 tok_fin w (List.mem_range.2 hw)) c hc) d0 h0) d1 h1
  have h := both_true h
  exact ⟨fun x hx => List.contains_iff_mem.1 (List.all_eq_true.1 h.1 x hx), of_decide_eq_true h.2⟩
theorem either {P : Nat → Prop} {a b : List Nat} (ha : ∀ x ∈ a, P x) (hb : ∀ x ∈ b, P x) : ∀ x ∈ a ++ b, P x := fun x hx => (List.mem_append.1 hx).elim (ha x) (hb x)
theorem page_lev {t a0 a1 f0 f1 w c c' : Nat} (ht : t ∈ stays) (h0 : a0 < 15) (h1 : a1 < 15) (hf0 : f0 < 20) (hf1 : f1 < 20) (hne : a0 ≠ a1) (hw : w < 5) (hc : c ∈ signs7) (hc' : c' ∈ signs7) (x0 y0 x1 y1 : Bool) (n : Nat) :
    ∃ T : Int → Int, Tells T ((costOf f0 * dif x0 y0 + costOf f1 * dif x1 y1 + gapP (sp w c) (sp w c') : Nat) : Int) ∧
      ∀ m, callF (n + 2) "_levenshtein_distance" [.str (ofL (pageL t (sp w c) (letter a0 f0 x0) (letter a1 f1 x1))), .str (ofL (pageL t (sp w c') (letter a0 f0 y0) (letter a1 f1 y1))), .int m] = some (.int (T m)) := by
  have ok := pair_ok hw hc hc'
  have s1 := sp_ok hw hc
  have s2 := sp_ok hw hc'
  unfold okPair at ok
  have ok := List.all_eq_true.1 (List.all_eq_true.1 (List.all_eq_true.1 (List.all_eq_true.1 ok (costOf f0) (cost_mem f0)) (costOf f1) (cost_mem f1)) (dif x0 y0) (dif_mem x0 y0)) (dif x1 y1) (dif_mem x1 y1)
  refine ⟨_, tells_of ok, fun m => ?_⟩
  have fm : ∀ (s : List Nat), (∀ x ∈ s, x ∈ spellSigns ∧ 9 ≤ x) → ∀ t u0 v0 u1 v1, s.map (fT t u0 v0 u1 v1) = s := fun s hs t u0 v0 u1 v1 => by
    have : s.map (fT t u0 v0 u1 v1) = s.map id := List.map_congr_left fun x hx => fT_spell (hs x hx).2
    rw [this, List.map_id]
  have K1 := tok_at hw hc (d0 := 0) (d1 := 0) (by decide) (by decide)
  have K2 := tok_at hw hc' (dif_mem x0 y0) (dif_mem x1 y1)
  have L := lev_tok ht (letter_pair h0 hf0 x0) (letter_pair h1 hf1 x1) hne n (0 :: sp w c ++ [1, 3]) (0 :: sp w c' ++ [1 + dif x0 y0, 3 + dif x1 y1]) m K1.2 K2.2 (either K1.1 K2.1)
  have e1 : (0 :: sp w c ++ [1, 3]).map (fT t (letter a0 f0 x0) (letter a0 f0 (!x0)) (letter a1 f1 x1) (letter a1 f1 (!x1))) = pageL t (sp w c) (letter a0 f0 x0) (letter a1 f1 x1) := by
    simp only [List.cons_append, List.map_cons, List.map_append, List.map_nil, fm _ s1.1]
    rfl
  have e2 : (0 :: sp w c' ++ [1 + dif x0 y0, 3 + dif x1 y1]).map (fT t (letter a0 f0 x0) (letter a0 f0 (!x0)) (letter a1 f1 x1) (letter a1 f1 (!x1))) = pageL t (sp w c') (letter a0 f0 y0) (letter a1 f1 y1) := by
    simp only [List.cons_append, List.map_cons, List.map_append, List.map_nil, fm _ s2.1]
    cases x0 <;> cases y0 <;> cases x1 <;> cases y1 <;> rfl
  rw [e1, e2] at L
  exact L

/-- the closing texts -/
noncomputable def nearT (t q s : Nat) : List (List Nat × Int) := [([q, s, t], 4), ([t, t, q, s], 2), ([t, s], 2), ([q], 4)]
noncomputable def nearOk (k0 k1 : Int) (q : Nat) : Bool :=
  (nearT 0 q 1).all fun p => levP (cstT k0 k1) [0, q, 1] p.1 p.2 == p.2 && levP (cstT k0 k1) p.1 [0, q, 1] p.2 == p.2
theorem near_fin : (signs7.all fun q => [1, 2].all fun (k0 : Nat) => [1, 2].all fun (k1 : Nat) => nearOk k0 k1 q) = true := by kernel_rfl
theorem near_tok : (signs7.all fun q => (nearT 0 q 1).all fun p => p.1.all (fun x => toks.contains x) && decide (p.1.length ≤ 40)) = true := by kernel_rfl
theorem near_self : (signs7.all fun q => [0, q, 1].all (fun x => toks.contains x) && decide (9 ≤ q)) = true := by kernel_rfl
theorem near_lev {t a0 a1 f0 f1 q : Nat} (ht : t ∈ stays) (h0 : a0 < 15) (h1 : a1 < 15) (hf0 : f0 < 20) (hf1 : f1 < 20) (hne : a0 ≠ a1) (hq : q ∈ signs7) (n : Nat) (p : List Nat × Int) (hp : p ∈ nearT t q (smallAt a0)) :
    callF (n + 2) "_levenshtein_distance" [.str (ofL [t, q, smallAt a0]), .str (ofL p.1), .int p.2] = some (.int p.2) ∧ callF (n + 2) "_levenshtein_distance" [.str (ofL p.1), .str (ofL [t, q, smallAt a0]), .int p.2] = some (.int p.2) := by
  have N := List.all_eq_true.1 (List.all_eq_true.1 (List.all_eq_true.1 near_fin q hq) (costOf f0) (cost_mem f0)) (costOf f1) (cost_mem f1)
  obtain ⟨t1, h9⟩ := both_true (List.all_eq_true.1 near_self q hq)
  have t1 : ∀ x ∈ [0, q, 1], x ∈ toks := fun x hx => List.contains_iff_mem.1 (List.all_eq_true.1 t1 x hx)
  have fq := fT_spell (t := t) (u0 := letter a0 f0 false) (v0 := letter a0 f0 (!false)) (u1 := letter a1 f1 false) (v1 := letter a1 f1 (!false)) (of_decide_eq_true h9)
  have e : [0, q, 1].map (fT t (letter a0 f0 false) (letter a0 f0 (!false)) (letter a1 f1 false) (letter a1 f1 (!false))) = [t, q, smallAt a0] := by
    rw [List.map_cons, List.map_cons, fq]
    rfl
  have hm : nearT t q (smallAt a0) = (nearT 0 q 1).map fun p => (p.1.map (fT t (letter a0 f0 false) (letter a0 f0 (!false)) (letter a1 f1 false) (letter a1 f1 (!false))), p.2) := by
    unfold nearT
    simp only [List.map_cons, List.map_nil, fq]
    rfl
  rw [hm] at hp
  obtain ⟨p', hp', rfl⟩ := List.mem_map.1 hp
  obtain ⟨m1, m2⟩ := both_true (List.all_eq_true.1 N p' hp')
  obtain ⟨t2, l2⟩ := both_true (List.all_eq_true.1 (List.all_eq_true.1 near_tok q hq) p' hp')
  have t2 : ∀ x ∈ p'.1, x ∈ toks := fun x hx => List.contains_iff_mem.1 (List.all_eq_true.1 t2 x hx)
  have A := lev_tok ht (letter_pair h0 hf0 false) (letter_pair h1 hf1 false) hne n [0, q, 1] p'.1 p'.2 (by show 3 ≤ 40; decide) (of_decide_eq_true l2) (either t1 t2)
  have B := lev_tok ht (letter_pair h0 hf0 false) (letter_pair h1 hf1 false) hne n p'.1 [0, q, 1] p'.2 (of_decide_eq_true l2) (by show 3 ≤ 40; decide) (either t2 t1)
  rw [eq_of_beq m1, e] at A
  rw [eq_of_beq m2, e] at B
  exact ⟨A, B⟩
end Mine
end
section
set_option maxRecDepth 20000
namespace Mine
open PySem

theorem c_b1 (n c : Nat) : callF (n + 1) "in_table_b1" [.str (ofL [c])] = some (.bool (b1.contains c)) := by kernel_rfl
/-- the table and a rising list of asks are walked once, side by side -/
noncomputable def chk : List (Int × Str) → List (Nat × Nat) → Bool
  | [], q => q.isEmpty
  | (k, s) :: l, q => match q with
    | [] => true
    | (c, d) :: r => if k = (c : Int) then s.cps.toList == [d] && chk l r else decide (k < (c : Int)) && chk l ((c, d) :: r)
noncomputable def srt : Nat → List (Nat × Nat) → Bool
  | _, [] => true
  | b, q :: r => decide (b < q.1) && srt q.1 r
theorem srt_lt : ∀ {l : List (Nat × Nat)} {b : Nat}, srt b l = true → ∀ q ∈ l, b < q.1
  | [], _, _, _, h => nomatch h
  | p :: r, b, h, q, hq => by
    simp only [srt, Bool.and_eq_true, decide_eq_true_eq] at h
    rcases List.mem_cons.1 hq with rfl | hq
    · exact h.1
    · exact Nat.lt_trans h.1 (srt_lt h.2 q hq)
theorem look_cons {k : Int} {s : Str} {l : List (Int × Str)} {c : Nat} (h : k ≠ (c : Int)) : List.lookup (c : Int) ((k, s) :: l) = l.lookup (c : Int) := by
  have : ((c : Int) == k) = false := by rw [beq_eq_false_iff_ne]; exact fun e => h e.symm
  rw [List.lookup_cons, this]
theorem chk_ok : ∀ {l : List (Int × Str)} {qs : List (Nat × Nat)} {b : Nat}, chk l qs = true → srt b qs = true → ∀ q ∈ qs, l.lookup (q.1 : Int) = some (ofL [q.2])
  | [], qs, _, h, _, q, hq => by
    unfold chk at h
    rw [List.isEmpty_iff.1 h] at hq; cases hq
  | (k, s) :: l, [], _, _, _, q, hq => nomatch hq
  | (k, s) :: l, (c, d) :: r, b, h, hs, q, hq => by
    unfold chk at h
    have hs' := hs
    simp only [srt, Bool.and_eq_true, decide_eq_true_eq] at hs'
    by_cases e : k = (c : Int)
    · simp only [if_pos e, Bool.and_eq_true] at h
      rcases List.mem_cons.1 hq with rfl | hq
      · rw [e, List.lookup_cons, beq_self_eq_true, ← ofL_self s, eq_of_beq h.1]
      · have : c < q.1 := srt_lt hs'.2 q hq
        rw [look_cons (by omega)]
        exact chk_ok h.2 hs'.2 q hq
    · simp only [if_neg e, Bool.and_eq_true, decide_eq_true_eq] at h
      have : c ≤ q.1 := by
        rcases List.mem_cons.1 hq with rfl | hq
        · exact Nat.le_refl _
        · exact Nat.le_of_lt (srt_lt hs'.2 q hq)
      rw [look_cons (by omega)]
      exact chk_ok h.2 hs q hq
noncomputable def asks : List (Nat × Nat) := (List.range 10).flatMap fun j => (List.range 15).map fun a => (bigOf a (10 + j), smallAt a)
theorem b3_rise : (srt 0 asks && chk b3 asks) = true := by kernel_rfl
theorem b3_high : (b3.all fun p => decide ((128 : Int) ≤ p.1)) = true := by kernel_rfl
theorem b3_stays : (stays.all fun c => (b3.lookup (c : Int)).isNone) = true := by kernel_rfl
theorem b3_math {a f : Nat} (ha : a < 15) (h1 : 10 ≤ f) (hf : f < 20) : b3.lookup (bigOf a f : Int) = some (ofL [smallAt a]) := by
  have h := b3_rise
  simp only [Bool.and_eq_true] at h
  refine chk_ok h.2 h.1 (bigOf a f, smallAt a) ?_
  unfold asks
  rw [List.mem_flatMap]
  exact ⟨f - 10, List.mem_range.2 (by omega), List.mem_map.2 ⟨a, List.mem_range.2 ha, by rw [show 10 + (f - 10) = f by omega]⟩⟩
theorem b3_none {c : Nat} (h : c < 128) : b3.lookup (c : Int) = none := by
  have : ∀ {l : List (Int × Str)}, (l.all fun p => decide ((128 : Int) ≤ p.1)) = true → l.lookup (c : Int) = none := fun {l} => by
    induction l with
    | nil => exact fun _ => rfl
    | cons p r ih =>
      intro hl
      simp only [List.all_cons, Bool.and_eq_true, decide_eq_true_eq] at hl
      obtain ⟨k, s⟩ := p
      rw [look_cons (by have := hl.1; simp only at this; omega)]
      exact ih hl.2
  exact this b3_high
theorem c_b3 (n c : Nat) : callF (n + 1) "map_table_b3" [.str (ofL [c])] = (match b3.lookup (c : Int) with | some s => some (.str s) | none => if (Txt.lower (ofL [c])).length ≤ big then some (.str (Txt.lower (ofL [c]))) else none) := by kernel_rfl
theorem c_low {c d : Nat} (h : b3.lookup (c : Int) = none) (hl : Txt.lower (ofL [c]) = ofL [d]) (n : Nat) : callF (n + 1) "map_table_b3" [.str (ofL [c])] = some (.str (ofL [d])) := by
  rw [c_b3, h, hl]
  exact if_pos (by rw [ofL_len]; show 1 ≤ big; decide)
theorem c_b3_letter (n : Nat) {a f : Nat} (ha : a < 15) (hf : f < 20) (b : Bool) : callF (n + 1) "map_table_b3" [.str (ofL [letter a f b])] = some (.str (ofL [smallAt a])) := by
  have hr := List.all_eq_true.1 cls_rec a (List.mem_range.2 ha)
  simp only [Bool.and_eq_true, List.all_eq_true, List.mem_range, beq_iff_eq, decide_eq_true_eq] at hr
  obtain ⟨⟨⟨_, h2⟩, h3⟩, h4⟩ := hr
  cases b
  · show callF (n + 1) "map_table_b3" [.str (ofL [smallAt a])] = _
    exact c_low (b3_none h3) (by rw [low_one (mem_small ha), h2]) n
  · show callF (n + 1) "map_table_b3" [.str (ofL [bigOf a f])] = _
    by_cases g : f < 10
    · have h6 := (h4 f hf).2
      rw [if_pos g] at h6
      exact c_low (b3_none (by unfold bigOf; rw [if_pos g]; omega)) (by rw [low_one (mem_big ha hf), eq_of_beq h6]) n
    · rw [c_b3, b3_math ha (by omega) hf]
theorem c_b3_stay (n : Nat) {t : Nat} (h : t ∈ stays) : callF (n + 1) "map_table_b3" [.str (ofL [t])] = some (.str (ofL [t])) := by
  have hs := List.all_eq_true.1 cls_stay t h
  simp only [Bool.and_eq_true, beq_iff_eq] at hs
  exact c_low (Option.isNone_iff_eq_none.1 (List.all_eq_true.1 b3_stays t h)) (by rw [low_one (mem_stay h), hs.2]) n
theorem sign_low : (signs7.all fun c => decide (c < 128) && spellSigns.contains c && low c == c) = true := by kernel_rfl
theorem c_b3_sign (n : Nat) {t : Nat} (h : t ∈ signs7) : callF (n + 1) "map_table_b3" [.str (ofL [t])] = some (.str (ofL [t])) := by
  have hs := List.all_eq_true.1 sign_low t h
  simp only [Bool.and_eq_true, beq_iff_eq, decide_eq_true_eq, List.contains_iff_mem] at hs
  exact c_low (b3_none hs.1.1) (by rw [low_one (mem_spell hs.1.2), hs.2]) n
theorem b1_rec : ((List.range 15).all fun a => !b1.contains (smallAt a) && (List.range 20).all fun f => !b1.contains (bigOf a f)) = true := by kernel_rfl
theorem b1_stay : (stays.all fun c => !b1.contains c) = true := by kernel_rfl
theorem b1_sign : (signs7.all fun c => !b1.contains c) = true := by kernel_rfl
theorem b1_letter {a f : Nat} (ha : a < 15) (hf : f < 20) (b : Bool) : b1.contains (letter a f b) = false := by
  have h := List.all_eq_true.1 b1_rec a (List.mem_range.2 ha)
  simp only [Bool.and_eq_true, List.all_eq_true, List.mem_range, Bool.not_eq_true'] at h
  cases b
  · exact h.1
  · exact h.2 f hf
theorem b1_stay' {t : Nat} (h : t ∈ stays) : b1.contains t = false := by simpa using List.all_eq_true.1 b1_stay t h
theorem b1_sign' {t : Nat} (h : t ∈ signs7) : b1.contains t = false := by simpa using List.all_eq_true.1 b1_sign t h
/-- which signs an escape leaves -/
theorem esc_leaves : ((List.range 5).all fun w => letterSigns.all fun c => (escPairs w).all fun p => p.1 != c) = true := by kernel_rfl
theorem esc_leaves' : ((List.range 5).all fun w => stays.all fun c => (escPairs w).all fun p => p.1 != c) = true := by kernel_rfl
theorem sp_other {w c : Nat} (h : ((escPairs w).all fun p => p.1 != c) = true) : sp w c = [c] := by
  refine escL_other _ _ fun p hp => ?_
  simpa using List.all_eq_true.1 h p hp
theorem sp_stay {w t : Nat} (hw : w < 5) (h : t ∈ stays) : sp w t = [t] := sp_other (List.all_eq_true.1 (List.all_eq_true.1 esc_leaves' w (List.mem_range.2 hw)) t h)
theorem mem_letter {a f : Nat} (ha : a < 15) (hf : f < 20) (b : Bool) : letter a f b ∈ letterSigns := by
  unfold letterSigns
  simp only [List.mem_flatMap, List.mem_range, List.mem_cons]
  cases b
  · exact ⟨a, ha, .inl rfl⟩
  · exact ⟨a, ha, .inr (List.mem_map.2 ⟨f, List.mem_range.2 hf, rfl⟩)⟩
theorem sp_letter {w a f : Nat} (hw : w < 5) (ha : a < 15) (hf : f < 20) (b : Bool) : sp w (letter a f b) = [letter a f b] := sp_other (List.all_eq_true.1 (List.all_eq_true.1 esc_leaves w (List.mem_range.2 hw)) _ (mem_letter ha hf b))
theorem escL_page {w t q a0 f0 a1 f1 : Nat} (hw : w < 5) (ht : t ∈ stays) (h0 : a0 < 15) (g0 : f0 < 20) (h1 : a1 < 15) (g1 : f1 < 20) (x y : Bool) : escL (escPairs w) [t, q, letter a0 f0 x, letter a1 f1 y] = pageL t (sp w q) (letter a0 f0 x) (letter a1 f1 y) := by
  rw [escL_flat]
  simp only [List.flatMap_cons, List.flatMap_nil]
  have e1 := sp_stay hw ht
  have e2 := sp_letter hw h0 g0 x
  have e3 := sp_letter hw h1 g1 y
  unfold sp at e1 e2 e3
  rw [e1, e2, e3]
  simp [pageL, sp]
noncomputable def fits61 : List (Nat × Str) → List Nat → Bool
  | [], l => decide (l.length ≤ 61)
  | p :: r, l => decide (l.length ≤ 61) && fits61 r (swapS p.1 p.2.cps.toList l)
theorem fits_page : ∀ (cs : List (Nat × Str)) (l : List Nat) (t u v : Nat), (∀ p ∈ cs, p.1 ≠ t ∧ p.1 ≠ u ∧ p.1 ≠ v) → fits61 cs l = true → escFits cs (t :: l ++ [u, v]) = true
  | [], l, t, u, v, _, h => by
    simp only [fits61, decide_eq_true_eq] at h
    simp [escFits]; omega
  | p :: r, l, t, u, v, ho, h => by
    simp only [fits61, Bool.and_eq_true, decide_eq_true_eq] at h
    have hp := ho p (List.mem_cons_self ..)
    have e : swapS p.1 p.2.cps.toList (t :: l ++ [u, v]) = t :: swapS p.1 p.2.cps.toList l ++ [u, v] := by
      have e1 : t :: l ++ [u, v] = [t] ++ l ++ [u, v] := rfl
      rw [e1, swapS_append, swapS_append, swapS_free _ _ [t] (by simp; exact hp.1), swapS_free _ _ [u, v] (by simp; exact ⟨hp.2.1, hp.2.2⟩)]
      rfl
    unfold escFits
    rw [e, fits_page r _ t u v (fun q hq => ho q (List.mem_cons_of_mem _ hq)) h.2]
    simp; omega
theorem fits_fin : ((List.range 5).all fun w => signs7.all fun q => fits61 (escPairs w) [q]) = true := by kernel_rfl
/-- the page that an escape writes -/
theorem c_hand {w t q a0 f0 a1 f1 : Nat} (hw : w < 5) (ht : t ∈ stays) (hq : q ∈ signs7) (h0 : a0 < 15) (g0 : f0 < 20) (h1 : a1 < 15) (g1 : f1 < 20) (x y : Bool) (n : Nat) :
    callF (n + 1) (escName w) [.str (ofL [t, q, letter a0 f0 x, letter a1 f1 y])] = some (.str (ofL (pageL t (sp w q) (letter a0 f0 x) (letter a1 f1 y)))) := by
  have k1 := List.all_eq_true.1 (List.all_eq_true.1 esc_leaves' w (List.mem_range.2 hw)) t ht
  have k2 := List.all_eq_true.1 (List.all_eq_true.1 esc_leaves w (List.mem_range.2 hw)) _ (mem_letter h0 g0 x)
  have k3 := List.all_eq_true.1 (List.all_eq_true.1 esc_leaves w (List.mem_range.2 hw)) _ (mem_letter h1 g1 y)
  have F := fits_page (escPairs w) [q] t (letter a0 f0 x) (letter a1 f1 y) (fun p hp => ⟨by simpa using List.all_eq_true.1 k1 p hp, by simpa using List.all_eq_true.1 k2 p hp, by simpa using List.all_eq_true.1 k3 p hp⟩)
    (List.all_eq_true.1 (List.all_eq_true.1 fits_fin w (List.mem_range.2 hw)) q hq)
  obtain ⟨s, hs, e⟩ := call_esc w hw n (ofL [t, q, letter a0 f0 x, letter a1 f1 y]) (by rw [ofL_cps]; exact F)
  rw [hs, ← ofL_self s, e, ofL_cps, escL_page hw ht h0 g0 h1 g1]
end Mine
end
section
set_option maxRecDepth 20000
namespace Mine
open PySem

noncomputable def EV.isComp (y : Str) {e : Expr} : EV e → Bool
  | .comp _ x _ _ _ _ _ => x == y
  | _ => false
noncomputable def isComp (e : Expr) (y : Str) : Bool := (view e).isComp y
theorem r_comp {X : Cx} {n : Nat} {e : Expr} {σ : Sg} {v : V} {xs ys : List V} (x : Str) (hs : isComp e x = true) (hok : (compOk X x (cSc e) && decide ((cIfs e).length ≤ 1)) = true) (hit : ev X n (cIter e) σ = some v) (hi : v.items = some xs) (hb : xs.length ≤ big)
    (hc : compL (fun v => tsts (compCx X (cSc e)) n (cIfs e) (compSg σ x (cSc e) v)) (fun v => ev (compCx X (cSc e)) n (cElt e) (compSg σ x (cSc e) v)) xs = some ys) : ev X (n + 1) e σ = some (.lst ys) := by
  unfold isComp at hs
  generalize view e = w at hs
  induction w <;> try (exact Bool.noConfusion hs)
  rename_i elt x' p it fs sc q
  have e1 := eq_of_beq hs
  subst e1
  have he : ev X (n + 1) (.ListComp elt [⟨.Name x' p, it, fs, 0⟩] sc q) σ = if compOk X x' sc && fs.length ≤ 1 then
        (ev X n it σ).bind fun it => it.items.bind fun xs => if xs.length ≤ big then
          (compL (fun v => tsts (compCx X sc) n fs (compSg σ x' sc v)) (fun v => ev (compCx X sc) n elt (compSg σ x' sc v)) xs).map .lst else none
      else none := rfl
  have hit' : ev X n it σ = some v := hit
  have hc' : compL (fun v => tsts (compCx X sc) n fs (compSg σ x' sc v)) (fun v => ev (compCx X sc) n elt (compSg σ x' sc v)) xs = some ys := hc
  have hok' : (compOk X x' sc && decide (fs.length ≤ 1)) = true := hok
  rw [he, if_pos hok', hit', Option.bind_some, hi, Option.bind_some, if_pos hb, hc']
  rfl
/-- a comprehension's turns, told one by one -/
theorem compL_all {α : Type} {test : V → Option Bool} {elt : V → Option V} (w : α → V) (t : α → Bool) (g : α → V) : ∀ l : List α, (∀ a ∈ l, (w a).scalar = true ∧ test (w a) = some (t a) ∧ (t a = true → elt (w a) = some (g a) ∧ (g a).flat = true)) → compL test elt (l.map w) = some ((l.filter t).map g)
  | [], _ => rfl
  | a :: r, h => by
    have ih := compL_all w t g r fun b hb => h b (List.mem_cons_of_mem _ hb)
    obtain ⟨h1, h2, h3⟩ := h a (List.mem_cons_self ..)
    rw [List.map_cons]
    unfold compL
    rw [if_pos h1, h2, Option.bind_some]
    cases ht : t a with
    | false => rw [if_neg (by simp), ih, List.filter_cons_of_neg (by simp [ht])]
    | true =>
      obtain ⟨h4, h5⟩ := h3 ht
      rw [if_pos rfl, h4, Option.bind_some, if_pos h5, ih, List.filter_cons_of_pos ht]
      rfl
theorem items_lst (xs : List V) : V.items (.lst xs) = some xs := rfl
theorem items_own (xs : List V) : V.items (.own xs) = some xs := rfl
theorem items_six : V.items (.rng 0 6 1) = some ((List.range 6).map fun k : Nat => V.int k) := by kernel_rfl
theorem items_four : V.items (.rng 0 4 1) = some ((List.range 4).map fun k : Nat => V.int k) := by kernel_rfl

/-! the cells -/
theorem cells_call (n : Nat) (xs : List Int) (hl : xs.length ≤ 63) : callF (n + 1) "_law_cells" [.lst (xs.map .int)] = some (.lst ((List.range 6).map fun k => .int (cellAt xs k))) := by
  have len : (fdAt 31).body.length = 2 := by kernel_rfl
  have hlen : blt "len" [.lst (xs.map V.int)] = some (.int xs.length) := by
    have e : blt "len" [.lst (xs.map V.int)] = if (xs.map V.int).length ≤ big then some (.int (xs.map V.int).length) else none := rfl
    rw [e, List.length_map, if_pos (by unfold big; omega)]
  generalize hT : start (fdAt 31).params [.lst (xs.map .int)] = T
  have h0 : ex (cxOf (fdAt 31) (callF n)) 299 (nth (fdAt 31).body 0) T = some (.next, upd T "rest" (.lst (rest6.map .int))) := by subst hT; kernel_rfl
  have h1 : ex (cxOf (fdAt 31) (callF n)) 298 (nth (fdAt 31).body 1) (upd T "rest" (.lst (rest6.map .int))) = some (.ret (.lst ((List.range 6).map fun k => .int (cellAt xs k))), upd T "rest" (.lst (rest6.map .int))) := by
    refine r_ret (by kernel_rfl) ?_
    refine r_comp "k" (v := .rng 0 6 1) (by kernel_rfl) (by kernel_rfl) (by kernel_rfl) items_six (by decide) ?_
    have H := compL_all (test := fun v => tsts (compCx (cxOf (fdAt 31) (callF n)) (cSc (sVal (nth (fdAt 31).body 1)))) 296 (cIfs (sVal (nth (fdAt 31).body 1))) (compSg (upd T "rest" (.lst (rest6.map .int))) "k" (cSc (sVal (nth (fdAt 31).body 1))) v))
      (elt := fun v => ev (compCx (cxOf (fdAt 31) (callF n)) (cSc (sVal (nth (fdAt 31).body 1)))) 296 (cElt (sVal (nth (fdAt 31).body 1))) (compSg (upd T "rest" (.lst (rest6.map .int))) "k" (cSc (sVal (nth (fdAt 31).body 1))) v))
      (fun k : Nat => V.int k) (fun _ => true) (fun k => .int (cellAt xs k)) (List.range 6) (fun k hk => by
        refine ⟨rfl, by kernel_rfl, fun _ => ⟨?_, rfl⟩⟩
        have hk := List.mem_range.1 hk
        subst hT
        have h : ev (compCx (cxOf (fdAt 31) (callF n)) (cSc (sVal (nth (fdAt 31).body 1)))) 296 (cElt (sVal (nth (fdAt 31).body 1))) (compSg (upd (start (fdAt 31).params [.lst (xs.map .int)]) "rest" (.lst (rest6.map .int))) "k" (cSc (sVal (nth (fdAt 31).body 1))) (.int k)) =
          (((blt "len" [.lst (xs.map .int)]).bind fun b => cmp .Lt (.int k) b).bind truth).bind fun c => if c then ((item (.lst (xs.map .int)) (.int k)).bind fun a => bin .Mod a (.int 1000000)) else item (.lst (rest6.map .int)) (.int k) := by kernel_rfl
        rw [h, hlen, Option.bind_some]
        show (some (decide ((k : Int) < (xs.length : Int)))).bind _ = _
        rw [Option.bind_some]
        have hsm : (decide ((0 : Int) ≤ k) && smallI k) = true := by rw [smallI_nat k (by omega)]; simp
        have hi : ∀ l : List Int, item (.lst (l.map .int)) (.int k) = (l.map V.int)[k]? := fun l => by
          show (if decide ((0 : Int) ≤ k) && smallI k then (l.map V.int)[(k : Int).toNat]? else none) = _
          rw [if_pos hsm, Int.toNat_natCast]
        rw [hi, hi]
        unfold cellAt
        by_cases hx : k < xs.length
        · rw [if_pos hx, decide_eq_true (by omega), if_pos rfl]
          have : (xs.map V.int)[k]? = some (.int (xs.getD k 0)) := by simp [hx]
          rw [this]
          rfl
        · rw [if_neg hx, decide_eq_false (by omega), if_neg (by simp)]
          have : ∀ k < 6, (rest6.map V.int)[k]? = some (.int (rest6.getD k 0)) := by
            intro k hk
            match k, hk with
            | 0, _ => rfl
            | 1, _ => rfl
            | 2, _ => rfl
            | 3, _ => rfl
            | 4, _ => rfl
            | 5, _ => rfl
          exact this k hk)
    rw [List.filter_eq_self.2 (fun _ _ => rfl)] at H
    exact H
  exact r_call (by kernel_rfl) (by kernel_rfl) (by kernel_rfl) (by rw [hT]; exact r_step (by rw [len]; decide) h0 (r_last (by rw [len]; decide) h1))
end Mine
end
section
set_option maxRecDepth 20000
namespace Mine
open PySem

noncomputable def spelledOk (n w c : Nat) : Bool := match callF (n + 1) "_law_spelled" [.int w, .str (ofL [c])] with
  | some (.str s) => s.cps.toList == sp w c
  | _ => false
theorem spelled_fin (n : Nat) : ((List.range 5).all fun w => signs7.all fun c => spelledOk n w c) = true := by kernel_rfl
theorem c_spelled (n : Nat) {w c : Nat} (hw : w < 5) (hc : c ∈ signs7) : callF (n + 1) "_law_spelled" [.int w, .str (ofL [c])] = some (.str (ofL (sp w c))) := by
  have h := List.all_eq_true.1 (List.all_eq_true.1 (spelled_fin n) w (List.mem_range.2 hw)) c hc
  unfold spelledOk at h
  split at h
  · rename_i s hs
    rw [hs, ← eq_of_beq h, ofL_self]
  · exact absurd h (by simp)
noncomputable def gapOk (n w c c' : Nat) : Bool := match callF (n + 1) "_law_gap" [.str (ofL (sp w c)), .str (ofL (sp w c'))] with
  | some (.int g) => g == (gapP (sp w c) (sp w c') : Nat)
  | _ => false
theorem gap_fin (n : Nat) : ((List.range 5).all fun w => signs7.all fun c => signs7.all fun c' => gapOk n w c c') = true := by kernel_rfl
theorem c_gap (n : Nat) {w c c' : Nat} (hw : w < 5) (hc : c ∈ signs7) (hc' : c' ∈ signs7) : callF (n + 1) "_law_gap" [.str (ofL (sp w c)), .str (ofL (sp w c'))] = some (.int (gapP (sp w c) (sp w c') : Nat)) := by
  have h := List.all_eq_true.1 (List.all_eq_true.1 (List.all_eq_true.1 (gap_fin n) w (List.mem_range.2 hw)) c hc) c' hc'
  unfold gapOk at h
  split at h
  · rename_i s hs
    rw [hs, eq_of_beq h]
  · exact absurd h (by simp)
/-- the sum without carry -/
noncomputable def sumI (k : Nat) (row : List Int) : Int := (List.range row.length).foldl (fun t j => if k / 2 ^ j % 2 = 1 then Builtin.bitXor t (row.getD j 0) else t) 0
theorem lt16 {p : Nat → Prop} (h0 : p 0) (h1 : p 1) (h2 : p 2) (h3 : p 3) (h4 : p 4) (h5 : p 5) (h6 : p 6) (h7 : p 7) (h8 : p 8) (h9 : p 9) (h10 : p 10) (h11 : p 11) (h12 : p 12) (h13 : p 13) (h14 : p 14) (h15 : p 15) : ∀ k, k < 16 → p k
  | 0, _ => h0 | 1, _ => h1 | 2, _ => h2 | 3, _ => h3 | 4, _ => h4 | 5, _ => h5 | 6, _ => h6 | 7, _ => h7 | 8, _ => h8 | 9, _ => h9 | 10, _ => h10 | 11, _ => h11 | 12, _ => h12 | 13, _ => h13 | 14, _ => h14 | 15, _ => h15
  | k + 16, h => absurd (Nat.le_add_left 16 k) (Nat.not_le_of_lt h)
theorem c_sum (n k : Nat) (row : List Int) (hk : k < 16) (hr : row.length ≤ 4) : callF (n + 1) "_law_sum" [.int k, .lst (row.map .int)] = some (.int (sumI k row)) := by
  revert k
  cases row with
  | nil => refine lt16 ?_ ?_ ?_ ?_ ?_ ?_ ?_ ?_ ?_ ?_ ?_ ?_ ?_ ?_ ?_ ?_ <;> kernel_rfl
  | cons a row =>
    cases row with
    | nil => refine lt16 ?_ ?_ ?_ ?_ ?_ ?_ ?_ ?_ ?_ ?_ ?_ ?_ ?_ ?_ ?_ ?_ <;> kernel_rfl
    | cons b row =>
      cases row with
      | nil => refine lt16 ?_ ?_ ?_ ?_ ?_ ?_ ?_ ?_ ?_ ?_ ?_ ?_ ?_ ?_ ?_ ?_ <;> kernel_rfl
      | cons c row =>
        cases row with
        | nil => refine lt16 ?_ ?_ ?_ ?_ ?_ ?_ ?_ ?_ ?_ ?_ ?_ ?_ ?_ ?_ ?_ ?_ <;> kernel_rfl
        | cons d row =>
          cases row with
          | nil => refine lt16 ?_ ?_ ?_ ?_ ?_ ?_ ?_ ?_ ?_ ?_ ?_ ?_ ?_ ?_ ?_ ?_ <;> kernel_rfl
          | cons e row => exact absurd hr (Nat.not_le_of_lt (Nat.le_add_left 5 row.length))
theorem own_sum (n : Nat) (k : V) (xs : List V) : callF (n + 1) "_law_sum" [k, .own xs] = callF (n + 1) "_law_sum" [k, .lst xs] := by kernel_rfl
theorem own_contains (n : Nat) (k : V) (xs : List V) : callF (n + 1) "contains" [.own xs, k] = callF (n + 1) "contains" [.lst xs, k] := by kernel_rfl

noncomputable def SV.isApp (y k : Str) {s : Stmt} : SV s → Bool
  | .expr x _ m ap _ p _ => (ap.endLine == p.line && x == y) && m == k
  | _ => false
noncomputable def isApp (s : Stmt) (y k : Str) : Bool := (viewS s).isApp y k
noncomputable def SV.isFor {s : Stmt} : SV s → Bool
  | .each .. => true
  | _ => false
noncomputable def isFor (s : Stmt) : Bool := (viewS s).isFor
theorem ownOf_ok {X : Cx} {σ : Sg} {x : Str} {xs : List V} (hp : plainName x = true) (hk : X.K x = some .local ∨ X.K x = some .cell) (hO : X.O x = true) (hx : σ x = some (.own xs)) : ownOf X σ x = some xs := by
  unfold ownOf
  rw [if_pos ⟨hp, hk, hO⟩, hx]
theorem r_append {X : Cx} {n : Nat} {s : Stmt} {σ : Sg} {v : V} {xs : List V} (x : Str) (hs : isApp s x "append" = true) (hp : plainName x = true) (hk : X.K x = some .local ∨ X.K x = some .cell) (hO : X.O x = true) (hx : σ x = some (.own xs)) (h : evs X n (sArgs s) σ = some [v]) (hv : v.isOwn = false) (hl : xs.length ≤ big) :
    ex X (n + 1) s σ = some (.next, upd σ x (.own (xs ++ [v]))) := by
  unfold isApp at hs
  generalize viewS s = w at hs
  induction w <;> try (exact Bool.noConfusion hs)
  rename_i x' q m ap args p r
  obtain ⟨e0, e3⟩ := both_true hs
  obtain ⟨e1, e2⟩ := both_true e0
  have e2 := eq_of_beq e2
  have e3 := eq_of_beq e3
  subst e2
  have he : ex X (n + 1) (.Expr (.Call (.Attribute (.Name x' q) m ap) args [] p) r) σ = if ap.endLine == p.line then (ownOf X σ x').bind fun xs => (evs X n args σ).bind fun as => (match as with
      | [v] => if m = "append" ∧ v.isOwn = false ∧ xs.length ≤ big then some (.next, upd σ x' (.own (xs ++ [v]))) else none
      | [.int k, v] => if m = "insert" ∧ v.isOwn = false ∧ 0 ≤ k ∧ k ≤ xs.length ∧ xs.length ≤ big then some (.next, upd σ x' (.own (xs.take k.toNat ++ v :: xs.drop k.toNat))) else none
      | _ => none) else none := rfl
  have h' : evs X n args σ = some [v] := h
  rw [he, if_pos e1, ownOf_ok hp hk hO hx, Option.bind_some, h', Option.bind_some]
  exact if_pos ⟨e3, hv, hl⟩
theorem r_insert {X : Cx} {n : Nat} {s : Stmt} {σ : Sg} {v : V} {k : Nat} {xs : List V} (x : Str) (hs : isApp s x "insert" = true) (hp : plainName x = true) (hk : X.K x = some .local ∨ X.K x = some .cell) (hO : X.O x = true) (hx : σ x = some (.own xs)) (h : evs X n (sArgs s) σ = some [.int k, v]) (hv : v.isOwn = false) (hkl : k ≤ xs.length) (hl : xs.length ≤ big) :
    ex X (n + 1) s σ = some (.next, upd σ x (.own (xs.take k ++ v :: xs.drop k))) := by
  unfold isApp at hs
  generalize viewS s = w at hs
  induction w <;> try (exact Bool.noConfusion hs)
  rename_i x' q m ap args p r
  obtain ⟨e0, e3⟩ := both_true hs
  obtain ⟨e1, e2⟩ := both_true e0
  have e2 := eq_of_beq e2
  have e3 := eq_of_beq e3
  subst e2
  have he : ex X (n + 1) (.Expr (.Call (.Attribute (.Name x' q) m ap) args [] p) r) σ = if ap.endLine == p.line then (ownOf X σ x').bind fun xs => (evs X n args σ).bind fun as => (match as with
      | [v] => if m = "append" ∧ v.isOwn = false ∧ xs.length ≤ big then some (.next, upd σ x' (.own (xs ++ [v]))) else none
      | [.int k, v] => if m = "insert" ∧ v.isOwn = false ∧ 0 ≤ k ∧ k ≤ xs.length ∧ xs.length ≤ big then some (.next, upd σ x' (.own (xs.take k.toNat ++ v :: xs.drop k.toNat))) else none
      | _ => none) else none := rfl
  have h' : evs X n args σ = some [.int k, v] := h
  rw [he, if_pos e1, ownOf_ok hp hk hO hx, Option.bind_some, h', Option.bind_some]
  exact (if_pos ⟨e3, hv, by omega, by omega, hl⟩).trans (by rw [Int.toNat_natCast])
theorem r_forT {X : Cx} {n : Nat} {s : Stmt} {σ : Sg} {v : V} {xs : List V} (hs : isFor s = true) (h : ev X n (sIter s) σ = some v) (hi : v.items = some xs) (hb : xs.length ≤ big) (ho : v.isOwn = false) :
    ex X (n + 1) s σ = forL (fun v σ => (bindT X (sTarget s) v σ).bind fun σ' => exs X n (sBody s) σ') xs σ := by
  unfold isFor at hs
  generalize viewS s = w at hs
  induction w <;> try (exact Bool.noConfusion hs)
  rename_i t it b q
  have he : ex X (n + 1) (.For t it b [] q) σ = (ev X n it σ).bind fun v => v.items.bind fun xs => if decide (xs.length ≤ big) && !v.isOwn then
        forL (fun v σ => (bindT X t v σ).bind fun σ' => exs X n b σ') xs σ else none := rfl
  have h' : ev X n it σ = some v := h
  rw [he, h', Option.bind_some, hi, Option.bind_some, if_pos (by simp [hb, ho])]
  rfl
end Mine
end
section
set_option maxRecDepth 20000
namespace Mine
open PySem

theorem fmod_nat (a b : Nat) : (a : Int).fmod (b : Int) = ((a % b : Nat) : Int) := by
  rw [Int.fmod_eq_emod_of_nonneg _ (Int.natCast_nonneg b)]; rfl
theorem fdiv_nat (a b : Nat) : (a : Int).fdiv (b : Int) = ((a / b : Nat) : Int) := by
  rw [Int.fdiv_eq_ediv_of_nonneg _ (Int.natCast_nonneg b)]; rfl

noncomputable def recV (a f : Nat) : V := .tup [.str (ofL [smallAt a]), .str (ofL [bigOf a f]), .int (costOf f)]
noncomputable def letF : Fd := fdAt 35
noncomputable abbrev letB : List Stmt := sBody (nth letF.body 3)
theorem let_len : letF.body.length = 5 := by kernel_rfl
theorem letB_len : letB.length = 3 := by kernel_rfl
noncomputable def cellsV (c0 c1 c2 c3 c4 c5 : Nat) : V := .lst [.int c0, .int c1, .int c2, .int c3, .int c4, .int c5]
noncomputable def letFacts (c0 c1 c2 c3 c4 c5 : Nat) (fs : List V) : List (Str × V) := [("cells", cellsV c0 c1 c2 c3 c4 c5), ("starts", .lst (starts.map fun s : Nat => .int s)), ("found", .own fs)]
theorem chr_ok (i : Int) (k : Nat) (h : i = k) (hk : k ≤ 1114111) : blt "chr" [.int i] = some (.str (ofL [k])) := by
  subst h
  have e : blt "chr" [.int (k : Int)] = if 0 ≤ (k : Int) ∧ (k : Int) ≤ 1114111 then some (.str ⟨#[(k : Int).toNat]⟩) else none := rfl
  rw [e, if_pos ⟨by omega, by omega⟩]
  rfl
theorem small_bounds : ((List.range 15).all fun a => decide (97 ≤ smallAt a) && decide (smallAt a ≤ 122) && smalls[a]? == some (smallAt a)) = true := by kernel_rfl
theorem starts_bounds : ((List.range 10).all fun j => decide (119808 ≤ starts.getD j 0) && decide (starts.getD j 0 ≤ 120432) && starts[j]? == some (starts.getD j 0)) = true := by kernel_rfl
theorem small_at {a : Nat} (ha : a < 15) : 97 ≤ smallAt a ∧ smallAt a ≤ 122 ∧ smalls[a]? = some (smallAt a) := by
  have hb := List.all_eq_true.1 small_bounds a (List.mem_range.2 ha)
  obtain ⟨h1, h2⟩ := both_true hb
  obtain ⟨h3, h4⟩ := both_true h1
  exact ⟨of_decide_eq_true h3, of_decide_eq_true h4, eq_of_beq h2⟩
theorem starts_at {j : Nat} (hj : j < 10) : 119808 ≤ starts.getD j 0 ∧ starts.getD j 0 ≤ 120432 ∧ starts[j]? = some (starts.getD j 0) := by
  have hb := List.all_eq_true.1 starts_bounds j (List.mem_range.2 hj)
  obtain ⟨h1, h2⟩ := both_true hb
  obtain ⟨h3, h4⟩ := both_true h1
  exact ⟨of_decide_eq_true h3, of_decide_eq_true h4, eq_of_beq h2⟩
theorem num_small {s : Nat} (h1 : 97 ≤ s) (h2 : s ≤ 122) : ((s : Int) - 32) = ((s - 32 : Nat) : Int) ∧ s - 32 ≤ 1114111 :=
  ⟨(Int.ofNat_sub (Nat.le_trans (by decide) h1)).symm, Nat.le_trans (Nat.sub_le s 32) (Nat.le_trans h2 (by decide))⟩
theorem num_math {s t : Nat} (h1 : 97 ≤ s) (h2 : s ≤ 122) (h3 : 119808 ≤ t) (h4 : t ≤ 120432) : ((t : Int) + (s : Int) - 97) = ((t + s - 97 : Nat) : Int) ∧ t + s - 97 ≤ 1114111 :=
  ⟨(Int.ofNat_sub (n := t + s) (m := 97) (Nat.le_trans h1 (Nat.le_add_left s t))).symm, Nat.le_trans (Nat.sub_le _ _) (Nat.le_trans (Nat.add_le_add h4 h2) (by decide))⟩
theorem sub10 {f : Nat} (h : ¬ f < 10) (h2 : f < 20) : f - 10 < 10 ∧ ((f : Int) - 10) = ((f - 10 : Nat) : Int) :=
  ⟨Nat.sub_lt_left_of_lt_add (Nat.le_of_not_lt h) h2, (Int.ofNat_sub (Nat.le_of_not_lt h)).symm⟩
theorem big_small {a f : Nat} (ha : a < 15) (hf : f < 10) : ((smallAt a : Int) - 32) = (bigOf a f : Nat) ∧ bigOf a f ≤ 1114111 ∧ costOf f = 1 := by
  have h := small_at ha
  unfold bigOf costOf
  rw [if_pos hf, if_pos hf]
  exact ⟨(num_small h.1 h.2.1).1, (num_small h.1 h.2.1).2, rfl⟩
theorem big_math {a f : Nat} (ha : a < 15) (hf : ¬ f < 10) (hf2 : f - 10 < 10) : (((starts.getD (f - 10) 0 : Nat) : Int) + (smallAt a : Int) - 97) = (bigOf a f : Nat) ∧ bigOf a f ≤ 1114111 ∧ costOf f = 2 := by
  have h := small_at ha
  have g := starts_at hf2
  unfold bigOf costOf
  rw [if_neg hf, if_neg hf]
  exact ⟨(num_math h.1 h.2.1 g.1 g.2.1).1, (num_math h.1 h.2.1 g.1 g.2.1).2, rfl⟩
noncomputable def tupOf (r : Option V) (s : V) (c : Int) : Option (List V) := ((((r.bind fun a => some [a, V.int c]).map (s :: ·)).bind fun vs => if noOwn vs && vs.length ≤ big then some (V.tup vs) else none).bind fun v => some [v])
theorem let_turn (C) (c0 c1 c2 c3 c4 c5 k a f n : Nat) (fs : List V) (σ : Sg) (hk : k < 2) (ha : a < 15) (hf : f = c2 / 20 ^ k % 20) (hfs : fs.length ≤ 1) (H : told (letFacts c0 c1 c2 c3 c4 c5 fs) σ) :
    ∃ σ', exs (cxOf letF C) (n + 40) (letB.drop 0) (upd (upd σ "k" (.int k)) "at" (.int a)) = some (.next, σ') ∧ told (letFacts c0 c1 c2 c3 c4 c5 (fs ++ [recV a f])) σ' := by
  have b3 := (small_at ha).2.2
  rw [← lay_same H]
  generalize hT : lay (letFacts c0 c1 c2 c3 c4 c5 fs) σ = T
  have h0 : ex (cxOf letF C) (n + 39) (nth letB 0) (upd (upd T "k" (.int k)) "at" (.int a)) = some (.next, upd (upd (upd T "k" (.int k)) "at" (.int a)) "small" (.str (ofL [smallAt a]))) := by
    refine r_asn "small" (by kernel_rfl) (by kernel_rfl) (.inl (by kernel_rfl)) ?_ rfl
    have h : ev (cxOf letF C) (n + 38) (sVal (nth letB 0)) (upd (upd T "k" (.int k)) "at" (.int a)) = item (.str (ofL smalls)) (.int a) := by kernel_rfl
    rw [h, item_str _ a _ (Nat.lt_trans ha (by decide)) b3]
  have h1 : ∀ s, ex (cxOf letF C) (n + 38) (nth letB 1) (upd (upd (upd T "k" (.int k)) "at" (.int a)) "small" s) = some (.next, upd (upd (upd (upd T "k" (.int k)) "at" (.int a)) "small" s) "form" (.int f)) := fun s => by
    refine r_asn "form" (by kernel_rfl) (by kernel_rfl) (.inl (by kernel_rfl)) ?_ rfl
    subst hT
    have hk' : k = 0 ∨ k = 1 := by omega
    rcases hk' with rfl | rfl
    · have h : ev (cxOf letF C) (n + 37) (sVal (nth letB 1)) (upd (upd (upd (lay (letFacts c0 c1 c2 c3 c4 c5 fs) σ) "k" (.int (0 : Nat))) "at" (.int a)) "small" s) = some (.int (((c2 : Int).fdiv ((1 : Nat) : Int)).fmod ((20 : Nat) : Int))) := by kernel_rfl
      rw [h, fdiv_nat, fmod_nat, hf]
    · have h : ev (cxOf letF C) (n + 37) (sVal (nth letB 1)) (upd (upd (upd (lay (letFacts c0 c1 c2 c3 c4 c5 fs) σ) "k" (.int (1 : Nat))) "at" (.int a)) "small" s) = some (.int (((c2 : Int).fdiv ((20 : Nat) : Int)).fmod ((20 : Nat) : Int))) := by kernel_rfl
      rw [h, fdiv_nat, fmod_nat, hf]
  have hf20 : f < 20 := by rw [hf]; omega
  generalize hU : upd (upd (upd (upd T "k" (.int k)) "at" (.int a)) "small" (.str (ofL [smallAt a]))) "form" (.int f) = U at *
  have HU : told [("small", .str (ofL [smallAt a])), ("form", .int f), ("cells", cellsV c0 c1 c2 c3 c4 c5), ("starts", .lst (starts.map fun s : Nat => .int s)), ("found", .own fs)] U := by
    clear h0 h1
    subst hU hT
    exact ⟨rfl, rfl, rfl, rfl, rfl, trivial⟩
  have ht : tst (cxOf letF C) (n + 36) (sTest (nth letB 2)) U = some (decide ((f : Int) < 10)) := by
    refine tst_lay HU ?_
    kernel_rfl
  have h2 := r_if (X := cxOf letF C) (s := nth letB 2) (by kernel_rfl) ht
  have ap : ∀ b : List Stmt, b.length = 1 → isApp (nth b 0) "found" "append" = true → evs (cxOf letF C) (n + 34) (sArgs (nth b 0)) U = some [recV a f] → exs (cxOf letF C) (n + 36) b U = some (.next, upd U "found" (.own (fs ++ [recV a f]))) := fun b hb hs he => by
    have h := r_append (X := cxOf letF C) (n := n + 34) (s := nth b 0) (σ := U) "found" hs (by kernel_rfl) (.inl (by kernel_rfl)) (by kernel_rfl) HU.2.2.2.2.1 he rfl (by unfold big; omega)
    have : b = b.drop 0 := rfl
    rw [this]
    exact r_step (by omega) h (r_end (by omega))
  have fin : ex (cxOf letF C) (n + 37) (nth letB 2) U = some (.next, upd U "found" (.own (fs ++ [recV a f]))) → ∃ σ', exs (cxOf letF C) (n + 40) (letB.drop 0) (upd (upd T "k" (.int k)) "at" (.int a)) = some (.next, σ') ∧ told (letFacts c0 c1 c2 c3 c4 c5 (fs ++ [recV a f])) σ' := fun h => by
    refine ⟨_, r_step (by rw [letB_len]; decide) h0 (r_step (by rw [letB_len]; decide) (by have := h1 (.str (ofL [smallAt a])); rw [hU] at this; exact this) (r_step (by rw [letB_len]; decide) h (r_end (by rw [letB_len]; decide)))), ?_⟩
    exact ⟨HU.2.2.1, HU.2.2.2.1, rfl, trivial⟩
  by_cases hf10 : f < 10
  · rw [decide_eq_true (by omega), if_pos rfl] at h2
    refine fin (h2.trans (ap _ (by kernel_rfl) (by kernel_rfl) ?_))
    refine evs_lay HU ?_
    have h : evs (cxOf letF C) (n + 34) (sArgs (nth (sBody (nth letB 2)) 0)) (lay [("small", .str (ofL [smallAt a])), ("form", .int f), ("cells", cellsV c0 c1 c2 c3 c4 c5), ("starts", .lst (starts.map fun s : Nat => .int s)), ("found", .own fs)] U) =
      tupOf (blt "chr" [.int ((smallAt a : Int) - 32)]) (.str (ofL [smallAt a])) 1 := by kernel_rfl
    obtain ⟨g1, g2, hco⟩ := big_small ha hf10
    rw [h, chr_ok _ _ g1 g2]
    unfold recV
    rw [hco]
    rfl
  · rw [decide_eq_false (by omega), if_neg (by simp)] at h2
    refine fin (h2.trans (ap _ (by kernel_rfl) (by kernel_rfl) ?_))
    refine evs_lay HU ?_
    have h : evs (cxOf letF C) (n + 34) (sArgs (nth (sElse (nth letB 2)) 0)) (lay [("small", .str (ofL [smallAt a])), ("form", .int f), ("cells", cellsV c0 c1 c2 c3 c4 c5), ("starts", .lst (starts.map fun s : Nat => .int s)), ("found", .own fs)] U) =
      tupOf (((((item (.lst (starts.map fun s : Nat => .int s)) (.int ((f : Int) - 10))).bind fun x => bin .Add x (.int (smallAt a))).bind fun x => bin .Sub x (.int 97)).bind fun v => some [v]).bind fun as => blt "chr" as) (.str (ofL [smallAt a])) 2 := by kernel_rfl
    have hf2 := (sub10 hf10 hf20).1
    have hsb := starts_at hf2
    obtain ⟨g1, g2, hco⟩ := big_math ha hf10 hf2
    have hi : item (.lst (starts.map fun s : Nat => .int s)) (.int ((f : Int) - 10)) = some (.int (starts.getD (f - 10) 0 : Nat)) := by
      rw [(sub10 hf10 hf20).2]
      show (if decide ((0 : Int) ≤ (f - 10 : Nat)) && smallI (f - 10 : Nat) then (starts.map fun s : Nat => V.int s)[((f - 10 : Nat) : Int).toNat]? else none) = _
      rw [if_pos (by rw [smallI_nat _ (Nat.lt_trans hf2 (by decide))]; simp), Int.toNat_natCast, List.getElem?_map, hsb.2.2]
      rfl
    rw [h, hi, Option.bind_some]
    show tupOf (blt "chr" [.int (((starts.getD (f - 10) 0 : Nat) : Int) + (smallAt a : Int) - 97)]) (.str (ofL [smallAt a])) 2 = _
    rw [chr_ok _ _ g1 g2]
    unfold recV
    rw [hco]
    rfl
/-- the two letters -/
theorem c_letters (n c0 c1 c2 c3 c4 c5 : Nat) : callF (n + 1) "_law_letters" [cellsV c0 c1 c2 c3 c4 c5] = some (.own [recV (c1 % 15) (c2 % 20), recV ((c1 % 15 + 1 + c1 / 15 % 14) % 15) (c2 / 20 % 20)]) := by
  generalize hT : start letF.params [cellsV c0 c1 c2 c3 c4 c5] = T
  generalize hX : callF n = C
  have h0 : ex (cxOf letF C) 299 (nth letF.body 0) T = some (.next, upd T "starts" (.lst (starts.map fun s : Nat => .int s))) := by subst hT; kernel_rfl
  have h1 : ex (cxOf letF C) 298 (nth letF.body 1) (upd T "starts" (.lst (starts.map fun s : Nat => .int s))) = some (.next, upd (upd T "starts" (.lst (starts.map fun s : Nat => .int s))) "one" (.int ((c1 : Int).fmod ((15 : Nat) : Int)))) := by subst hT; kernel_rfl
  rw [fmod_nat] at h1
  have h2 : ex (cxOf letF C) 297 (nth letF.body 2) (upd (upd T "starts" (.lst (starts.map fun s : Nat => .int s))) "one" (.int (c1 % 15 : Nat))) = some (.next, upd (upd (upd T "starts" (.lst (starts.map fun s : Nat => .int s))) "one" (.int (c1 % 15 : Nat))) "found" (.own [])) := by subst hT; kernel_rfl
  generalize hU : upd (upd (upd T "starts" (.lst (starts.map fun s : Nat => .int s))) "one" (.int (c1 % 15 : Nat))) "found" (.own []) = U at h2
  have HU : told (letFacts c0 c1 c2 c3 c4 c5 []) U := by subst hU hT; exact ⟨rfl, rfl, rfl, trivial⟩
  have hit : ev (cxOf letF C) 295 (sIter (nth letF.body 3)) U = some (.lst [.tup [.int (0 : Nat), .int (c1 % 15 : Nat)], .tup [.int (1 : Nat), .int ((((c1 % 15 : Nat) : Int) + ((1 : Nat) : Int) + (((c1 : Int).fdiv ((15 : Nat) : Int)).fmod ((14 : Nat) : Int))).fmod ((15 : Nat) : Int))]]) := by
    clear h0 h1 h2
    subst hU hT
    kernel_rfl
  rw [fdiv_nat, fmod_nat, ← Int.natCast_add, ← Int.natCast_add, fmod_nat] at hit
  have h3 := r_forT (X := cxOf letF C) (n := 295) (s := nth letF.body 3) (σ := U) (by kernel_rfl) hit (items_lst _) (show 2 ≤ big by decide) rfl
  obtain ⟨σ1, g1, H1⟩ := let_turn C c0 c1 c2 c3 c4 c5 0 (c1 % 15) (c2 % 20) 255 [] U (by omega) (Nat.mod_lt _ (by omega)) (by simp) (by simp) HU
  obtain ⟨σ2, g2, H2⟩ := let_turn C c0 c1 c2 c3 c4 c5 1 ((c1 % 15 + 1 + c1 / 15 % 14) % 15) (c2 / 20 % 20) 255 [recV (c1 % 15) (c2 % 20)] σ1 (by omega) (Nat.mod_lt _ (by omega)) (by simp) (by simp) H1
  have b1 : ∀ (σ : Sg) (k a : Nat), bindT (cxOf letF C) (sTarget (nth letF.body 3)) (.tup [.int k, .int a]) σ = some (upd (upd σ "k" (.int k)) "at" (.int a)) := fun σ k a => by kernel_rfl
  have e3 : ex (cxOf letF C) 296 (nth letF.body 3) U = some (.next, σ2) := by
    rw [h3]
    unfold forL
    rw [b1, Option.bind_some, show exs (cxOf letF C) 295 (sBody (nth letF.body 3)) _ = _ from g1]
    simp only [Option.bind_some]
    unfold forL
    rw [b1, Option.bind_some, show exs (cxOf letF C) 295 (sBody (nth letF.body 3)) _ = _ from g2]
    rfl
  have h4 : ex (cxOf letF C) 295 (nth letF.body 4) σ2 = some (.ret (.own [recV (c1 % 15) (c2 % 20), recV ((c1 % 15 + 1 + c1 / 15 % 14) % 15) (c2 / 20 % 20)]), σ2) := by
    refine r_ret (by kernel_rfl) ?_
    refine ev_lay H2 ?_
    kernel_rfl
  refine r_call (by kernel_rfl) (by kernel_rfl) (by kernel_rfl) (f := letF) (σ' := σ2) ?_
  rw [hX, hT]
  exact r_step (by rw [let_len]; decide) h0 (r_step (by rw [let_len]; decide) h1 (r_step (by rw [let_len]; decide) h2 (r_step (by rw [let_len]; decide) e3 (r_last (by rw [let_len]; decide) h4))))
end Mine
end
section
set_option maxRecDepth 20000
namespace Mine
open PySem

structure Par where
  c0 : Nat
  c1 : Nat
  c2 : Nat
  c3 : Nat
  c4 : Nat
  c5 : Nat
namespace Par
variable (P : Par)
noncomputable def w : Nat := P.c0 % 5
noncomputable def i0 : Nat := P.c0 / 5 % 7
noncomputable def i1 : Nat := (P.c0 / 5 % 7 + 1 + P.c0 / 35 % 6) % 7
noncomputable def q0 : Nat := signs7.getD P.i0 0
noncomputable def q1 : Nat := signs7.getD P.i1 0
noncomputable def a0 : Nat := P.c1 % 15
noncomputable def a1 : Nat := (P.c1 % 15 + 1 + P.c1 / 15 % 14) % 15
noncomputable def f0 : Nat := P.c2 % 20
noncomputable def f1 : Nat := P.c2 / 20 % 20
noncomputable def t : Nat := stays.getD (P.c3 / 16 % 16) 0
noncomputable def g : Nat := gapP (sp P.w P.q0) (sp P.w P.q1)
noncomputable def bnd : Nat := 2 + P.c4 % 3
noncomputable def wh : Nat := P.c4 / 3 % 9
noncomputable def r : Nat := P.c5 / 64 % 4
noncomputable def cells : V := cellsV P.c0 P.c1 P.c2 P.c3 P.c4 P.c5
end Par
theorem w_lt (P : Par) : P.w < 5 := Nat.mod_lt _ (by omega)
theorem a0_lt (P : Par) : P.a0 < 15 := Nat.mod_lt _ (by omega)
theorem a1_lt (P : Par) : P.a1 < 15 := Nat.mod_lt _ (by omega)
theorem f0_lt (P : Par) : P.f0 < 20 := Nat.mod_lt _ (by omega)
theorem f1_lt (P : Par) : P.f1 < 20 := Nat.mod_lt _ (by omega)
theorem a_ne (P : Par) : P.a0 ≠ P.a1 := by unfold Par.a0 Par.a1; omega
theorem i_ne (P : Par) : P.i0 ≠ P.i1 := by unfold Par.i0 Par.i1; omega
theorem i0_lt (P : Par) : P.i0 < 7 := Nat.mod_lt _ (by omega)
theorem i1_lt (P : Par) : P.i1 < 7 := Nat.mod_lt _ (by omega)
theorem signs_get : ((List.range 7).all fun i => signs7[i]? == some (signs7.getD i 0) && signs7.contains (signs7.getD i 0)) = true := by kernel_rfl
theorem signs_at {i : Nat} (h : i < 7) : signs7[i]? = some (signs7.getD i 0) ∧ signs7.getD i 0 ∈ signs7 := by
  have := List.all_eq_true.1 signs_get i (List.mem_range.2 h)
  simpa using this
theorem stays_get : ((List.range 16).all fun i => stays[i]? == some (stays.getD i 0) && stays.contains (stays.getD i 0)) = true := by kernel_rfl
theorem stays_at {i : Nat} (h : i < 16) : stays[i]? = some (stays.getD i 0) ∧ stays.getD i 0 ∈ stays := by
  have := List.all_eq_true.1 stays_get i (List.mem_range.2 h)
  simpa using this
theorem q0_mem (P : Par) : P.q0 ∈ signs7 := (signs_at (i0_lt P)).2
theorem q1_mem (P : Par) : P.q1 ∈ signs7 := (signs_at (i1_lt P)).2
theorem t_mem (P : Par) : P.t ∈ stays := (stays_at (Nat.mod_lt _ (by omega))).2
theorem wh_lt (P : Par) : P.wh < 9 := Nat.mod_lt _ (by omega)
theorem r_lt (P : Par) : P.r < 4 := Nat.mod_lt _ (by omega)

noncomputable def wt (r p : Nat) : Nat := 2 ^ ((p + r) % 4)
noncomputable def truthS : Nat → Str
  | 0 => "0001" | 1 => "0111" | 2 => "0110" | 3 => "0100" | 4 => "0010" | 5 => "1101" | 6 => "1011" | 7 => "1001" | _ => "0110"
noncomputable def lawF : Fd := fdAt 38
noncomputable abbrev WX (C : Str → List V → Option V) : Cx := cxOf lawF C
noncomputable abbrev lawS (i : Nat) : Stmt := nth lawF.body i
theorem law_len : lawF.body.length = 33 := by kernel_rfl
theorem find_law : findDef "law" = some lawF := by kernel_rfl

theorem kk {X : Cx} {x : Str} (h : decide (X.K x = some .local ∨ X.K x = some .cell) = true) : X.K x = some .local ∨ X.K x = some .cell := of_decide_eq_true h
theorem told_upd : ∀ {L : List (Str × V)} {σ : Sg} {x : Str} {v : V}, told L σ → (L.all fun p => !(p.1 == x)) = true → told L (upd σ x v)
  | [], _, _, _, _, _ => trivial
  | p :: L, σ, x, v, H, h => by
    simp only [List.all_cons, Bool.and_eq_true, Bool.not_eq_true', beq_eq_false_iff_ne] at h
    exact ⟨by rw [upd_ne h.1]; exact H.1, told_upd H.2 (by simpa using h.2)⟩
theorem told_put {L : List (Str × V)} {σ : Sg} (x : Str) (v : V) (H : told L σ) (h : (L.all fun p => !(p.1 == x)) = true) : told ((x, v) :: L) (upd σ x v) := ⟨upd_get σ x v, told_upd H h⟩
theorem bin_add_str (a b : List Nat) (h : a.length + b.length ≤ big) : bin .Add (.str (ofL a)) (.str (ofL b)) = some (.str (ofL (a ++ b))) := by
  show (if (ofL a).length + (ofL b).length ≤ big then some (V.str (ofL a ++ ofL b)) else none) = _
  rw [ofL_len, ofL_len, if_pos h, ofL_app]
theorem item_lst (l : List V) (i : Nat) (v : V) (hi : i < 2 ^ 62) (h : l[i]? = some v) : item (.lst l) (.int i) = some v := by
  show (if decide ((0 : Int) ≤ i) && smallI i then l[(i : Int).toNat]? else none) = _
  rw [if_pos (by rw [smallI_nat i hi]; simp), Int.toNat_natCast, h]
theorem item_ownV (l : List V) (i : Nat) (v : V) (hi : i < 2 ^ 62) (h : l[i]? = some v) : item (.own l) (.int i) = some v := by
  show (if decide ((0 : Int) ≤ i) && smallI i then l[(i : Int).toNat]? else none) = _
  rw [if_pos (by rw [smallI_nat i hi]; simp), Int.toNat_natCast, h]
theorem strL_map : ∀ l : List (List Nat), strL (l.map fun s => V.str (ofL s)) = some (l.map ofL)
  | [] => rfl
  | a :: r => by
    simp only [List.map_cons, strL, strL_map r, Option.map_some]
theorem join_ofL : ∀ l : List (List Nat), Str.join ⟨#[]⟩ (l.map ofL) = ofL l.flatten
  | [] => rfl
  | [a] => by
    show ofL a = _
    simp
  | a :: b :: r => by
    show ofL a ++ ⟨#[]⟩ ++ Str.join ⟨#[]⟩ ((b :: r).map ofL) = _
    rw [join_ofL (b :: r), show (⟨#[]⟩ : Str) = ofL [] from rfl, ofL_app, ofL_app]
    simp
theorem meth_join (l : List (List Nat)) (h : (l.map (·.length)).sum ≤ big) : meth "join" (.str "") [.lst (l.map fun s => V.str (ofL s))] = some (.str (ofL l.flatten)) := by
  have e : meth "join" (.str "") [.lst (l.map fun s => V.str (ofL s))] = (strL (l.map fun s => V.str (ofL s))).bind fun l => if (l.map (·.length + (Str.ofString "").length)).sum ≤ big then some (.str (Txt.join "" l)) else none := rfl
  rw [e, strL_map, Option.bind_some, if_pos]
  · congr 2
    have : Txt.join "" (l.map ofL) = Str.join ⟨#[]⟩ (l.map ofL) := by
      exact StrLaws.glued_eq_join _ _
    rw [this, join_ofL]
  · rw [List.map_map]
    have : ((fun x : Str => x.length + (Str.ofString "").length) ∘ ofL) = fun s => s.length := by
      funext s
      show (ofL s).length + 0 = _
      rw [ofL_len]; rfl
    rw [this]; exact h
end Mine
end
section
set_option maxRecDepth 20000
namespace Mine
open PySem

theorem head_fits : ((List.range 5).all fun w => signs7.all fun q => signs7.all fun q' => escFits (escPairs w) [q, q', q, q']) = true := by kernel_rfl
theorem c_hand4 {w q q' : Nat} (hw : w < 5) (hq : q ∈ signs7) (hq' : q' ∈ signs7) (n : Nat) : callF (n + 1) (escName w) [.str (ofL [q, q', q, q'])] = some (.str (ofL (sp w q ++ sp w q' ++ sp w q ++ sp w q'))) := by
  have F := List.all_eq_true.1 (List.all_eq_true.1 (List.all_eq_true.1 head_fits w (List.mem_range.2 hw)) q hq) q' hq'
  obtain ⟨s, hs, e⟩ := call_esc w hw n (ofL [q, q', q, q']) (by rw [ofL_cps]; exact F)
  rw [hs, ← ofL_self s, e, ofL_cps, escL_flat]
  simp [sp]
noncomputable def strs2 (a b : List Nat) : V := .lst [.str (ofL a), .str (ofL b)]
noncomputable def pairV (P : Par) : V := .str (ofL [P.q0, P.q1])
noncomputable def spelledV (P : Par) : V := strs2 (sp P.w P.q0) (sp P.w P.q1)
noncomputable def lettersV (P : Par) : V := .lst [recV P.a0 P.f0, recV P.a1 P.f1]
noncomputable def pricesV (P : Par) : V := .lst [.int (costOf P.f0), .int (costOf P.f1), .int P.g, .int 0]
noncomputable def F6 (P : Par) : List (Str × V) := [("spelled", spelledV P), ("pair", pairV P), ("place", .int P.i0), ("hand", .fn (escName P.w)), ("way", .int P.w), ("cells", P.cells)]
/-- up to the first check -/
theorem law_a (C) (hC : C = callF 5) (P : Par) (script : V) (h0 : C "_law_cells" [script.lend] = some P.cells) (hs : script.isOwn = false) : ∃ σ, exs (WX C) 300 (lawF.body.drop 0) (start lawF.params [script]) = exs (WX C) 294 (lawF.body.drop 6) σ ∧ told (F6 P) σ := by
  generalize hT : start lawF.params [script] = T
  have H0 : told [("script", script.lend)] T := by subst hT; exact ⟨rfl, trivial⟩
  have hl : script.lend.isOwn = false := by cases script <;> first | rfl | (simp [V.isOwn] at hs)
  have s0 : ex (WX C) 299 (lawS 0) T = some (.next, upd T "cells" P.cells) := by
    refine r_asn "cells" (by kernel_rfl) (by kernel_rfl) (kk (by kernel_rfl)) ?_ rfl
    refine ev_lay H0 ?_
    have h : ev (WX C) 298 (sVal (lawS 0)) (lay [("script", script.lend)] T) = guardOwn [script.lend] (C "_law_cells" [script.lend]) := by kernel_rfl
    rw [h, h0]
    exact if_pos (by simp [hl])
  have E := r_go (X := WX C) (n := 299) (i := 0) (b := lawF.body) (by rw [law_len]; decide) s0
  have H1 := told_put "cells" P.cells H0 (by kernel_rfl)
  generalize upd T "cells" P.cells = T1 at E H1
  have H1 : told [("cells", P.cells)] T1 := ⟨H1.1, trivial⟩
  have s1 : ex (WX C) 298 (lawS 1) T1 = some (.next, upd T1 "way" (.int P.w)) := by
    refine r_asn "way" (by kernel_rfl) (by kernel_rfl) (kk (by kernel_rfl)) ?_ rfl
    refine ev_lay H1 ?_
    have h : ev (WX C) 297 (sVal (lawS 1)) (lay [("cells", P.cells)] T1) = some (.int ((P.c0 : Int).fmod ((5 : Nat) : Int))) := by kernel_rfl
    rw [h, fmod_nat]; rfl
  have E := E.trans (r_go (i := 1) (by rw [law_len]; decide) s1)
  have H2 := told_put "way" (.int P.w) H1 (by kernel_rfl)
  generalize upd T1 "way" (.int P.w) = T2 at E H2
  have s2 : ex (WX C) 297 (lawS 2) T2 = some (.next, upd T2 "hand" (.fn (escName P.w))) := by
    refine r_asn "hand" (by kernel_rfl) (by kernel_rfl) (kk (by kernel_rfl)) ?_ rfl
    have H2' : told [("way", .int P.w)] T2 := ⟨H2.1, trivial⟩
    have hw := w_lt P
    generalize P.w = w at H2' hw
    refine ev_lay H2' ?_
    clear H2'
    revert hw
    revert w
    refine lt5 ?_ ?_ ?_ ?_ ?_ <;> kernel_rfl
  have E := E.trans (r_go (i := 2) (by rw [law_len]; decide) s2)
  have H3 := told_put "hand" (.fn (escName P.w)) H2 (by kernel_rfl)
  generalize upd T2 "hand" (.fn (escName P.w)) = T3 at E H3
  have s3 : ex (WX C) 296 (lawS 3) T3 = some (.next, upd T3 "place" (.int P.i0)) := by
    refine r_asn "place" (by kernel_rfl) (by kernel_rfl) (kk (by kernel_rfl)) ?_ rfl
    refine ev_lay H3 ?_
    have h : ev (WX C) 295 (sVal (lawS 3)) (lay [("hand", .fn (escName P.w)), ("way", .int P.w), ("cells", P.cells)] T3) = some (.int (((P.c0 : Int).fdiv ((5 : Nat) : Int)).fmod ((7 : Nat) : Int))) := by kernel_rfl
    rw [h, fdiv_nat, fmod_nat]; rfl
  have E := E.trans (r_go (i := 3) (by rw [law_len]; decide) s3)
  have H4 := told_put "place" (.int P.i0) H3 (by kernel_rfl)
  generalize upd T3 "place" (.int P.i0) = T4 at E H4
  have s4 : ex (WX C) 295 (lawS 4) T4 = some (.next, upd T4 "pair" (pairV P)) := by
    refine r_asn "pair" (by kernel_rfl) (by kernel_rfl) (kk (by kernel_rfl)) ?_ rfl
    refine ev_lay H4 ?_
    have h : ev (WX C) 294 (sVal (lawS 4)) (lay [("place", .int P.i0), ("hand", .fn (escName P.w)), ("way", .int P.w), ("cells", P.cells)] T4) =
      (item (.str (ofL signs7)) (.int P.i0)).bind fun a => (item (.str (ofL signs7)) (.int (((P.i0 : Int) + ((1 : Nat) : Int) + ((P.c0 : Int).fdiv ((35 : Nat) : Int)).fmod ((6 : Nat) : Int)).fmod ((7 : Nat) : Int)))).bind fun b => bin .Add a b := by kernel_rfl
    rw [h, fdiv_nat, fmod_nat, ← Int.natCast_add, ← Int.natCast_add, fmod_nat]
    have e1 : (P.i0 + 1 + P.c0 / 35 % 6) % 7 = P.i1 := rfl
    have l0 := i0_lt P
    have l1 := i1_lt P
    rw [e1, item_str _ P.i0 P.q0 (by omega) (signs_at l0).1, item_str _ P.i1 P.q1 (by omega) (signs_at l1).1]
    exact bin_add_str [P.q0] [P.q1] (show 1 + 1 ≤ big by decide)
  have E := E.trans (r_go (i := 4) (by rw [law_len]; decide) s4)
  have H5 := told_put "pair" (pairV P) H4 (by kernel_rfl)
  generalize upd T4 "pair" (pairV P) = T5 at E H5
  have s5 : ex (WX C) 294 (lawS 5) T5 = some (.next, upd T5 "spelled" (spelledV P)) := by
    refine r_asn "spelled" (by kernel_rfl) (by kernel_rfl) (kk (by kernel_rfl)) ?_ rfl
    refine ev_lay H5 ?_
    have h : ev (WX C) 293 (sVal (lawS 5)) (lay [("pair", pairV P), ("place", .int P.i0), ("hand", .fn (escName P.w)), ("way", .int P.w), ("cells", P.cells)] T5) =
      ((guardOwn [.int P.w, .str (ofL [P.q0])] (C "_law_spelled" [.int P.w, .str (ofL [P.q0])])).bind fun a => ((guardOwn [.int P.w, .str (ofL [P.q1])] (C "_law_spelled" [.int P.w, .str (ofL [P.q1])])).bind fun b => some [b]).map (a :: ·)).bind fun vs => if noOwn vs && vs.length ≤ big then some (.lst vs) else none := by kernel_rfl
    rw [h, hC, c_spelled 4 (w_lt P) (q0_mem P), c_spelled 4 (w_lt P) (q1_mem P)]
    rfl
  have E := E.trans (r_go (i := 5) (by rw [law_len]; decide) s5)
  have H6 := told_put "spelled" (spelledV P) H5 (by kernel_rfl)
  exact ⟨_, E, H6⟩
end Mine
end
section
set_option maxRecDepth 20000
namespace Mine
open PySem

noncomputable def weightsV (P : Par) : V := .lst [.int (wt P.r 0), .int (wt P.r 1), .int (wt P.r 2), .int (wt P.r 3)]
noncomputable def hiddenV : V := .lst (b1.map fun c : Nat => .int c)
noncomputable def L7 (P : Par) : List (Str × V) := ("letters", lettersV P) :: F6 P
noncomputable def L8 (P : Par) : List (Str × V) := ("prices", pricesV P) :: L7 P
noncomputable def staysV : V := .lst (stays.map fun c : Nat => .int c)
noncomputable def L9 (P : Par) : List (Str × V) := ("stays", staysV) :: L8 P
noncomputable def L10 (P : Par) : List (Str × V) := ("stay", .str (ofL [P.t])) :: L9 P
noncomputable def L11 (P : Par) : List (Str × V) := ("hidden", hiddenV) :: L10 P
noncomputable def L12 (P : Par) : List (Str × V) := ("bound", .int P.bnd) :: L11 P
noncomputable def L13 (P : Par) : List (Str × V) := ("which", .int P.wh) :: L12 P
noncomputable def L14 (P : Par) : List (Str × V) := ("rule", .fn (ruleName P.wh)) :: L13 P
noncomputable def L15 (P : Par) : List (Str × V) := ("truth", .str (truthS P.wh)) :: L14 P
noncomputable def L16 (P : Par) : List (Str × V) := ("weights", weightsV P) :: L15 P
noncomputable def L17 (P : Par) : List (Str × V) := ("barred", .own []) :: ("ready", .own []) :: ("pages", .own []) :: L16 P
noncomputable def L18 (P : Par) : List (Str × V) := ("price", .int 0) :: L17 P
theorem bin_pow (e : Nat) (h : e < 4) : bin .Pow (.int 2) (.int e) = some (.int ((2 ^ e : Nat) : Int)) := by
  match e, h with
  | 0, _ => rfl
  | 1, _ => rfl
  | 2, _ => rfl
  | 3, _ => rfl
theorem law_b1 (C) (hC : C = callF 5) (P : Par) (T6 : Sg) (H6 : told (F6 P) T6) : ∃ σ, exs (WX C) 294 (lawF.body.drop 6) T6 = exs (WX C) 289 (lawF.body.drop 11) σ ∧ told (L10 P) σ := by
  have ht : tst (WX C) 292 (sTest (lawS 6)) T6 = some false := by
    refine tst_lay H6 ?_
    have h : tst (WX C) 292 (sTest (lawS 6)) (lay (F6 P) T6) = ((((bin .Add (pairV P) (pairV P)).bind fun v => some [v]).bind fun as => guardOwn as (C (escName P.w) as)).bind fun a => (((bin .Add (spelledV P) (spelledV P)).bind fun v => some [v]).bind fun as => meth "join" (.str "") as).bind fun b => cmp .NotEq a b).bind truth := by kernel_rfl
    have e1 : bin .Add (pairV P) (pairV P) = some (.str (ofL [P.q0, P.q1, P.q0, P.q1])) := bin_add_str [P.q0, P.q1] [P.q0, P.q1] (show 2 + 2 ≤ big by decide)
    have e2 : bin .Add (spelledV P) (spelledV P) = some (.lst ([sp P.w P.q0, sp P.w P.q1, sp P.w P.q0, sp P.w P.q1].map fun s => V.str (ofL s))) := by kernel_rfl
    have l0 := (sp_ok (w_lt P) (q0_mem P)).2
    have l1 := (sp_ok (w_lt P) (q1_mem P)).2
    rw [h, e1, e2]
    simp only [Option.bind_some]
    rw [hC, c_hand4 (w_lt P) (q0_mem P) (q1_mem P), meth_join _ (by unfold big; simp; omega)]
    have e3 : sp P.w P.q0 ++ sp P.w P.q1 ++ sp P.w P.q0 ++ sp P.w P.q1 = [sp P.w P.q0, sp P.w P.q1, sp P.w P.q0, sp P.w P.q1].flatten := by simp
    rw [e3]
    generalize ofL [sp P.w P.q0, sp P.w P.q1, sp P.w P.q0, sp P.w P.q1].flatten = z
    show some (z != z) = _
    simp
  have s6 := r_if (X := WX C) (s := lawS 6) (by kernel_rfl) ht
  rw [if_neg (by simp)] at s6
  have e6 : exs (WX C) 292 (sElse (lawS 6)) T6 = some (.next, T6) := by kernel_rfl
  have E := r_go (X := WX C) (i := 6) (b := lawF.body) (by rw [law_len]; decide) (s6.trans e6)
  have s7 : ex (WX C) 292 (lawS 7) T6 = some (.next, upd T6 "letters" (lettersV P)) := by
    refine r_asn "letters" (by kernel_rfl) (by kernel_rfl) (kk (by kernel_rfl)) ?_ rfl
    refine ev_lay H6 ?_
    have h : ev (WX C) 291 (sVal (lawS 7)) (lay (F6 P) T6) = guardOwn [P.cells] (C "_law_letters" [P.cells]) := by kernel_rfl
    rw [h, hC]
    unfold Par.cells
    rw [c_letters 4]
    rfl
  have E := E.trans (r_go (i := 7) (by rw [law_len]; decide) s7)
  have H7 : told (L7 P) (upd T6 "letters" (lettersV P)) := told_put "letters" (lettersV P) H6 (by kernel_rfl)
  generalize upd T6 "letters" (lettersV P) = T7 at E H7
  have s8 : ex (WX C) 291 (lawS 8) T7 = some (.next, upd T7 "prices" (pricesV P)) := by
    refine r_asn "prices" (by kernel_rfl) (by kernel_rfl) (kk (by kernel_rfl)) ?_ rfl
    refine ev_lay H7 ?_
    have h : ev (WX C) 290 (sVal (lawS 8)) (lay (L7 P) T7) = ((((guardOwn [.str (ofL (sp P.w P.q0)), .str (ofL (sp P.w P.q1))] (C "_law_gap" [.str (ofL (sp P.w P.q0)), .str (ofL (sp P.w P.q1))])).bind fun a => some [a, .int 0]).map (V.int (costOf P.f1) :: ·)).map (V.int (costOf P.f0) :: ·)).bind fun vs => if noOwn vs && vs.length ≤ big then some (.lst vs) else none := by kernel_rfl
    rw [h, hC, c_gap 4 (w_lt P) (q0_mem P) (q1_mem P)]
    rfl
  have E := E.trans (r_go (i := 8) (by rw [law_len]; decide) s8)
  have H8 : told (L8 P) (upd T7 "prices" (pricesV P)) := told_put "prices" (pricesV P) H7 (by kernel_rfl)
  generalize upd T7 "prices" (pricesV P) = T8 at E H8
  have s9 : ex (WX C) 290 (lawS 9) T8 = some (.next, upd T8 "stays" staysV) := by
    refine r_asn "stays" (by kernel_rfl) (by kernel_rfl) (kk (by kernel_rfl)) (by kernel_rfl) rfl
  have E := E.trans (r_go (i := 9) (by rw [law_len]; decide) s9)
  have H9 : told (L9 P) (upd T8 "stays" staysV) := told_put "stays" staysV H8 (by kernel_rfl)
  generalize upd T8 "stays" staysV = T9 at E H9
  have s10 : ex (WX C) 289 (lawS 10) T9 = some (.next, upd T9 "stay" (.str (ofL [P.t]))) := by
    refine r_asn "stay" (by kernel_rfl) (by kernel_rfl) (kk (by kernel_rfl)) ?_ rfl
    refine ev_lay H9 ?_
    have h : ev (WX C) 288 (sVal (lawS 10)) (lay (L9 P) T9) = ((item staysV (.int (((P.c3 : Int).fdiv ((16 : Nat) : Int)).fmod ((16 : Nat) : Int)))).bind fun v => some [v]).bind fun as => blt "chr" as := by kernel_rfl
    have hb := stays_at (i := P.c3 / 16 % 16) (Nat.mod_lt _ (by omega))
    have hi : item staysV (.int (P.c3 / 16 % 16 : Nat)) = some (.int P.t) := item_lst _ _ _ (by omega) (by rw [List.getElem?_map, hb.1]; rfl)
    rw [h, fdiv_nat, fmod_nat, hi]
    have hlt : ∀ x ∈ stays, x ≤ 1114111 := by decide
    exact chr_ok _ _ rfl (hlt _ (t_mem P))
  have E := E.trans (r_go (i := 10) (by rw [law_len]; decide) s10)
  exact ⟨_, E, told_put "stay" _ H9 (by kernel_rfl)⟩
theorem law_b2 (C) (hC : C = callF 5) (P : Par) (T10 : Sg) (H10 : told (L10 P) T10) : ∃ σ, exs (WX C) 289 (lawF.body.drop 11) T10 = exs (WX C) 281 (lawF.body.drop 19) σ ∧ told (L18 P) σ := by
  have s11 : ex (WX C) 288 (lawS 11) T10 = some (.next, upd T10 "hidden" hiddenV) := by
    refine r_asn "hidden" (by kernel_rfl) (by kernel_rfl) (kk (by kernel_rfl)) (by kernel_rfl) rfl
  have E := r_go (X := WX C) (i := 11) (b := lawF.body) (by rw [law_len]; decide) s11
  have H11 : told (L11 P) (upd T10 "hidden" hiddenV) := told_put "hidden" hiddenV H10 (by kernel_rfl)
  generalize upd T10 "hidden" hiddenV = T11 at E H11
  have s12 : ex (WX C) 287 (lawS 12) T11 = some (.next, upd T11 "bound" (.int P.bnd)) := by
    refine r_asn "bound" (by kernel_rfl) (by kernel_rfl) (kk (by kernel_rfl)) ?_ rfl
    refine ev_lay H11 ?_
    have h : ev (WX C) 286 (sVal (lawS 12)) (lay (L11 P) T11) = some (.int (((2 : Nat) : Int) + (P.c4 : Int).fmod ((3 : Nat) : Int))) := by kernel_rfl
    rw [h, fmod_nat, ← Int.natCast_add]; rfl
  have E := E.trans (r_go (i := 12) (by rw [law_len]; decide) s12)
  have H12 : told (L12 P) (upd T11 "bound" (.int P.bnd)) := told_put "bound" (.int P.bnd) H11 (by kernel_rfl)
  generalize upd T11 "bound" (.int P.bnd) = T12 at E H12
  have s13 : ex (WX C) 286 (lawS 13) T12 = some (.next, upd T12 "which" (.int P.wh)) := by
    refine r_asn "which" (by kernel_rfl) (by kernel_rfl) (kk (by kernel_rfl)) ?_ rfl
    refine ev_lay H12 ?_
    have h : ev (WX C) 285 (sVal (lawS 13)) (lay (L12 P) T12) = some (.int (((P.c4 : Int).fdiv ((3 : Nat) : Int)).fmod ((9 : Nat) : Int))) := by kernel_rfl
    rw [h, fdiv_nat, fmod_nat]; rfl
  have E := E.trans (r_go (i := 13) (by rw [law_len]; decide) s13)
  have H13 : told (L13 P) (upd T12 "which" (.int P.wh)) := told_put "which" (.int P.wh) H12 (by kernel_rfl)
  generalize upd T12 "which" (.int P.wh) = T13 at E H13
  have s14 : ex (WX C) 285 (lawS 14) T13 = some (.next, upd T13 "rule" (.fn (ruleName P.wh))) := by
    refine r_asn "rule" (by kernel_rfl) (by kernel_rfl) (kk (by kernel_rfl)) ?_ rfl
    have H2' : told [("which", .int P.wh)] T13 := ⟨H13.1, trivial⟩
    have hw := wh_lt P
    generalize P.wh = w at H2' hw
    refine ev_lay H2' ?_
    clear H2'
    revert hw
    revert w
    refine lt9 ?_ ?_ ?_ ?_ ?_ ?_ ?_ ?_ ?_ <;> kernel_rfl
  have E := E.trans (r_go (i := 14) (by rw [law_len]; decide) s14)
  have H14 : told (L14 P) (upd T13 "rule" (.fn (ruleName P.wh))) := told_put "rule" (.fn (ruleName P.wh)) H13 (by kernel_rfl)
  generalize upd T13 "rule" (.fn (ruleName P.wh)) = T14 at E H14
  have s15 : ex (WX C) 284 (lawS 15) T14 = some (.next, upd T14 "truth" (.str (truthS P.wh))) := by
    refine r_asn "truth" (by kernel_rfl) (by kernel_rfl) (kk (by kernel_rfl)) ?_ rfl
    have H2' : told [("which", .int P.wh)] T14 := ⟨H14.2.1, trivial⟩
    have hw := wh_lt P
    generalize P.wh = w at H2' hw
    refine ev_lay H2' ?_
    clear H2'
    revert hw
    revert w
    refine lt9 ?_ ?_ ?_ ?_ ?_ ?_ ?_ ?_ ?_ <;> kernel_rfl
  have E := E.trans (r_go (i := 15) (by rw [law_len]; decide) s15)
  have H15 : told (L15 P) (upd T14 "truth" (.str (truthS P.wh))) := told_put "truth" (.str (truthS P.wh)) H14 (by kernel_rfl)
  generalize upd T14 "truth" (.str (truthS P.wh)) = T15 at E H15
  have s16 : ex (WX C) 283 (lawS 16) T15 = some (.next, upd T15 "weights" (weightsV P)) := by
    refine r_asn "weights" (by kernel_rfl) (by kernel_rfl) (kk (by kernel_rfl)) ?_ rfl
    have Hc : told [("cells", P.cells)] T15 := ⟨by simp only [told, L15, L14, L13, L12, L11, L10, L9, L8, L7, F6] at H15; exact H15.2.2.2.2.2.2.2.2.2.2.2.2.2.2.1, trivial⟩
    have e := r_comp (X := WX C) (n := 281) (e := sVal (lawS 16)) (σ := T15) (v := .rng 0 4 1) (xs := (List.range 4).map fun k : Nat => V.int k) (ys := (List.range 4).map fun p : Nat => V.int (wt P.r p)) "p" (by kernel_rfl) (by kernel_rfl) (by kernel_rfl) items_four (by decide) ?_
    · exact e
    · rw [← lay_same Hc]
      have H := compL_all (test := fun v => tsts (compCx (WX C) (cSc (sVal (lawS 16)))) 281 (cIfs (sVal (lawS 16))) (compSg (lay [("cells", P.cells)] T15) "p" (cSc (sVal (lawS 16))) v))
        (elt := fun v => ev (compCx (WX C) (cSc (sVal (lawS 16)))) 281 (cElt (sVal (lawS 16))) (compSg (lay [("cells", P.cells)] T15) "p" (cSc (sVal (lawS 16))) v))
        (fun k : Nat => V.int k) (fun _ => true) (fun p => V.int (wt P.r p)) (List.range 4) (fun p hp => by
          refine ⟨rfl, by kernel_rfl, fun _ => ⟨?_, rfl⟩⟩
          have h : ev (compCx (WX C) (cSc (sVal (lawS 16)))) 281 (cElt (sVal (lawS 16))) (compSg (lay [("cells", P.cells)] T15) "p" (cSc (sVal (lawS 16))) (.int p)) = bin .Pow (.int 2) (.int (((p : Int) + (P.c5 : Int).fdiv ((64 : Nat) : Int)).fmod ((4 : Nat) : Int))) := by kernel_rfl
          rw [h, fdiv_nat, ← Int.natCast_add, fmod_nat, bin_pow _ (Nat.mod_lt _ (by omega))]
          unfold wt Par.r
          have e : (p + P.c5 / 64) % 4 = (p + P.c5 / 64 % 4) % 4 := (Nat.add_mod_mod p (P.c5 / 64) 4).symm
          rw [e])
      rw [List.filter_eq_self.2 (fun _ _ => rfl)] at H
      exact H
  have E := E.trans (r_go (i := 16) (by rw [law_len]; decide) s16)
  have H16 : told (L16 P) (upd T15 "weights" (weightsV P)) := told_put "weights" (weightsV P) H15 (by kernel_rfl)
  generalize upd T15 "weights" (weightsV P) = T16 at E H16
  have s17 : ex (WX C) 282 (lawS 17) T16 = some (.next, upd (upd (upd T16 "pages" (.own [])) "ready" (.own [])) "barred" (.own [])) := by kernel_rfl
  have E := E.trans (r_go (i := 17) (by rw [law_len]; decide) s17)
  have H17 : told (L17 P) (upd (upd (upd T16 "pages" (.own [])) "ready" (.own [])) "barred" (.own [])) := told_put "barred" _ (told_put "ready" _ (told_put "pages" _ H16 (by kernel_rfl)) (by kernel_rfl)) (by kernel_rfl)
  generalize upd (upd (upd T16 "pages" (.own [])) "ready" (.own [])) "barred" (.own []) = T17 at E H17
  have s18 : ex (WX C) 281 (lawS 18) T17 = some (.next, upd T17 "price" (.int 0)) := by kernel_rfl
  have E := E.trans (r_go (i := 18) (by rw [law_len]; decide) s18)
  exact ⟨_, E, told_put "price" _ H17 (by kernel_rfl)⟩
end Mine
end
section
set_option maxRecDepth 20000
namespace Mine
open PySem

theorem xor_par (a b : Nat) : (a ^^^ b) % 2 + 2 * ((a &&& b) % 2) = a % 2 + b % 2 := by
  have x2 := @Nat.xor_mod_two_eq_one a b
  have a2 := @Nat.and_mod_two_eq_one a b
  rcases Nat.mod_two_eq_zero_or_one (a ^^^ b) with h | h <;> rcases Nat.mod_two_eq_zero_or_one (a &&& b) with g | g <;> rcases Nat.mod_two_eq_zero_or_one a with i | i <;> rcases Nat.mod_two_eq_zero_or_one b with j | j <;> rw [h, i, j] at x2 <;> rw [g, i, j] at a2 <;> rw [h, g, i, j] <;> first | rfl | (exact absurd x2 (by decide)) | (exact absurd a2 (by decide))
theorem xor_add {x1 x0 y1 y0 a1 a0 b1 b0 : Nat} (h1 : x1 + 2 * y1 = a1 + b1) (h0 : x0 + 2 * y0 = a0 + b0) : (2 * x1 + x0) + 2 * (2 * y1 + y0) = (2 * a1 + a0) + (2 * b1 + b0) := by
  rw [Nat.mul_add 2 (2 * y1) y0, Nat.add_add_add_comm, ← Nat.mul_add 2 x1, h1, h0, Nat.mul_add, Nat.add_add_add_comm]
theorem xor_sum : ∀ (n a b : Nat), a ≤ n → (a ^^^ b) + 2 * (a &&& b) = a + b
  | 0, a, b, h => by
    have : a = 0 := Nat.le_zero.mp h
    subst this
    simp
  | n + 1, a, b, h => by
    by_cases h0 : a = 0
    · subst h0; simp
    have ih := xor_sum n (a / 2) (b / 2) (Nat.le_of_lt_succ (Nat.lt_of_lt_of_le (Nat.div_lt_self (Nat.pos_of_ne_zero h0) (by decide)) h))
    rw [← Nat.xor_div_two, ← Nat.and_div_two] at ih
    have e := xor_add ih (xor_par a b)
    rw [Nat.div_add_mod, Nat.div_add_mod, Nat.div_add_mod, Nat.div_add_mod] at e
    exact e
theorem bitXor_nat (a b : Nat) : Builtin.bitXor (a : Int) (b : Int) = ((a ^^^ b : Nat) : Int) := by
  have h := xor_sum a a b (Nat.le_refl _)
  have e : Builtin.bitAnd (a : Int) (b : Int) = ((a &&& b : Nat) : Int) := by
    rw [PyProof.Rows.bitAnd_pp (Int.natCast_nonneg _) (Int.natCast_nonneg _)]
    simp
  rw [PyProof.Rows.bitXor_and, e]
  omega
theorem bitAnd_nat (a b : Nat) : Builtin.bitAnd (a : Int) (b : Int) = ((a &&& b : Nat) : Int) := by
  rw [PyProof.Rows.bitAnd_pp (Int.natCast_nonneg _) (Int.natCast_nonneg _)]
  simp

namespace Par
variable (P : Par)
noncomputable def j (p : Nat) : Nat := (p + P.r) % 4
noncomputable def bt (x p : Nat) : Bool := (P.c3 % 16 ^^^ x).testBit (P.j p)
noncomputable def q (b : Bool) : Nat := if b then P.q1 else P.q0
noncomputable def l0 (b : Bool) : Nat := letter P.a0 P.f0 b
noncomputable def l1 (b : Bool) : Nat := letter P.a1 P.f1 b
noncomputable def pg (x : Nat) : List Nat := pageL P.t (sp P.w (P.q (P.bt x 2))) (P.l0 (P.bt x 0)) (P.l1 (P.bt x 1))
noncomputable def rd (x : Nat) : List Nat := [P.t, P.q (P.bt x 2), smallAt P.a0, smallAt P.a1]
noncomputable def prI (p : Nat) : Nat := [costOf P.f0, costOf P.f1, P.g, 0].getD p 0
/-- the price of the places that differ -/
noncomputable def D (x y : Nat) : Nat := (((List.range 4).filter fun p => x.testBit (P.j p) != y.testBit (P.j p)).map P.prI).sum
end Par
theorem j_lt (P : Par) (p : Nat) : P.j p < 4 := Nat.mod_lt _ (by omega)
theorem q_mem (P : Par) (b : Bool) : P.q b ∈ signs7 := by
  cases b
  · exact q0_mem P
  · exact q1_mem P
theorem bt_dif (P : Par) (x y p : Nat) : dif (P.bt x p) (P.bt y p) = if x.testBit (P.j p) != y.testBit (P.j p) then 1 else 0 := by
  unfold Par.bt dif
  rw [Nat.testBit_xor, Nat.testBit_xor]
  cases (P.c3 % 16).testBit (P.j p) <;> cases x.testBit (P.j p) <;> cases y.testBit (P.j p) <;> rfl
theorem gap_q (P : Par) (b c : Bool) : gapP (sp P.w (P.q b)) (sp P.w (P.q c)) = P.g * dif b c := by
  cases b <;> cases c
  · rw [gap_self]; rfl
  · show P.g = _
    simp [dif]
  · have h := List.all_eq_true.1 (List.all_eq_true.1 (List.all_eq_true.1 gap_sym P.w (List.mem_range.2 (w_lt P))) P.q0 (q0_mem P)) P.q1 (q1_mem P)
    have h := eq_of_beq h
    show gapP (sp P.w P.q1) (sp P.w P.q0) = _
    rw [← h]
    show P.g = _
    simp [dif]
  · rw [gap_self]; rfl
theorem take_if {e : Bool} {p : Nat} {l : List Nat} {f : Nat → Nat} : ((if e = true then p :: l else l).map f).sum = (if e = true then f p else 0) + (l.map f).sum := by
  cases e
  · exact (Nat.zero_add _).symm
  · rfl
theorem mul_if (c : Nat) (e : Bool) : c * (if e = true then 1 else 0) = if e = true then c else 0 := by
  cases e
  · rfl
  · exact Nat.mul_one c
theorem price_eq (P : Par) (x y : Nat) : costOf P.f0 * dif (P.bt x 0) (P.bt y 0) + costOf P.f1 * dif (P.bt x 1) (P.bt y 1) + gapP (sp P.w (P.q (P.bt x 2))) (sp P.w (P.q (P.bt y 2))) = P.D x y := by
  rw [gap_q, bt_dif, bt_dif, bt_dif, mul_if, mul_if, mul_if]
  unfold Par.D
  have e : (List.range 4).filter (fun p => x.testBit (P.j p) != y.testBit (P.j p)) = [0, 1, 2, 3].filter (fun p => x.testBit (P.j p) != y.testBit (P.j p)) := rfl
  rw [e]
  simp only [List.filter_cons, List.filter_nil]
  rw [take_if, take_if, take_if, take_if, Nat.add_assoc]
  show _ = (if _ then costOf P.f0 else 0) + ((if _ then costOf P.f1 else 0) + ((if _ then P.g else 0) + ((if _ then 0 else 0) + 0)))
  rw [ite_self]
  rfl
/-- the distance of two pages -/
theorem lev_pages (P : Par) (x y : Nat) : ∃ T : Int → Int, Tells T (P.D x y : Nat) ∧ ∀ m, callF 5 "_levenshtein_distance" [.str (ofL (P.pg x)), .str (ofL (P.pg y)), .int m] = some (.int (T m)) := by
  have h := page_lev (t_mem P) (a0_lt P) (a1_lt P) (f0_lt P) (f1_lt P) (a_ne P) (w_lt P) (q_mem P (P.bt x 2)) (q_mem P (P.bt y 2)) (P.bt x 0) (P.bt y 0) (P.bt x 1) (P.bt y 1) 3
  rw [price_eq] at h
  exact h
theorem D_comm (P : Par) (x y : Nat) : P.D x y = P.D y x := by
  unfold Par.D
  congr 2
  refine List.filter_congr fun p _ => ?_
  cases x.testBit (P.j p) <;> cases y.testBit (P.j p) <;> rfl
theorem bit_of (x jj : Nat) : ((x : Int).fdiv ((2 ^ jj : Nat) : Int)).fmod ((2 : Nat) : Int) = b2i (x.testBit jj) := by
  rw [fdiv_nat, fmod_nat, Nat.testBit_eq_decide_div_mod_eq]
  unfold b2i
  rcases Nat.mod_two_eq_zero_or_one (x / 2 ^ jj) with h | h <;> rw [h] <;> rfl
/-- the bit that the code computes -/
theorem bit_code (c x jj : Nat) (hj : jj < 4) : (((Builtin.bitXor (c : Int) (x : Int)).fdiv ((2 ^ jj : Nat) : Int)).fmod ((2 : Nat) : Int)) = b2i ((c % 16 ^^^ x).testBit jj) := by
  rw [bitXor_nat, bit_of, Nat.testBit_xor, Nat.testBit_xor, show c % 16 = c % 2 ^ 4 from rfl, Nat.testBit_mod_two_pow, decide_eq_true hj, Bool.true_and]
theorem bin_fdiv (a : Int) (b : Nat) (h : 0 < b) (hb : b < 2 ^ 62) : bin .FloorDiv (.int a) (.int b) = some (.int (a.fdiv b)) := by
  have e : bin .FloorDiv (.int a) (.int b) = if decide ((b : Int) ≠ 0) && smallI b then some (.int (a.fdiv b)) else none := rfl
  rw [e, if_pos]
  rw [smallI_nat b hb]
  simp; omega
theorem wt_eq (P : Par) (p : Nat) : wt P.r p = 2 ^ P.j p := rfl
theorem wt_small (P : Par) (p : Nat) : 0 < wt P.r p ∧ wt P.r p < 2 ^ 62 := by
  have h := j_lt P p
  rw [wt_eq]
  exact ⟨Nat.two_pow_pos _, Nat.pow_lt_pow_right (by decide) (by omega)⟩
theorem item_w (P : Par) (p : Nat) (hp : p < 4) : item (weightsV P) (.int p) = some (.int (wt P.r p)) := by
  match p, hp with
  | 0, _ => rfl
  | 1, _ => rfl
  | 2, _ => rfl
  | 3, _ => rfl
end Mine
end
section
set_option maxRecDepth 20000
namespace Mine
open PySem

noncomputable def K0 (P : Par) : List (Str × V) := [("cells", P.cells), ("hand", .fn (escName P.w)), ("pair", pairV P), ("spelled", spelledV P), ("letters", lettersV P), ("prices", pricesV P), ("stay", .str (ofL [P.t])), ("hidden", hiddenV), ("bound", .int P.bnd), ("rule", .fn (ruleName P.wh)), ("truth", .str (truthS P.wh)), ("weights", weightsV P)]
noncomputable def pagesL (P : Par) (n : Nat) : List V := (List.range n).map fun y => V.str (ofL (P.pg y))
noncomputable def readyL (P : Par) (n : Nat) : List V := (List.range n).map fun y => V.str (ofL (P.rd y))
noncomputable abbrev WB : List Stmt := sBody (lawS 19)
theorem WB_len : WB.length = 12 := by kernel_rfl
noncomputable def G0 (P : Par) (x : Nat) (pg rd bs : List V) (pr : Int) : List (Str × V) := ("x", .int x) :: ("pages", .own pg) :: ("ready", .own rd) :: ("barred", .own bs) :: ("price", .int pr) :: K0 P
noncomputable def G1 (P : Par) (x : Nat) (pg rd bs : List V) (pr : Int) : List (Str × V) := ("bits", .lst [.int (b2i (P.bt x 0)), .int (b2i (P.bt x 1)), .int (b2i (P.bt x 2)), .int (b2i (P.bt x 3))]) :: G0 P x pg rd bs pr
noncomputable def baseL (P : Par) (x : Nat) : List Nat := [P.t, P.q (P.bt x 2), P.l0 (P.bt x 0), P.l1 (P.bt x 1)]
noncomputable def insAt {α : Type} (k : Nat) (v : α) (l : List α) : List α := l.take k ++ v :: l.drop k
theorem insAt_map {α β : Type} (f : α → β) (k : Nat) (v : α) (l : List α) : (l.map f).take k ++ f v :: (l.map f).drop k = (insAt k v l).map f := by simp [insAt]
noncomputable def hid (P : Par) (x : Nat) : Nat := b1.getD ((P.c3 / 256 + x) % 27) 0
noncomputable def typedL (P : Par) (x : Nat) : List Nat := if P.bt x 3 then insAt (x % 5) (hid P x) (baseL P x) else baseL P x
noncomputable def dueL (P : Par) (x : Nat) : List Bool := if P.bt x 3 then insAt (x % 5) true [false, false, false, false] else [false, false, false, false]
noncomputable def signV (c : Nat) : V := .str (ofL [c])
noncomputable def G3 (P : Par) (x : Nat) (pg rd bs : List V) (pr : Int) : List (Str × V) := ("due_marks", .own ((dueL P x).map .bool)) :: ("typed", .own ((typedL P x).map signV)) :: G1 P x pg rd bs pr
theorem b1_get : ((List.range 27).all fun i => b1[i]? == some (b1.getD i 0) && b1.contains (b1.getD i 0) && decide (b1.getD i 0 ≤ 1114111)) = true := by kernel_rfl
theorem hid_ok (P : Par) (x : Nat) : b1[(P.c3 / 256 + x) % 27]? = some (hid P x) ∧ b1.contains (hid P x) = true ∧ hid P x ≤ 1114111 := by
  have h := List.all_eq_true.1 b1_get ((P.c3 / 256 + x) % 27) (List.mem_range.2 (Nat.mod_lt _ (by omega)))
  simp only [Bool.and_eq_true, beq_iff_eq, decide_eq_true_eq] at h
  exact ⟨h.1.1, h.1.2, h.2⟩
/-- the bits, the typed signs, the hidden one -/
theorem turn_a (C) (P : Par) (x : Nat) (pg rd bs : List V) (pr : Int) (hx : x < 16) (n : Nat) (T0 : Sg) (H0 : told (G0 P x pg rd bs pr) T0) :
    ∃ σ, exs (WX C) (n + 60) (WB.drop 0) T0 = exs (WX C) (n + 56) (WB.drop 4) σ ∧ told (G3 P x pg rd bs pr) σ := by
  have s0 : ex (WX C) (n + 59) (nth WB 0) T0 = some (.next, upd T0 "bits" (.lst [.int (b2i (P.bt x 0)), .int (b2i (P.bt x 1)), .int (b2i (P.bt x 2)), .int (b2i (P.bt x 3))])) := by
    refine r_asn "bits" (by kernel_rfl) (by kernel_rfl) (kk (by kernel_rfl)) ?_ rfl
    have e := r_comp (X := WX C) (n := n + 57) (e := sVal (nth WB 0)) (σ := T0) (v := .rng 0 4 1) (xs := (List.range 4).map fun k : Nat => V.int k) (ys := (List.range 4).map fun p : Nat => V.int (b2i (P.bt x p))) "p" (by kernel_rfl) (by kernel_rfl) (by kernel_rfl) items_four (by decide) ?_
    · exact e
    · rw [← lay_same H0]
      have H := compL_all (test := fun v => tsts (compCx (WX C) (cSc (sVal (nth WB 0)))) (n + 57) (cIfs (sVal (nth WB 0))) (compSg (lay (G0 P x pg rd bs pr) T0) "p" (cSc (sVal (nth WB 0))) v))
        (elt := fun v => ev (compCx (WX C) (cSc (sVal (nth WB 0)))) (n + 57) (cElt (sVal (nth WB 0))) (compSg (lay (G0 P x pg rd bs pr) T0) "p" (cSc (sVal (nth WB 0))) v))
        (fun k : Nat => V.int k) (fun _ => true) (fun p => V.int (b2i (P.bt x p))) (List.range 4) (fun p hp => by
          refine ⟨rfl, by kernel_rfl, fun _ => ⟨?_, rfl⟩⟩
          have hp := List.mem_range.1 hp
          have h : ev (compCx (WX C) (cSc (sVal (nth WB 0)))) (n + 57) (cElt (sVal (nth WB 0))) (compSg (lay (G0 P x pg rd bs pr) T0) "p" (cSc (sVal (nth WB 0))) (.int p)) = ((item (weightsV P) (.int p)).bind fun u => bin .FloorDiv (.int (Builtin.bitXor (P.c3 : Int) x)) u).bind fun u => bin .Mod u (.int ((2 : Nat) : Int)) := by kernel_rfl
          rw [h, item_w P p hp, Option.bind_some, bin_fdiv _ _ (wt_small P p).1 (wt_small P p).2]
          show some (V.int (((Builtin.bitXor (P.c3 : Int) x).fdiv (wt P.r p : Nat)).fmod ((2 : Nat) : Int))) = _
          rw [wt_eq, bit_code _ _ _ (j_lt P p)]
          rfl)
      rw [List.filter_eq_self.2 (fun _ _ => rfl)] at H
      exact H
  have E := r_go (X := WX C) (n := n + 59) (i := 0) (b := WB) (by rw [WB_len]; decide) s0
  have H1 : told (G1 P x pg rd bs pr) (upd T0 "bits" (.lst [.int (b2i (P.bt x 0)), .int (b2i (P.bt x 1)), .int (b2i (P.bt x 2)), .int (b2i (P.bt x 3))])) := told_put "bits" _ H0 (by kernel_rfl)
  generalize upd T0 "bits" (.lst [.int (b2i (P.bt x 0)), .int (b2i (P.bt x 1)), .int (b2i (P.bt x 2)), .int (b2i (P.bt x 3))]) = T1 at E H1
  have s1 : ex (WX C) (n + 58) (nth WB 1) T1 = some (.next, upd T1 "typed" (.own ((baseL P x).map signV))) := by
    refine r_own "typed" (by kernel_rfl) (by kernel_rfl) (by kernel_rfl) (kk (by kernel_rfl)) ?_
    refine ev_lay H1 ?_
    unfold G1 baseL
    generalize P.bt x 0 = b0
    generalize P.bt x 1 = b1
    generalize P.bt x 2 = b2
    generalize P.bt x 3 = b3
    cases b0 <;> cases b1 <;> cases b2 <;> kernel_rfl
  have E := E.trans (r_go (i := 1) (by rw [WB_len]; decide) s1)
  have s2 : ex (WX C) (n + 57) (nth WB 2) (upd T1 "typed" (.own ((baseL P x).map signV))) = some (.next, upd (upd T1 "typed" (.own ((baseL P x).map signV))) "due_marks" (.own ([false, false, false, false].map .bool))) := by
    refine r_own "due_marks" (by kernel_rfl) (by kernel_rfl) (by kernel_rfl) (kk (by kernel_rfl)) ?_
    kernel_rfl
  have E := E.trans (r_go (i := 2) (by rw [WB_len]; decide) s2)
  have ne1 : ((G1 P x pg rd bs pr).all fun p => !(p.1 == ("typed" : Str))) = true := by kernel_rfl
  have ne2 : ((G1 P x pg rd bs pr).all fun p => !(p.1 == ("due_marks" : Str))) = true := by kernel_rfl
  have ne3 : ∀ v, (((("typed" : Str), v) :: G1 P x pg rd bs pr).all fun p => !(p.1 == ("due_marks" : Str))) = true := fun v => by kernel_rfl
  have H2 : told (("due_marks", .own ([false, false, false, false].map .bool)) :: ("typed", .own ((baseL P x).map signV)) :: G1 P x pg rd bs pr) (upd (upd T1 "typed" (.own ((baseL P x).map signV))) "due_marks" (.own ([false, false, false, false].map .bool))) := told_put _ _ (told_put _ _ H1 ne1) (ne3 _)
  generalize upd (upd T1 "typed" (.own ((baseL P x).map signV))) "due_marks" (.own ([false, false, false, false].map .bool)) = T3 at E H2
  have ht : tst (WX C) (n + 55) (sTest (nth WB 3)) T3 = some (P.bt x 3) := by
    have Hb : told [("bits", .lst [.int (b2i (P.bt x 0)), .int (b2i (P.bt x 1)), .int (b2i (P.bt x 2)), .int (b2i (P.bt x 3))])] T3 := ⟨H2.2.2.1, trivial⟩
    refine tst_lay Hb ?_
    generalize P.bt x 3 = b3
    cases b3 <;> kernel_rfl
  have s3 := r_if (X := WX C) (s := nth WB 3) (by kernel_rfl) ht
  have e3 : ∃ σ, ex (WX C) (n + 56) (nth WB 3) T3 = some (.next, σ) ∧ told (G3 P x pg rd bs pr) σ := by
    unfold G3 typedL dueL
    cases hb : P.bt x 3 with
    | false =>
      rw [hb, if_neg (by simp)] at s3
      have e : exs (WX C) (n + 55) (sElse (nth WB 3)) T3 = some (.next, T3) := by kernel_rfl
      refine ⟨T3, s3.trans e, ?_⟩
      rw [if_neg (by simp), if_neg (by simp)]
      exact H2
    | true =>
      rw [hb, if_pos rfl] at s3
      have blen : (sBody (nth WB 3)).length = 2 := by kernel_rfl
      have hd := hid_ok P x
      have a0 : evs (WX C) (n + 53) (sArgs (nth (sBody (nth WB 3)) 0)) T3 = some [.int (x % 5 : Nat), signV (hid P x)] := by
        refine evs_lay H2 ?_
        have h : evs (WX C) (n + 53) (sArgs (nth (sBody (nth WB 3)) 0)) (lay (("due_marks", .own ([false, false, false, false].map .bool)) :: ("typed", .own ((baseL P x).map signV)) :: G1 P x pg rd bs pr) T3) =
          ((((item hiddenV (.int (((P.c3 : Int).fdiv ((256 : Nat) : Int) + (x : Int)).fmod ((27 : Nat) : Int)))).bind fun v => some [v]).bind fun as => blt "chr" as).bind fun v => some [v]).map (V.int ((x : Int).fmod ((5 : Nat) : Int)) :: ·) := by kernel_rfl
        have hi : item hiddenV (.int ((P.c3 / 256 + x) % 27 : Nat)) = some (.int (hid P x)) := item_lst _ _ _ (by omega) (by rw [List.getElem?_map, hd.1]; rfl)
        rw [h, fdiv_nat, ← Int.natCast_add, fmod_nat, fmod_nat, hi]
        simp only [Option.bind_some]
        rw [chr_ok _ _ rfl hd.2.2]
        rfl
      have q0 := r_insert (X := WX C) (n := n + 53) (s := nth (sBody (nth WB 3)) 0) (σ := T3) "typed" (by kernel_rfl) (by kernel_rfl) (kk (by kernel_rfl)) (by kernel_rfl) H2.2.1 a0 rfl (by simp [baseL]; omega) (show 4 ≤ big by decide)
      have F := r_go (X := WX C) (i := 0) (b := sBody (nth WB 3)) (by rw [blen]; decide) q0
      have J1 : told (("typed", .own ((insAt (x % 5) (hid P x) (baseL P x)).map signV)) :: G1 P x pg rd bs pr) (upd T3 "typed" (.own (((baseL P x).map signV).take (x % 5) ++ signV (hid P x) :: ((baseL P x).map signV).drop (x % 5)))) := by
        have e : ((baseL P x).map signV).take (x % 5) ++ signV (hid P x) :: ((baseL P x).map signV).drop (x % 5) = (insAt (x % 5) (hid P x) (baseL P x)).map signV := by simp [insAt]
        rw [e]
        exact told_put _ _ H2.2.2 ne1
      have hdm : (upd T3 "typed" (.own (((baseL P x).map signV).take (x % 5) ++ signV (hid P x) :: ((baseL P x).map signV).drop (x % 5)))) "due_marks" = some (.own ([false, false, false, false].map .bool)) := by
        rw [upd_ne (by decide)]; exact H2.1
      generalize upd T3 "typed" (.own (((baseL P x).map signV).take (x % 5) ++ signV (hid P x) :: ((baseL P x).map signV).drop (x % 5))) = T4 at F J1 hdm
      have a1 : evs (WX C) (n + 52) (sArgs (nth (sBody (nth WB 3)) 1)) T4 = some [.int (x % 5 : Nat), .bool true] := by
        refine evs_lay J1 ?_
        have h : evs (WX C) (n + 52) (sArgs (nth (sBody (nth WB 3)) 1)) (lay (("typed", .own ((insAt (x % 5) (hid P x) (baseL P x)).map signV)) :: G1 P x pg rd bs pr) T4) = some [.int ((x : Int).fmod ((5 : Nat) : Int)), .bool true] := by kernel_rfl
        rw [h, fmod_nat]
      have q1 := r_insert (X := WX C) (n := n + 52) (s := nth (sBody (nth WB 3)) 1) (σ := T4) "due_marks" (by kernel_rfl) (by kernel_rfl) (kk (by kernel_rfl)) (by kernel_rfl) hdm a1 rfl (by simp; omega) (show 4 ≤ big by decide)
      have F := F.trans (r_go (X := WX C) (i := 1) (b := sBody (nth WB 3)) (by rw [blen]; decide) q1)
      have F := F.trans (r_end (by rw [blen]; decide))
      refine ⟨_, s3.trans F, ?_⟩
      rw [if_pos rfl, if_pos rfl]
      have e : ([false, false, false, false].map V.bool).take (x % 5) ++ V.bool true :: ([false, false, false, false].map V.bool).drop (x % 5) = (insAt (x % 5) true [false, false, false, false]).map .bool := insAt_map V.bool (x % 5) true [false, false, false, false]
      rw [e]
      exact told_put _ _ J1 (ne3 _)
  obtain ⟨σ, e3, H3⟩ := e3
  exact ⟨σ, E.trans (r_go (i := 3) (by rw [WB_len]; decide) e3), H3⟩
end Mine
end
section
set_option maxRecDepth 20000
namespace Mine
open PySem

theorem typed_due (P : Par) (x : Nat) : (typedL P x).map (fun c => b1.contains c) = dueL P x := by
  have hb : (baseL P x).map (fun c => b1.contains c) = [false, false, false, false] := by
    unfold baseL
    simp only [List.map_cons, List.map_nil]
    rw [b1_stay' (t_mem P), b1_sign' (q_mem P _), show P.l0 (P.bt x 0) = letter P.a0 P.f0 (P.bt x 0) from rfl, show P.l1 (P.bt x 1) = letter P.a1 P.f1 (P.bt x 1) from rfl, b1_letter (a0_lt P) (f0_lt P), b1_letter (a1_lt P) (f1_lt P)]
  unfold typedL dueL
  cases P.bt x 3 with
  | false => rw [if_neg (by simp), if_neg (by simp)]; exact hb
  | true =>
    rw [if_pos rfl, if_pos rfl, ← hb]
    have h : ∀ (l : List Nat) (k v : Nat), (insAt k v l).map (fun c => b1.contains c) = insAt k (b1.contains v) (l.map fun c => b1.contains c) := fun l k v => by simp [insAt]
    rw [h, (hid_ok P x).2.1]
theorem due_ne (P : Par) (x : Nat) : dueL P x ≠ [] := by
  unfold dueL insAt
  split <;> simp
theorem min_cut {r : Nat} (h : r ≤ 4) : min r 4 + (4 - r + 1) ≤ 5 := by
  rw [Nat.min_eq_left h, ← Nat.add_assoc, Nat.add_sub_cancel' h]; exact Nat.le_refl 5
theorem typed_len (P : Par) (x : Nat) : (typedL P x).length ≤ 5 := by
  unfold typedL insAt baseL
  split <;> simp <;> exact min_cut (Nat.le_of_lt_succ (Nat.mod_lt _ (by decide)))
theorem eq_bools (l : List Bool) (h : l ≠ []) : eqL (l.map .bool) (l.map .bool) = some true := by
  have hl : ∀ l : List Bool, boolL (l.map .bool) = some l := fun l => by
    induction l with
    | nil => rfl
    | cons x r ih => simp only [List.map_cons, boolL, ih, Option.map_some]
  have hi : intL (l.map .bool) = none := by
    cases l with
    | nil => exact absurd rfl h
    | cons a r => rfl
  unfold eqL
  rw [hi, hl]
  simp
noncomputable def G4 (P : Par) (x : Nat) (pg rd bs : List V) (pr : Int) : List (Str × V) := ("marks", .lst ((dueL P x).map .bool)) :: G3 P x pg rd bs pr
noncomputable def G6 (P : Par) (x : Nat) (pg rd bs : List V) (pr : Int) : List (Str × V) := ("kept", .lst ((baseL P x).map signV)) :: G4 P x pg rd bs pr
/-- the keeping of the signs, told by places -/
theorem keep_fin (P : Par) (x : Nat) : (((List.range (typedL P x).length).filter fun k => !((dueL P x).getD k false)).map fun k => signV ((typedL P x).getD k 0)) = (baseL P x).map signV := by
  have h5 : x % 5 < 5 := Nat.mod_lt _ (by omega)
  unfold typedL dueL baseL
  generalize P.l0 (P.bt x 0) = u
  generalize P.l1 (P.bt x 1) = v
  generalize P.q (P.bt x 2) = q
  generalize hid P x = h
  cases P.bt x 3 with
  | false => rfl
  | true =>
    generalize x % 5 = k at h5
    match k, h5 with
    | 0, _ => rfl
    | 1, _ => rfl
    | 2, _ => rfl
    | 3, _ => rfl
    | 4, _ => rfl
theorem turn_b (C) (hC : C = callF 5) (P : Par) (x : Nat) (pg rd bs : List V) (pr : Int) (hx : x < 16) (n : Nat) (T3 : Sg) (H3 : told (G3 P x pg rd bs pr) T3) :
    ∃ σ, exs (WX C) (n + 56) (WB.drop 4) T3 = exs (WX C) (n + 53) (WB.drop 7) σ ∧ told (G6 P x pg rd bs pr) σ := by
  have tl5 := typed_len P x
  have dl5 : (dueL P x).length = (typedL P x).length := by rw [← typed_due]; simp
  have s4 : ex (WX C) (n + 55) (nth WB 4) T3 = some (.next, upd T3 "marks" (.lst ((dueL P x).map .bool))) := by
    refine r_asn "marks" (by kernel_rfl) (by kernel_rfl) (kk (by kernel_rfl)) ?_ rfl
    have hit : ev (WX C) (n + 53) (cIter (sVal (nth WB 4))) T3 = some (.own ((typedL P x).map signV)) := by
      have Ht : told [("typed", .own ((typedL P x).map signV))] T3 := ⟨H3.2.1, trivial⟩
      refine ev_lay Ht ?_
      kernel_rfl
    have e := r_comp (X := WX C) (n := n + 53) (e := sVal (nth WB 4)) (σ := T3) (xs := (typedL P x).map signV) (ys := (dueL P x).map .bool) "sign" (by kernel_rfl) (by kernel_rfl) hit (items_own _) (by rw [List.length_map]; unfold big; omega) ?_
    · exact e
    · have H := compL_all (test := fun v => tsts (compCx (WX C) (cSc (sVal (nth WB 4)))) (n + 53) (cIfs (sVal (nth WB 4))) (compSg T3 "sign" (cSc (sVal (nth WB 4))) v))
        (elt := fun v => ev (compCx (WX C) (cSc (sVal (nth WB 4)))) (n + 53) (cElt (sVal (nth WB 4))) (compSg T3 "sign" (cSc (sVal (nth WB 4))) v))
        signV (fun _ => true) (fun c => V.bool (b1.contains c)) (typedL P x) (fun c _ => by
          refine ⟨rfl, by kernel_rfl, fun _ => ⟨?_, rfl⟩⟩
          have h : ev (compCx (WX C) (cSc (sVal (nth WB 4)))) (n + 53) (cElt (sVal (nth WB 4))) (compSg T3 "sign" (cSc (sVal (nth WB 4))) (signV c)) = guardOwn [signV c] (C "in_table_b1" [signV c]) := by kernel_rfl
          rw [h, hC, show signV c = .str (ofL [c]) from rfl, c_b1 4]
          rfl)
      rw [List.filter_eq_self.2 (fun _ _ => rfl)] at H
      rw [← typed_due, List.map_map]
      exact H
  have E := r_go (X := WX C) (n := n + 55) (i := 4) (b := WB) (by rw [WB_len]; decide) s4
  have H4 : told (G4 P x pg rd bs pr) (upd T3 "marks" (.lst ((dueL P x).map .bool))) := told_put "marks" _ H3 (by kernel_rfl)
  generalize upd T3 "marks" (.lst ((dueL P x).map .bool)) = T4 at E H4
  have hm1 : ev (WX C) (n + 51) (eArg (sTest (nth WB 5)) 0) T4 = some (.bool false) := by
    refine ev_lay H4 ?_
    have h : ev (WX C) (n + 51) (eArg (sTest (nth WB 5)) 0) (lay (G4 P x pg rd bs pr) T4) = (eqL ((dueL P x).map .bool) ((dueL P x).map .bool)).map fun c => .bool (!c) := by kernel_rfl
    rw [h, eq_bools _ (due_ne P x)]
    rfl
  have hm2 : ev (WX C) (n + 50) (eArg (sTest (nth WB 5)) 1) T4 = some (.bool false) := by
    have hl : ev (WX C) (n + 49) (eL (eArg (sTest (nth WB 5)) 1)) T4 = some (.lst []) := by
      have hit : ev (WX C) (n + 48) (cIter (eL (eArg (sTest (nth WB 5)) 1))) T4 = some (.lst ((dueL P x).map .bool)) := by
        refine ev_lay H4 ?_
        kernel_rfl
      have e := r_comp (X := WX C) (n := n + 48) (e := eL (eArg (sTest (nth WB 5)) 1)) (σ := T4) (xs := (dueL P x).map .bool) (ys := []) "mark" (by kernel_rfl) (by kernel_rfl) hit (items_lst _) (by rw [List.length_map]; unfold big; omega) ?_
      · exact e
      · have H := compL_all (test := fun v => tsts (compCx (WX C) (cSc (eL (eArg (sTest (nth WB 5)) 1)))) (n + 48) (cIfs (eL (eArg (sTest (nth WB 5)) 1))) (compSg T4 "mark" (cSc (eL (eArg (sTest (nth WB 5)) 1))) v))
          (elt := fun v => ev (compCx (WX C) (cSc (eL (eArg (sTest (nth WB 5)) 1)))) (n + 48) (cElt (eL (eArg (sTest (nth WB 5)) 1))) (compSg T4 "mark" (cSc (eL (eArg (sTest (nth WB 5)) 1))) v))
          V.bool (fun _ => false) (fun c => V.nil) (dueL P x) (fun c _ => by
            refine ⟨rfl, ?_, fun h => by simp at h⟩
            kernel_rfl)
        rw [List.filter_eq_nil_iff.2 (by simp)] at H
        exact H
    have h : ev (WX C) (n + 50) (eArg (sTest (nth WB 5)) 1) T4 = (ev (WX C) (n + 49) (eL (eArg (sTest (nth WB 5)) 1)) T4).bind fun a => (some (V.lst [])).bind fun b => cmp .NotEq a b := by kernel_rfl
    rw [h, hl]
    rfl
  have ht : tst (WX C) (n + 54) (sTest (nth WB 5)) T4 = some false := by
    have h : tst (WX C) (n + 54) (sTest (nth WB 5)) T4 = ((ev (WX C) (n + 51) (eArg (sTest (nth WB 5)) 0) T4).bind truth).bind fun t => if t then some true else (((ev (WX C) (n + 50) (eArg (sTest (nth WB 5)) 1) T4).bind truth).bind fun t => if t then some true else some false) := by kernel_rfl
    rw [h, hm1, hm2]
    rfl
  have s5 := r_if (X := WX C) (s := nth WB 5) (by kernel_rfl) ht
  rw [if_neg (by simp)] at s5
  have e5 : exs (WX C) (n + 54) (sElse (nth WB 5)) T4 = some (.next, T4) := by kernel_rfl
  have E := E.trans (r_go (i := 5) (by rw [WB_len]; decide) (s5.trans e5))
  have s6 : ex (WX C) (n + 53) (nth WB 6) T4 = some (.next, upd T4 "kept" (.lst ((baseL P x).map signV))) := by
    refine r_asn "kept" (by kernel_rfl) (by kernel_rfl) (kk (by kernel_rfl)) ?_ rfl
    have hit : ev (WX C) (n + 51) (cIter (sVal (nth WB 6))) T4 = some (.rng 0 (typedL P x).length 1) := by
      refine ev_lay H4 ?_
      have h : ev (WX C) (n + 51) (cIter (sVal (nth WB 6))) (lay (G4 P x pg rd bs pr) T4) = ((blt "len" [.own ((typedL P x).map signV)]).bind fun v => some [v]).bind fun as => mkT "range" as := by kernel_rfl
      have hl : blt "len" [.own ((typedL P x).map signV)] = some (.int (typedL P x).length) := by
        have e : blt "len" [.own ((typedL P x).map signV)] = if ((typedL P x).map signV).length ≤ big then some (.int ((typedL P x).map signV).length) else none := rfl
        rw [e, List.length_map, if_pos (by unfold big; omega)]
      rw [h, hl]
      exact mkT_range _ (by unfold big; omega)
    have e := r_comp (X := WX C) (n := n + 51) (e := sVal (nth WB 6)) (σ := T4) (ys := (baseL P x).map signV) "k" (by kernel_rfl) (by kernel_rfl) hit (items_range _) (by simp; unfold big; omega) ?_
    · exact e
    · rw [← lay_same H4]
      have H := compL_all (test := fun v => tsts (compCx (WX C) (cSc (sVal (nth WB 6)))) (n + 51) (cIfs (sVal (nth WB 6))) (compSg (lay (G4 P x pg rd bs pr) T4) "k" (cSc (sVal (nth WB 6))) v))
        (elt := fun v => ev (compCx (WX C) (cSc (sVal (nth WB 6)))) (n + 51) (cElt (sVal (nth WB 6))) (compSg (lay (G4 P x pg rd bs pr) T4) "k" (cSc (sVal (nth WB 6))) v))
        (fun k : Nat => V.int k) (fun k => !((dueL P x).getD k false)) (fun k => signV ((typedL P x).getD k 0)) (List.range (typedL P x).length) (fun k hk => by
          have hk := List.mem_range.1 hk
          refine ⟨rfl, ?_, fun _ => ⟨?_, rfl⟩⟩
          · have h : tsts (compCx (WX C) (cSc (sVal (nth WB 6)))) (n + 51) (cIfs (sVal (nth WB 6))) (compSg (lay (G4 P x pg rd bs pr) T4) "k" (cSc (sVal (nth WB 6))) (.int k)) = (((item (.lst ((dueL P x).map .bool)) (.int k)).bind truth).map (!·)).bind fun t => if t then some true else some false := by kernel_rfl
            have hi : item (.lst ((dueL P x).map .bool)) (.int k) = some (.bool ((dueL P x).getD k false)) := item_lst _ _ _ (by omega) (by
              rw [List.getElem?_map, List.getElem?_eq_getElem (by omega)]
              simp [List.getElem?_eq_getElem (show k < (dueL P x).length by omega)])
            rw [h, hi]
            cases (dueL P x).getD k false <;> rfl
          · have h : ev (compCx (WX C) (cSc (sVal (nth WB 6)))) (n + 51) (cElt (sVal (nth WB 6))) (compSg (lay (G4 P x pg rd bs pr) T4) "k" (cSc (sVal (nth WB 6))) (.int k)) = item (.own ((typedL P x).map signV)) (.int k) := by kernel_rfl
            rw [h]
            exact item_ownV _ _ _ (by omega) (by
              rw [List.getElem?_map, List.getElem?_eq_getElem (by omega)]
              simp [List.getElem?_eq_getElem hk]))
      rw [keep_fin] at H
      rw [← List.range_eq_range']
      exact H
  have E := E.trans (r_go (i := 6) (by rw [WB_len]; decide) s6)
  exact ⟨_, E, told_put "kept" _ H4 (by kernel_rfl)⟩
end Mine
end
section
set_option maxRecDepth 20000
namespace Mine
open PySem

noncomputable def M0 (P : Par) (x : Nat) (bs : List V) (pr : Int) : List (Str × V) := ("bits", .lst [.int (b2i (P.bt x 0)), .int (b2i (P.bt x 1)), .int (b2i (P.bt x 2)), .int (b2i (P.bt x 3))]) :: ("kept", .lst ((baseL P x).map signV)) :: ("x", .int x) :: ("barred", .own bs) :: ("price", .int pr) :: K0 P
theorem pages_succ (P : Par) (x : Nat) : pagesL P x ++ [V.str (ofL (P.pg x))] = pagesL P (x + 1) := by unfold pagesL; rw [List.range_succ]; simp
theorem ready_succ (P : Par) (x : Nat) : readyL P x ++ [V.str (ofL (P.rd x))] = readyL P (x + 1) := by unfold readyL; rw [List.range_succ]; simp
theorem pages_at (P : Par) (n y : Nat) (h : y < n) (hn : n ≤ 16) : item (.own (pagesL P n)) (.int y) = some (.str (ofL (P.pg y))) := item_ownV _ _ _ (by omega) (by unfold pagesL; rw [List.getElem?_map, List.getElem?_range h]; rfl)
theorem ready_at (P : Par) (n y : Nat) (h : y < n) (hn : n ≤ 16) : item (.own (readyL P n)) (.int y) = some (.str (ofL (P.rd y))) := item_ownV _ _ _ (by omega) (by unfold readyL; rw [List.getElem?_map, List.getElem?_range h]; rfl)
noncomputable def compR : Expr := eArg ((sArgs (nth WB 8)).getD 0 (.Constant .none 0 p0)) 0
theorem turn_c (C) (hC : C = callF 5) (P : Par) (x : Nat) (bs : List V) (pr : Int) (hx : x < 16) (n : Nat) (T6 : Sg) (H6 : told (G6 P x (pagesL P x) (readyL P x) bs pr) T6) :
    ∃ σ, exs (WX C) (n + 53) (WB.drop 7) T6 = exs (WX C) (n + 49) (WB.drop 11) σ ∧ told (("ready", .own (readyL P (x + 1))) :: ("pages", .own (pagesL P (x + 1))) :: M0 P x bs pr) σ := by
  have HM : told (M0 P x bs pr) T6 := ⟨H6.2.2.2.2.1, H6.1, H6.2.2.2.2.2.1, H6.2.2.2.2.2.2.2.2.1, H6.2.2.2.2.2.2.2.2.2.1, H6.2.2.2.2.2.2.2.2.2.2⟩
  have Hp : T6 "pages" = some (.own (pagesL P x)) := H6.2.2.2.2.2.2.1
  have Hr : T6 "ready" = some (.own (readyL P x)) := H6.2.2.2.2.2.2.2.1
  have hkept : V.lst ((baseL P x).map signV) = V.lst (((baseL P x).map fun c => [c]).map fun s => V.str (ofL s)) := by rw [List.map_map]; rfl
  have a7 : evs (WX C) (n + 51) (sArgs (nth WB 7)) T6 = some [.str (ofL (P.pg x))] := by
    refine evs_lay HM ?_
    have h : evs (WX C) (n + 51) (sArgs (nth WB 7)) (lay (M0 P x bs pr) T6) = ((((meth "join" (.str "") [.lst ((baseL P x).map signV)]).bind fun v => some [v]).bind fun as => guardOwn as (C (escName P.w) as)).bind fun v => some [v]) := by kernel_rfl
    have hj := meth_join ((baseL P x).map fun c => [c]) (show 4 ≤ big by decide)
    have hfl : ((baseL P x).map fun c => [c]).flatten = baseL P x := rfl
    rw [hfl] at hj
    have hh := c_hand (w_lt P) (t_mem P) (q_mem P (P.bt x 2)) (a0_lt P) (f0_lt P) (a1_lt P) (f1_lt P) (P.bt x 0) (P.bt x 1) 4
    rw [h, hkept, hj]
    simp only [Option.bind_some]
    rw [hC]
    have e : callF 5 (escName P.w) [.str (ofL (baseL P x))] = some (.str (ofL (P.pg x))) := hh
    rw [e]
    rfl
  have s7 := r_append (X := WX C) (n := n + 51) (s := nth WB 7) (σ := T6) "pages" (by kernel_rfl) (by kernel_rfl) (kk (by kernel_rfl)) (by kernel_rfl) Hp a7 rfl (by simp [pagesL]; unfold big; omega)
  rw [pages_succ] at s7
  have E := r_go (X := WX C) (n := n + 52) (i := 7) (b := WB) (by rw [WB_len]; decide) s7
  have H7 : told (("pages", .own (pagesL P (x + 1))) :: M0 P x bs pr) (upd T6 "pages" (.own (pagesL P (x + 1)))) := told_put "pages" _ HM (by kernel_rfl)
  have Hr7 : (upd T6 "pages" (.own (pagesL P (x + 1)))) "ready" = some (.own (readyL P x)) := by rw [upd_ne (by decide)]; exact Hr
  generalize upd T6 "pages" (.own (pagesL P (x + 1))) = T7 at E H7 Hr7
  have a8 : evs (WX C) (n + 50) (sArgs (nth WB 8)) T7 = some [.str (ofL (P.rd x))] := by
    have h : evs (WX C) (n + 50) (sArgs (nth WB 8)) T7 = (((ev (WX C) (n + 47) compR T7).bind fun a => some [a]).bind fun as => meth "join" (.str "") as).bind fun v => some [v] := by kernel_rfl
    have hit : ev (WX C) (n + 46) (cIter compR) T7 = some (.lst ((baseL P x).map signV)) := by
      have Hk : told [("kept", .lst ((baseL P x).map signV))] T7 := ⟨H7.2.2.1, trivial⟩
      refine ev_lay Hk ?_
      kernel_rfl
    have e : ev (WX C) (n + 47) compR T7 = some (.lst ((P.rd x).map signV)) := by
      have e := r_comp (X := WX C) (n := n + 46) (e := compR) (σ := T7) (xs := (baseL P x).map signV) (ys := (P.rd x).map signV) "sign" (by kernel_rfl) (by kernel_rfl) hit (items_lst _) (show 4 ≤ big by decide) ?_
      · exact e
      · have hcall : ∀ c d, C "map_table_b3" [signV c] = some (signV d) → ev (compCx (WX C) (cSc compR)) (n + 46) (cElt compR) (compSg T7 "sign" (cSc compR) (signV c)) = some (signV d) := fun c d hcd => by
          have h : ev (compCx (WX C) (cSc compR)) (n + 46) (cElt compR) (compSg T7 "sign" (cSc compR) (signV c)) = guardOwn [signV c] (C "map_table_b3" [signV c]) := by kernel_rfl
          rw [h, hcd]
          rfl
        have H := compL_all (test := fun v => tsts (compCx (WX C) (cSc compR)) (n + 46) (cIfs compR) (compSg T7 "sign" (cSc compR) v))
          (elt := fun v => ev (compCx (WX C) (cSc compR)) (n + 46) (cElt compR) (compSg T7 "sign" (cSc compR) v))
          (fun p : Nat × Nat => signV p.1) (fun _ => true) (fun p => signV p.2) [(P.t, P.t), (P.q (P.bt x 2), P.q (P.bt x 2)), (P.l0 (P.bt x 0), smallAt P.a0), (P.l1 (P.bt x 1), smallAt P.a1)] (fun p hp => by
            refine ⟨rfl, by kernel_rfl, fun _ => ⟨?_, rfl⟩⟩
            refine hcall _ _ ?_
            rw [hC]
            simp only [List.mem_cons, List.not_mem_nil, or_false] at hp
            rcases hp with rfl | rfl | rfl | rfl
            · exact c_b3_stay 4 (t_mem P)
            · exact c_b3_sign 4 (q_mem P _)
            · exact c_b3_letter 4 (a0_lt P) (f0_lt P) _
            · exact c_b3_letter 4 (a1_lt P) (f1_lt P) _)
        exact H
    have hj := meth_join ((P.rd x).map fun c => [c]) (show 4 ≤ big by decide)
    have hfl : ((P.rd x).map fun c => [c]).flatten = P.rd x := rfl
    rw [hfl] at hj
    have hk2 : V.lst ((P.rd x).map signV) = V.lst (((P.rd x).map fun c => [c]).map fun s => V.str (ofL s)) := by rw [List.map_map]; rfl
    rw [h, e, hk2]
    simp only [Option.bind_some]
    rw [hj]
    rfl
  have s8 := r_append (X := WX C) (n := n + 50) (s := nth WB 8) (σ := T7) "ready" (by kernel_rfl) (by kernel_rfl) (kk (by kernel_rfl)) (by kernel_rfl) Hr7 a8 rfl (by simp [readyL]; unfold big; omega)
  rw [ready_succ] at s8
  have E := E.trans (r_go (i := 8) (by rw [WB_len]; decide) s8)
  have H8 : told (("ready", .own (readyL P (x + 1))) :: ("pages", .own (pagesL P (x + 1))) :: M0 P x bs pr) (upd T7 "ready" (.own (readyL P (x + 1)))) := told_put "ready" _ H7 (by kernel_rfl)
  generalize upd T7 "ready" (.own (readyL P (x + 1))) = T8 at E H8
  have ip := pages_at P (x + 1) x (by omega) (by omega)
  have ir := ready_at P (x + 1) x (by omega) (by omega)
  have ht9 : tst (WX C) (n + 49) (sTest (nth WB 9)) T8 = some false := by
    refine tst_lay H8 ?_
    have h : tst (WX C) (n + 49) (sTest (nth WB 9)) (lay (("ready", .own (readyL P (x + 1))) :: ("pages", .own (pagesL P (x + 1))) :: M0 P x bs pr) T8) =
      ((item (.own (pagesL P (x + 1))) (.int x)).bind fun a => (((bin .Add (.str (ofL [P.t])) (.str (ofL (sp P.w (P.q (P.bt x 2)))))).bind fun u => bin .Add u (.str (ofL [P.l0 (P.bt x 0)]))).bind fun u => bin .Add u (.str (ofL [P.l1 (P.bt x 1)]))).bind fun b => cmp .NotEq a b).bind truth := by
      unfold M0
      generalize pagesL P (x + 1) = pgs
      generalize readyL P (x + 1) = rds
      generalize (baseL P x).map signV = kp
      generalize P.bt x 0 = b0
      generalize P.bt x 1 = b1
      generalize P.bt x 2 = b2
      generalize P.bt x 3 = b3
      cases b0 <;> cases b1 <;> cases b2 <;> kernel_rfl
    have sl := (sp_ok (w_lt P) (q_mem P (P.bt x 2))).2
    rw [h, ip, bin_add_str _ _ (by unfold big; simp; omega)]
    simp only [Option.bind_some]
    rw [bin_add_str _ _ (by unfold big; simp; omega)]
    simp only [Option.bind_some]
    rw [bin_add_str _ _ (by unfold big; simp; omega)]
    simp only [Option.bind_some]
    have e : [P.t] ++ sp P.w (P.q (P.bt x 2)) ++ [P.l0 (P.bt x 0)] ++ [P.l1 (P.bt x 1)] = P.pg x := by unfold Par.pg pageL; simp
    rw [e]
    show some (ofL (P.pg x) != ofL (P.pg x)) = _
    simp
  have s9 := r_if (X := WX C) (s := nth WB 9) (by kernel_rfl) ht9
  rw [if_neg (by simp)] at s9
  have e9 : exs (WX C) (n + 49) (sElse (nth WB 9)) T8 = some (.next, T8) := by kernel_rfl
  have E := E.trans (r_go (i := 9) (by rw [WB_len]; decide) (s9.trans e9))
  have ht10 : tst (WX C) (n + 48) (sTest (nth WB 10)) T8 = some false := by
    refine tst_lay H8 ?_
    have h : tst (WX C) (n + 48) (sTest (nth WB 10)) (lay (("ready", .own (readyL P (x + 1))) :: ("pages", .own (pagesL P (x + 1))) :: M0 P x bs pr) T8) =
      ((item (.own (readyL P (x + 1))) (.int x)).bind fun a => (((bin .Add (.str (ofL [P.t])) (.str (ofL [P.q (P.bt x 2)]))).bind fun u => bin .Add u (.str (ofL [smallAt P.a0]))).bind fun u => bin .Add u (.str (ofL [smallAt P.a1]))).bind fun b => cmp .NotEq a b).bind truth := by
      unfold M0
      generalize pagesL P (x + 1) = pgs
      generalize readyL P (x + 1) = rds
      generalize (baseL P x).map signV = kp
      generalize P.bt x 0 = b0
      generalize P.bt x 1 = b1
      generalize P.bt x 2 = b2
      generalize P.bt x 3 = b3
      cases b2 <;> kernel_rfl
    rw [h, ir, bin_add_str [P.t] [P.q (P.bt x 2)] (show 2 ≤ big by decide)]
    simp only [Option.bind_some]
    rw [bin_add_str ([P.t] ++ [P.q (P.bt x 2)]) [smallAt P.a0] (show 3 ≤ big by decide)]
    simp only [Option.bind_some]
    rw [bin_add_str ([P.t] ++ [P.q (P.bt x 2)] ++ [smallAt P.a0]) [smallAt P.a1] (show 4 ≤ big by decide)]
    simp only [Option.bind_some]
    show some (ofL (P.rd x) != ofL (P.rd x)) = _
    simp
  have s10 := r_if (X := WX C) (s := nth WB 10) (by kernel_rfl) ht10
  rw [if_neg (by simp)] at s10
  have e10 : exs (WX C) (n + 48) (sElse (nth WB 10)) T8 = some (.next, T8) := by kernel_rfl
  have E := E.trans (r_go (i := 10) (by rw [WB_len]; decide) (s10.trans e10))
  exact ⟨T8, E, H8⟩
end Mine
end
section
set_option maxRecDepth 20000
namespace Mine
open PySem

noncomputable abbrev XB : List Stmt := sBody (nth WB 11)
theorem XB_len : XB.length = 6 := by kernel_rfl
noncomputable def N0 (P : Par) (x : Nat) (bs : List V) : List (Str × V) := ("x", .int x) :: ("barred", .own bs) :: ("ready", .own (readyL P (x + 1))) :: ("pages", .own (pagesL P (x + 1))) :: K0 P
noncomputable def barB (P : Par) (x : Nat) : Bool := ruleB P.wh (decide (P.D x 0 < P.bnd)) (!(x.testBit (P.j 2)))
theorem item_price (P : Par) (p : Nat) (hp : p < 4) : item (pricesV P) (.int p) = some (.int (P.prI p)) := by
  match p, hp with
  | 0, _ => rfl
  | 1, _ => rfl
  | 2, _ => rfl
  | 3, _ => rfl
theorem intL_map : ∀ l : List Int, intL (l.map .int) = some l
  | [] => rfl
  | x :: r => by simp only [List.map_cons, intL, intL_map r, Option.map_some]
theorem blt_sum (l : List Nat) : blt "sum" [.lst (l.map fun k : Nat => V.int k)] = some (.int (l.sum : Nat)) := by
  have e : blt "sum" [.lst (l.map fun k : Nat => V.int k)] = (intL (l.map fun k : Nat => V.int k)).map fun l => .int l.sum := rfl
  have e2 : (l.map fun k : Nat => V.int k) = (l.map fun k : Nat => (k : Int)).map V.int := by rw [List.map_map]; rfl
  rw [e, e2, intL_map]
  have : ∀ l : List Nat, (l.map fun k : Nat => (k : Int)).sum = (l.sum : Nat) := fun l => by
    induction l with
    | nil => rfl
    | cons a r ih => simp only [List.map_cons, List.sum_cons, ih]; omega
  rw [Option.map_some, this]
/-- the bits' test in a comprehension -/
theorem bit_test (P : Par) (x p : Nat) (hp : p < 4) : (((item (weightsV P) (.int p)).bind fun u => bin .FloorDiv (.int x) u).bind fun u => bin .Mod u (.int ((2 : Nat) : Int))) = some (.int (b2i (x.testBit (P.j p)))) := by
  rw [item_w P p hp, Option.bind_some, bin_fdiv _ _ (wt_small P p).1 (wt_small P p).2]
  show some (V.int (((x : Int).fdiv (wt P.r p : Nat)).fmod ((2 : Nat) : Int))) = _
  rw [wt_eq, bit_of]
theorem D_zero (P : Par) (x : Nat) : (((List.range 4).filter fun p => x.testBit (P.j p)).map P.prI).sum = P.D x 0 := by
  unfold Par.D
  congr 2
  refine List.filter_congr fun p _ => ?_
  rw [Nat.zero_testBit]
  cases x.testBit (P.j p) <;> rfl
theorem rd_eq (P : Par) (x : Nat) : (ofL (P.rd x) == ofL (P.rd 0)) = !(x.testBit (P.j 2)) := by
  have hq : P.q0 ≠ P.q1 := by
    have h : ((List.range 7).all fun i => (List.range 7).all fun k => i == k || signs7.getD i 0 != signs7.getD k 0) = true := by kernel_rfl
    have h := List.all_eq_true.1 (List.all_eq_true.1 h P.i0 (List.mem_range.2 (i0_lt P))) P.i1 (List.mem_range.2 (i1_lt P))
    have n := i_ne P
    unfold Par.q0 Par.q1
    simpa [n] using h
  rw [ofL_beq]
  unfold Par.rd Par.bt
  rw [Nat.xor_zero, Nat.testBit_xor]
  cases (P.c3 % 16).testBit (P.j 2) <;> cases x.testBit (P.j 2) <;> simp [Par.q, hq, Ne.symm hq]
theorem truth_fin (w : Nat) (hw : w < 9) (near xb : Bool) : ((item (.str (truthS w)) (.int (2 * (if near then 1 else 0) + 1 - b2i xb))).bind fun a => cmp .Eq a (.str "1")) = some (.bool (ruleB w near (!xb))) := by
  revert hw
  revert w
  cases near <;> cases xb <;> (refine lt9 ?_ ?_ ?_ ?_ ?_ ?_ ?_ ?_ ?_ <;> kernel_rfl)
noncomputable def prComp : Expr := eArg (sVal (nth XB 0)) 0
/-- the price, and what is told -/
theorem turn_d (C) (hC : C = callF 5) (P : Par) (x : Nat) (bs : List V) (hx : x < 16) (n : Nat) (T0 : Sg) (H0 : told (N0 P x bs) T0) :
    ∃ σ τ, exs (WX C) (n + 47) (XB.drop 0) T0 = exs (WX C) (n + 45) (XB.drop 2) σ ∧ told (("told", .int τ) :: ("price", .int (P.D x 0 : Nat)) :: N0 P x bs) σ ∧ (τ = (P.D x 0 : Nat) ∨ ((P.bnd : Int) ≤ (P.D x 0 : Nat) ∧ τ = P.bnd)) := by
  have s0 : ex (WX C) (n + 46) (nth XB 0) T0 = some (.next, upd T0 "price" (.int (P.D x 0 : Nat))) := by
    refine r_asn "price" (by kernel_rfl) (by kernel_rfl) (kk (by kernel_rfl)) ?_ rfl
    have h : ev (WX C) (n + 45) (sVal (nth XB 0)) T0 = ((ev (WX C) (n + 43) prComp T0).bind fun a => some [a]).bind fun as => blt "sum" as := by kernel_rfl
    have e : ev (WX C) (n + 43) prComp T0 = some (.lst ((((List.range 4).filter fun p => x.testBit (P.j p)).map P.prI).map fun k : Nat => V.int k)) := by
      have e := r_comp (X := WX C) (n := n + 42) (e := prComp) (σ := T0) (v := .rng 0 4 1) (xs := (List.range 4).map fun k : Nat => V.int k) (ys := ((List.range 4).filter fun p => x.testBit (P.j p)).map fun p => V.int (P.prI p)) "p" (by kernel_rfl) (by kernel_rfl) (by kernel_rfl) items_four (by decide) ?_
      · rw [List.map_map]
        exact e
      · rw [← lay_same H0]
        exact compL_all (test := fun v => tsts (compCx (WX C) (cSc prComp)) (n + 42) (cIfs prComp) (compSg (lay (N0 P x bs) T0) "p" (cSc prComp) v))
          (elt := fun v => ev (compCx (WX C) (cSc prComp)) (n + 42) (cElt prComp) (compSg (lay (N0 P x bs) T0) "p" (cSc prComp) v))
          (fun k : Nat => V.int k) (fun p => x.testBit (P.j p)) (fun p => V.int (P.prI p)) (List.range 4) (fun p hp => by
            have hp := List.mem_range.1 hp
            refine ⟨rfl, ?_, fun _ => ⟨?_, rfl⟩⟩
            · have h : tsts (compCx (WX C) (cSc prComp)) (n + 42) (cIfs prComp) (compSg (lay (N0 P x bs) T0) "p" (cSc prComp) (.int p)) = (((((item (weightsV P) (.int p)).bind fun u => bin .FloorDiv (.int x) u).bind fun u => bin .Mod u (.int ((2 : Nat) : Int))).bind fun a => cmp .Eq a (.int 1)).bind truth).bind fun t => if t then some true else some false := by kernel_rfl
              rw [h, bit_test P x p hp]
              cases x.testBit (P.j p) <;> rfl
            · have h : ev (compCx (WX C) (cSc prComp)) (n + 42) (cElt prComp) (compSg (lay (N0 P x bs) T0) "p" (cSc prComp) (.int p)) = item (pricesV P) (.int p) := by kernel_rfl
              rw [h, item_price P p hp])
    rw [h, e]
    simp only [Option.bind_some]
    rw [blt_sum, D_zero]
  have E := r_go (X := WX C) (n := n + 46) (i := 0) (b := XB) (by rw [XB_len]; decide) s0
  have H1 : told (("price", .int (P.D x 0 : Nat)) :: N0 P x bs) (upd T0 "price" (.int (P.D x 0 : Nat))) := told_put "price" _ H0 (by kernel_rfl)
  generalize upd T0 "price" (.int (P.D x 0 : Nat)) = T1 at E H1
  have i0 := pages_at P (x + 1) 0 (by omega) (by omega)
  have ix := pages_at P (x + 1) x (by omega) (by omega)
  have ht : tst (WX C) (n + 44) (sTest (nth XB 1)) T1 = some ((x : Int).fmod ((2 : Nat) : Int) == 0) := by
    refine tst_lay H1 ?_
    kernel_rfl
  have s1 := r_if (X := WX C) (s := nth XB 1) (by kernel_rfl) ht
  have bl1 : (sBody (nth XB 1)).length = 1 := by kernel_rfl
  have bl2 : (sElse (nth XB 1)).length = 1 := by kernel_rfl
  have fin : ∀ τ : Int, ex (WX C) (n + 45) (nth XB 1) T1 = some (.next, upd T1 "told" (.int τ)) → (τ = (P.D x 0 : Nat) ∨ ((P.bnd : Int) ≤ (P.D x 0 : Nat) ∧ τ = P.bnd)) →
      ∃ σ τ, exs (WX C) (n + 47) (XB.drop 0) T0 = exs (WX C) (n + 45) (XB.drop 2) σ ∧ told (("told", .int τ) :: ("price", .int (P.D x 0 : Nat)) :: N0 P x bs) σ ∧ (τ = (P.D x 0 : Nat) ∨ ((P.bnd : Int) ≤ (P.D x 0 : Nat) ∧ τ = P.bnd)) := fun τ h ht =>
    ⟨_, τ, E.trans (r_go (i := 1) (by rw [XB_len]; decide) h), told_put "told" _ H1 (by kernel_rfl), ht⟩
  have hb2 : 2 ≤ P.bnd := by unfold Par.bnd; omega
  have hb4 : P.bnd ≤ 4 := by unfold Par.bnd; omega
  cases hpar : ((x : Int).fmod ((2 : Nat) : Int) == 0) with
  | true =>
    rw [hpar, if_pos rfl] at s1
    obtain ⟨T, hT, hcall⟩ := lev_pages P 0 x
    rw [D_comm] at hT
    refine fin (T ((P.bnd : Int) - 1)) (s1.trans ?_) (hT.2 _ hb2 hb4)
    have q : ex (WX C) (n + 43) (nth (sBody (nth XB 1)) 0) T1 = some (.next, upd T1 "told" (.int (T ((P.bnd : Int) - 1)))) := by
      refine r_asn "told" (by kernel_rfl) (by kernel_rfl) (kk (by kernel_rfl)) ?_ rfl
      refine ev_lay H1 ?_
      have h : ev (WX C) (n + 42) (sVal (nth (sBody (nth XB 1)) 0)) (lay (("price", .int (P.D x 0 : Nat)) :: N0 P x bs) T1) = ((item (.own (pagesL P (x + 1))) (.int (0 : Nat))).bind fun a => ((item (.own (pagesL P (x + 1))) (.int x)).bind fun b => some [b, .int ((P.bnd : Int) - 1)]).map (a :: ·)).bind fun as => guardOwn as (C "_levenshtein_distance" as) := by kernel_rfl
      rw [h, i0, ix]
      simp only [Option.bind_some, Option.map_some]
      rw [hC, hcall]
      rfl
    exact (r_go (X := WX C) (i := 0) (by rw [bl1]; decide) q).trans (r_end (by rw [bl1]; decide))
  | false =>
    rw [hpar, if_neg (by simp)] at s1
    obtain ⟨T, hT, hcall⟩ := lev_pages P x 0
    refine fin (T ((P.bnd : Int) - 1)) (s1.trans ?_) (hT.2 _ hb2 hb4)
    have q : ex (WX C) (n + 43) (nth (sElse (nth XB 1)) 0) T1 = some (.next, upd T1 "told" (.int (T ((P.bnd : Int) - 1)))) := by
      refine r_asn "told" (by kernel_rfl) (by kernel_rfl) (kk (by kernel_rfl)) ?_ rfl
      refine ev_lay H1 ?_
      have h : ev (WX C) (n + 42) (sVal (nth (sElse (nth XB 1)) 0)) (lay (("price", .int (P.D x 0 : Nat)) :: N0 P x bs) T1) = ((item (.own (pagesL P (x + 1))) (.int x)).bind fun a => ((item (.own (pagesL P (x + 1))) (.int (0 : Nat))).bind fun b => some [b, .int ((P.bnd : Int) - 1)]).map (a :: ·)).bind fun as => guardOwn as (C "_levenshtein_distance" as) := by kernel_rfl
      rw [h, i0, ix]
      simp only [Option.bind_some, Option.map_some]
      rw [hC, hcall]
      rfl
    exact (r_go (X := WX C) (i := 0) (by rw [bl2]; decide) q).trans (r_end (by rw [bl2]; decide))
end Mine
end
section
set_option maxRecDepth 20000
namespace Mine
open PySem

/-- the checks of what is told, the bar -/
theorem turn_e (C) (hC : C = callF 5) (P : Par) (x : Nat) (bs : List V) (hx : x < 16) (hbs : bs.length ≤ 16) (n : Nat) (τ : Int) (T1 : Sg) (H1 : told (("told", .int τ) :: ("price", .int (P.D x 0 : Nat)) :: N0 P x bs) T1) (hτ : τ = (P.D x 0 : Nat) ∨ ((P.bnd : Int) ≤ (P.D x 0 : Nat) ∧ τ = P.bnd)) :
    ∃ σ, exs (WX C) (n + 45) (XB.drop 2) T1 = some (.next, σ) ∧ told (("price", .int (P.D x 0 : Nat)) :: N0 P x (if barB P x then bs ++ [.int x] else bs)) σ := by
  have ht2 : tst (WX C) (n + 43) (sTest (nth XB 2)) T1 = some false := by
    refine tst_lay H1 ?_
    have h : tst (WX C) (n + 43) (sTest (nth XB 2)) (lay (("told", .int τ) :: ("price", .int (P.D x 0 : Nat)) :: N0 P x bs) T1) =
      (((guardOwn [.int τ, .int (P.D x 0 : Nat)] (C "_law_is" [.int τ, .int (P.D x 0 : Nat)])).bind truth).map (!·)).bind fun t => if t then
        ((if decide (((P.D x 0 : Nat) : Int) < (P.bnd : Int)) then some true else ((((guardOwn [.int τ, .int P.bnd] (C "_law_is" [.int τ, .int P.bnd])).bind truth).map (!·)).bind fun t => if t then some true else some false)).bind fun t => if t then some true else some false) else some false := by kernel_rfl
    have gb : ∀ (as : List V) (b : Bool), guardOwn as (some (.bool b)) = some (.bool b) := fun as b => rfl
    rw [h, hC, c_is 4, c_is 4, gb, gb]
    rcases hτ with e | ⟨e1, e2⟩
    · rw [e, beq_self_eq_true]
      rfl
    · rw [e2, beq_self_eq_true, decide_eq_false (Int.not_lt.mpr e1)]
      generalize ((P.bnd : Int) == ((P.D x 0 : Nat) : Int)) = q
      cases q <;> rfl
  have s2 := r_if (X := WX C) (s := nth XB 2) (by kernel_rfl) ht2
  rw [if_neg (by simp)] at s2
  have e2 : exs (WX C) (n + 43) (sElse (nth XB 2)) T1 = some (.next, T1) := by kernel_rfl
  have E := r_go (X := WX C) (i := 2) (b := XB) (by rw [XB_len]; decide) (s2.trans e2)
  have i0 := ready_at P (x + 1) 0 (by omega) (by omega)
  have ix := ready_at P (x + 1) x (by omega) (by omega)
  have s3 : ex (WX C) (n + 43) (nth XB 3) T1 = some (.next, upd T1 "bars" (.bool (barB P x))) := by
    refine r_asn "bars" (by kernel_rfl) (by kernel_rfl) (kk (by kernel_rfl)) ?_ rfl
    refine ev_lay H1 ?_
    have h : ev (WX C) (n + 42) (sVal (nth XB 3)) (lay (("told", .int τ) :: ("price", .int (P.D x 0 : Nat)) :: N0 P x bs) T1) =
      ((guardOwn [.int τ, .int P.bnd] (C "lt" [.int τ, .int P.bnd])).bind fun a => ((((item (.own (readyL P (x + 1))) (.int x)).bind fun a => ((item (.own (readyL P (x + 1))) (.int (0 : Nat))).bind fun b => some [b]).map (a :: ·)).bind fun as => guardOwn as (C "eq" as)).bind fun b => some [b]).map (a :: ·)).bind fun as => guardOwn as (C (ruleName P.wh) as) := by kernel_rfl
    have hlt : decide (τ < (P.bnd : Int)) = decide (P.D x 0 < P.bnd) := by
      rcases hτ with e | ⟨e1, e2⟩
      · rw [e]; congr 1; simp
      · rw [decide_eq_false (by omega), decide_eq_false (by omega)]
    rw [h, i0, ix]
    simp only [Option.bind_some, Option.map_some]
    rw [hC, c_lt 4, c_eq 4, hlt, rd_eq]
    have g : ∀ (as : List V) (b : Bool), guardOwn as (some (.bool b)) = some (.bool b) := fun as b => rfl
    rw [g, g]
    simp only [Option.bind_some, Option.map_some]
    rw [c_rule 4 _ (wh_lt P), g]
    rfl
  have E := E.trans (r_go (i := 3) (by rw [XB_len]; decide) s3)
  have H3 : told (("bars", .bool (barB P x)) :: ("told", .int τ) :: ("price", .int (P.D x 0 : Nat)) :: N0 P x bs) (upd T1 "bars" (.bool (barB P x))) := told_put "bars" _ H1 (by kernel_rfl)
  generalize upd T1 "bars" (.bool (barB P x)) = T3 at E H3
  have ht4 : tst (WX C) (n + 41) (sTest (nth XB 4)) T3 = some false := by
    refine tst_lay H3 ?_
    have h : tst (WX C) (n + 41) (sTest (nth XB 4)) (lay (("bars", .bool (barB P x)) :: ("told", .int τ) :: ("price", .int (P.D x 0 : Nat)) :: N0 P x bs) T3) =
      Option.map (!·) ((((((((((item (weightsV P) (.int (2 : Nat))).bind fun u => bin .FloorDiv (.int x) u).bind fun u => bin .Mod u (.int ((2 : Nat) : Int))).bind fun u => bin .Sub (.int (2 * (if decide (((P.D x 0 : Nat) : Int) < (P.bnd : Int)) then 1 else 0) + 1)) u).bind fun i => item (.str (truthS P.wh)) i).bind fun a => cmp .Eq a (.str "1")).bind fun b => some [b]).map (V.bool (barB P x) :: ·)).bind fun as => guardOwn as (C "_law_is" as)).bind truth) := by kernel_rfl
    have hb := bit_test P x 2 (by omega)
    have hd : decide (((P.D x 0 : Nat) : Int) < (P.bnd : Int)) = decide (P.D x 0 < P.bnd) := by congr 1; simp
    have tf := truth_fin P.wh (wh_lt P) (decide (P.D x 0 < P.bnd)) (x.testBit (P.j 2))
    have hsub : ∀ a b : Int, bin .Sub (.int a) (.int b) = some (.int (a - b)) := fun a b => rfl
    rw [h, hb, hd]
    simp only [Option.bind_some]
    rw [hsub]
    simp only [Option.bind_some]
    rw [tf]
    simp only [Option.bind_some, Option.map_some]
    rw [hC, c_isb 4]
    show some (!(barB P x == barB P x)) = _
    simp
  have s4 := r_if (X := WX C) (s := nth XB 4) (by kernel_rfl) ht4
  rw [if_neg (by simp)] at s4
  have e4 : exs (WX C) (n + 41) (sElse (nth XB 4)) T3 = some (.next, T3) := by kernel_rfl
  have E := E.trans (r_go (i := 4) (by rw [XB_len]; decide) (s4.trans e4))
  have ht5 : tst (WX C) (n + 40) (sTest (nth XB 5)) T3 = some (barB P x) := by
    have Hb : told [("bars", .bool (barB P x))] T3 := ⟨H3.1, trivial⟩
    refine tst_lay Hb ?_
    kernel_rfl
  have s5 := r_if (X := WX C) (s := nth XB 5) (by kernel_rfl) ht5
  cases hb : barB P x with
  | false =>
    rw [hb, if_neg (by simp)] at s5
    have e5 : exs (WX C) (n + 40) (sElse (nth XB 5)) T3 = some (.next, T3) := by kernel_rfl
    have E := E.trans (r_go (i := 5) (by rw [XB_len]; decide) (s5.trans e5))
    have E := E.trans (r_end (by rw [XB_len]; decide))
    exact ⟨T3, E, H3.2.2⟩
  | true =>
    rw [hb, if_pos rfl] at s5
    have bl : (sBody (nth XB 5)).length = 1 := by kernel_rfl
    have hev : evs (WX C) (n + 38) (sArgs (nth (sBody (nth XB 5)) 0)) T3 = some [.int x] := by
      have Hx : told [("x", .int x)] T3 := ⟨H3.2.2.2.1, trivial⟩
      refine evs_lay Hx ?_
      kernel_rfl
    have q := r_append (X := WX C) (n := n + 38) (s := nth (sBody (nth XB 5)) 0) (σ := T3) "barred" (by kernel_rfl) (by kernel_rfl) (kk (by kernel_rfl)) (by kernel_rfl) H3.2.2.2.2.1 hev rfl (by unfold big; omega)
    have F := (r_go (X := WX C) (i := 0) (b := sBody (nth XB 5)) (by rw [bl]; decide) q).trans (r_end (by rw [bl]; decide))
    have E := E.trans (r_go (i := 5) (by rw [XB_len]; decide) (s5.trans F))
    have E := E.trans (r_end (by rw [XB_len]; decide))
    refine ⟨_, E, ?_⟩
    have K : told (("price", .int (P.D x 0 : Nat)) :: ("x", .int x) :: ("ready", .own (readyL P (x + 1))) :: ("pages", .own (pagesL P (x + 1))) :: K0 P) T3 := ⟨H3.2.2.1, H3.2.2.2.1, H3.2.2.2.2.2⟩
    have K' := told_upd (x := "barred") (v := .own (bs ++ [.int x])) K (by kernel_rfl)
    rw [if_pos rfl]
    exact ⟨K'.1, K'.2.1, upd_get _ _ _, K'.2.2⟩

/-- what a turn leaves -/
noncomputable def LF (P : Par) (x : Nat) (bs : List V) (pr : Int) : List (Str × V) := ("barred", .own bs) :: ("price", .int pr) :: ("ready", .own (readyL P x)) :: ("pages", .own (pagesL P x)) :: K0 P
theorem turn_all (C) (hC : C = callF 5) (P : Par) (x : Nat) (bs : List V) (pr : Int) (hx : x < 16) (hbs : bs.length ≤ 16) (n : Nat) (T : Sg) (H : told (LF P x bs pr) T) :
    ∃ σ, exs (WX C) (n + 60) WB (upd T "x" (.int x)) = some (.next, σ) ∧ told (LF P (x + 1) (if decide (0 < x) && barB P x then bs ++ [.int x] else bs) (if 0 < x then (P.D x 0 : Nat) else pr)) σ := by
  have H0 : told (G0 P x (pagesL P x) (readyL P x) bs pr) (upd T "x" (.int x)) := by
    have K := told_put "x" (.int x) H (by kernel_rfl)
    exact ⟨K.1, K.2.2.2.2.1, K.2.2.2.1, K.2.1, K.2.2.1, K.2.2.2.2.2⟩
  obtain ⟨σ1, E1, H1⟩ := turn_a C P x _ _ bs pr hx n _ H0
  obtain ⟨σ2, E2, H2⟩ := turn_b C hC P x _ _ bs pr hx n σ1 H1
  obtain ⟨σ3, E3, H3⟩ := turn_c C hC P x bs pr hx n σ2 H2
  have E := E1.trans (E2.trans E3)
  have ht : tst (WX C) (n + 47) (sTest (nth WB 11)) σ3 = some (decide ((0 : Int) < (x : Int))) := by
    have Hx : told [("x", .int x)] σ3 := ⟨H3.2.2.2.2.1, trivial⟩
    refine tst_lay Hx ?_
    kernel_rfl
  have s11 := r_if (X := WX C) (s := nth WB 11) (by kernel_rfl) ht
  have fin : ∀ σ, ex (WX C) (n + 48) (nth WB 11) σ3 = some (.next, σ) → exs (WX C) (n + 60) WB (upd T "x" (.int x)) = some (.next, σ) := fun σ h =>
    E.trans ((r_go (i := 11) (by rw [WB_len]; decide) h).trans (r_end (by rw [WB_len]; decide)))
  by_cases h0 : 0 < x
  · rw [decide_eq_true (by omega), if_pos rfl] at s11
    have HN : told (N0 P x bs) σ3 := ⟨H3.2.2.2.2.1, H3.2.2.2.2.2.1, H3.1, H3.2.1, H3.2.2.2.2.2.2.2⟩
    obtain ⟨σ4, τ, E4, H4, hτ⟩ := turn_d C hC P x bs hx n σ3 HN
    obtain ⟨σ5, E5, H5⟩ := turn_e C hC P x bs hx hbs n τ σ4 H4 hτ
    refine ⟨σ5, fin σ5 (s11.trans (E4.trans E5)), ?_⟩
    rw [decide_eq_true h0, if_pos h0, Bool.true_and]
    exact ⟨H5.2.2.1, H5.1, H5.2.2.2.1, H5.2.2.2.2.1, H5.2.2.2.2.2⟩
  · rw [decide_eq_false (by omega), if_neg (by simp)] at s11
    have e : exs (WX C) (n + 47) (sElse (nth WB 11)) σ3 = some (.next, σ3) := by kernel_rfl
    refine ⟨σ3, fin σ3 (s11.trans e), ?_⟩
    rw [decide_eq_false h0, if_neg h0, Bool.false_and, if_neg (by simp)]
    exact ⟨H3.2.2.2.2.2.1, H3.2.2.2.2.2.2.1, H3.1, H3.2.1, H3.2.2.2.2.2.2.2⟩
end Mine
end
section
set_option maxRecDepth 20000
namespace Mine
open PySem

noncomputable def barN (P : Par) (n : Nat) : List Nat := (List.range n).filter fun x => decide (0 < x) && barB P x
noncomputable def intsV (l : List Nat) : List V := l.map fun k : Nat => V.int k
theorem barN_len (P : Par) (n : Nat) : (barN P n).length ≤ n := Nat.le_trans (List.length_filter_le _ _) (by simp)
theorem barN_succ (P : Par) (n : Nat) : intsV (barN P (n + 1)) = if decide (0 < n) && barB P n then intsV (barN P n) ++ [.int n] else intsV (barN P n) := by
  unfold barN intsV
  rw [List.range_succ, List.filter_append]
  cases h : decide (0 < n) && barB P n with
  | true => simp [List.filter_cons, h]
  | false => simp [List.filter_cons, h]
theorem law_loop (C) (hC : C = callF 5) (P : Par) : ∀ (m k : Nat) (pr : Int) (T : Sg), k + m = 16 → told (LF P k (intsV (barN P k)) pr) T →
    ∃ σ pr', forL (fun v σ => (put (WX C) "x" v σ).bind fun σ' => exs (WX C) 279 (sBody (lawS 19)) σ') ((List.range' k m).map fun j : Nat => V.int j) T = some (.next, σ) ∧ told (LF P 16 (intsV (barN P 16)) pr') σ ∧ (0 < m → 1 < k + m → pr' = (P.D 15 0 : Nat))
  | 0, k, pr, T, hk, H => by
    have : k = 16 := by omega
    subst this
    exact ⟨T, pr, rfl, H, fun h => absurd h (by omega)⟩
  | m + 1, k, pr, T, hk, H => by
    obtain ⟨σ1, h1, H1⟩ := turn_all C hC P k _ pr (by omega) (by unfold intsV; rw [List.length_map]; have := barN_len P k; omega) 219 T H
    rw [← barN_succ] at H1
    obtain ⟨σ2, pr', h2, H2, h3⟩ := law_loop C hC P m (k + 1) _ σ1 (by omega) H1
    cases m with
    | succ m =>
      refine ⟨σ2, pr', ?_, H2, fun _ _ => h3 (by omega) (by omega)⟩
      rw [List.range'_succ, List.map_cons]
      unfold forL
      rw [put_ok (by kernel_rfl) (kk (by kernel_rfl)) rfl, Option.bind_some, show exs (WX C) 279 (sBody (lawS 19)) (upd T "x" (.int k)) = _ from h1]
      exact h2
    | zero =>
      have hk15 : k = 15 := by omega
      subst hk15
      refine ⟨σ1, _, ?_, H1, fun _ _ => by rw [if_pos (by omega)]⟩
      rw [List.range'_succ, List.map_cons]
      unfold forL
      rw [put_ok (by kernel_rfl) (kk (by kernel_rfl)) rfl, Option.bind_some, show exs (WX C) 279 (sBody (lawS 19)) (upd T "x" (.int ((15 : Nat) : Int))) = _ from h1]
      rfl
theorem law_c (C) (hC : C = callF 5) (P : Par) (T : Sg) (H : told (L18 P) T) : ∃ σ, exs (WX C) 281 (lawF.body.drop 19) T = exs (WX C) 280 (lawF.body.drop 20) σ ∧ told (LF P 16 (intsV (barN P 16)) (P.D 15 0 : Nat)) σ := by
  have H0 : told (LF P 0 (intsV (barN P 0)) 0) T := by
    unfold L18 L17 L16 L15 L14 L13 L12 L11 L10 L9 L8 L7 F6 at H
    simp only [told] at H
    obtain ⟨h1, h2, h3, h4, h5, h6, h7, h8, h9, h10, h11, h12, h13, h14, h15, h16, h17, h18, h19, h20, _⟩ := H
    unfold LF K0
    simp only [told]
    exact ⟨h2, h1, h3, h4, by assumption, by assumption, by assumption, by assumption, by assumption, by assumption, by assumption, by assumption, by assumption, by assumption, by assumption, by assumption, trivial⟩
  obtain ⟨σ, pr, h1, H1, h2⟩ := law_loop C hC P 16 0 0 T (by omega) H0
  have hp := h2 (by omega) (by omega)
  subst hp
  have hit : ev (WX C) 279 (sIter (lawS 19)) T = some (.rng 0 (16 : Nat) 1) := by kernel_rfl
  have s19 := r_for (X := WX C) (n := 279) (s := lawS 19) (σ := T) "x" (by kernel_rfl) (by kernel_rfl) (kk (by kernel_rfl)) hit (items_range 16) (by simp [big]) rfl
  exact ⟨σ, r_go (i := 19) (by rw [law_len]; decide) (s19.trans h1), H1⟩

theorem D_bits (P : Par) (x y : Nat) : (((List.range 4).filter fun p => x.testBit (P.j p) != y.testBit (P.j p)).map P.prI).sum = P.D x y := rfl
namespace Par
variable (P : Par)
noncomputable def one : Nat := P.c3 / 6912 % 16
noncomputable def two : Nat := P.one ^^^ (1 + P.c4 / 27 % 15)
end Par
theorem one_lt (P : Par) : P.one < 16 := Nat.mod_lt _ (by omega)
theorem two_lt (P : Par) : P.two < 16 := by
  have h : 1 + P.c4 / 27 % 15 < 2 ^ 4 := by omega
  exact Nat.xor_lt_two_pow (n := 4) (one_lt P) h
/-- a check of two pages by their own price -/
theorem page_is (C) (hC : C = callF 5) (P : Par) (a b : Nat) : ∃ τ : Int, C "_levenshtein_distance" [.str (ofL (P.pg a)), .str (ofL (P.pg b)), .int (P.D a b : Nat)] = some (.int τ) ∧ τ = (P.D a b : Nat) := by
  obtain ⟨T, hT, hcall⟩ := lev_pages P a b
  exact ⟨_, by rw [hC]; exact hcall _, hT.1⟩
noncomputable def R20 (P : Par) (one two : Nat) (pr : Int) : List (Str × V) := ("price", .int pr) :: ("two", .int two) :: ("one", .int one) :: ("barred", .own (intsV (barN P 16))) :: ("ready", .own (readyL P 16)) :: ("pages", .own (pagesL P 16)) :: K0 P
noncomputable def compQ : Expr := eArg (sVal (lawS 23)) 0
theorem law_d (C) (hC : C = callF 5) (P : Par) (T : Sg) (H : told (LF P 16 (intsV (barN P 16)) (P.D 15 0 : Nat)) T) : ∃ σ, exs (WX C) 280 (lawF.body.drop 20) T = exs (WX C) 275 (lawF.body.drop 25) σ ∧ told (R20 P P.one P.two (P.D P.one P.two : Nat)) σ := by
  have g : ∀ (as : List V) (b : Int), guardOwn as (some (.int b)) = some (.int b) := fun as b => rfl
  have gb : ∀ (as : List V) (b : Bool), guardOwn as (some (.bool b)) = some (.bool b) := fun as b => rfl
  have ht20 : tst (WX C) 278 (sTest (lawS 20)) T = some false := by
    refine tst_lay H ?_
    have h : tst (WX C) 278 (sTest (lawS 20)) (lay (LF P 16 (intsV (barN P 16)) (P.D 15 0 : Nat)) T) =
      Option.map (!·) ((((((item (.own (pagesL P 16)) (.int (15 : Nat))).bind fun a => ((item (.own (pagesL P 16)) (.int (0 : Nat))).bind fun b => some [b, .int (P.D 15 0 : Nat)]).map (a :: ·)).bind fun as => guardOwn as (C "_levenshtein_distance" as)).bind fun a => some [a, .int (P.D 15 0 : Nat)]).bind fun as => guardOwn as (C "_law_is" as)).bind truth) := by kernel_rfl
    obtain ⟨τ, h1, h2⟩ := page_is C hC P 15 0
    rw [h, pages_at P 16 15 (by omega) (by omega), pages_at P 16 0 (by omega) (by omega)]
    simp only [Option.bind_some, Option.map_some]
    rw [h1, g]
    simp only [Option.bind_some]
    rw [hC, c_is 4, gb, h2]
    show some (!(_ == _)) = _
    simp
  have s20 := r_if (X := WX C) (s := lawS 20) (by kernel_rfl) ht20
  rw [if_neg (by simp)] at s20
  have e20 : exs (WX C) 278 (sElse (lawS 20)) T = some (.next, T) := by kernel_rfl
  have E := r_go (X := WX C) (i := 20) (b := lawF.body) (by rw [law_len]; decide) (s20.trans e20)
  have HB : told (("barred", .own (intsV (barN P 16))) :: ("ready", .own (readyL P 16)) :: ("pages", .own (pagesL P 16)) :: K0 P) T := ⟨H.1, H.2.2⟩
  have s21 : ex (WX C) 278 (lawS 21) T = some (.next, upd T "one" (.int P.one)) := by
    refine r_asn "one" (by kernel_rfl) (by kernel_rfl) (kk (by kernel_rfl)) ?_ rfl
    refine ev_lay HB ?_
    have h : ev (WX C) 277 (sVal (lawS 21)) (lay (("barred", .own (intsV (barN P 16))) :: ("ready", .own (readyL P 16)) :: ("pages", .own (pagesL P 16)) :: K0 P) T) = some (.int (((P.c3 : Int).fdiv ((6912 : Nat) : Int)).fmod ((16 : Nat) : Int))) := by kernel_rfl
    rw [h, fdiv_nat, fmod_nat]; rfl
  have E := E.trans (r_go (i := 21) (by rw [law_len]; decide) s21)
  have H21 : told (("one", .int P.one) :: ("barred", .own (intsV (barN P 16))) :: ("ready", .own (readyL P 16)) :: ("pages", .own (pagesL P 16)) :: K0 P) (upd T "one" (.int P.one)) := told_put "one" _ HB (by kernel_rfl)
  generalize upd T "one" (.int P.one) = T21 at E H21
  have s22 : ex (WX C) 277 (lawS 22) T21 = some (.next, upd T21 "two" (.int P.two)) := by
    refine r_asn "two" (by kernel_rfl) (by kernel_rfl) (kk (by kernel_rfl)) ?_ rfl
    refine ev_lay H21 ?_
    have h : ev (WX C) 276 (sVal (lawS 22)) (lay (("one", .int P.one) :: ("barred", .own (intsV (barN P 16))) :: ("ready", .own (readyL P 16)) :: ("pages", .own (pagesL P 16)) :: K0 P) T21) =
      guardOwn [.int P.one, .int (((1 : Nat) : Int) + ((P.c4 : Int).fdiv ((27 : Nat) : Int)).fmod ((15 : Nat) : Int))] (C "xor" [.int P.one, .int (((1 : Nat) : Int) + ((P.c4 : Int).fdiv ((27 : Nat) : Int)).fmod ((15 : Nat) : Int))]) := by kernel_rfl
    rw [h, fdiv_nat, fmod_nat, ← Int.natCast_add, hC, c_xor 4, bitXor_nat, g]
    rfl
  have E := E.trans (r_go (i := 22) (by rw [law_len]; decide) s22)
  have H22 : told (("two", .int P.two) :: ("one", .int P.one) :: ("barred", .own (intsV (barN P 16))) :: ("ready", .own (readyL P 16)) :: ("pages", .own (pagesL P 16)) :: K0 P) (upd T21 "two" (.int P.two)) := told_put "two" _ H21 (by kernel_rfl)
  generalize upd T21 "two" (.int P.two) = T22 at E H22
  have l1 := one_lt P
  have l2 := two_lt P
  generalize P.one = one at *
  generalize P.two = two at *
  have s23 : ex (WX C) 276 (lawS 23) T22 = some (.next, upd T22 "price" (.int (P.D one two : Nat))) := by
    refine r_asn "price" (by kernel_rfl) (by kernel_rfl) (kk (by kernel_rfl)) ?_ rfl
    have h : ev (WX C) 275 (sVal (lawS 23)) T22 = ((ev (WX C) 273 compQ T22).bind fun a => some [a]).bind fun as => blt "sum" as := by kernel_rfl
    have e : ev (WX C) 273 compQ T22 = some (.lst ((((List.range 4).filter fun p => one.testBit (P.j p) != two.testBit (P.j p)).map P.prI).map fun k : Nat => V.int k)) := by
      have e := r_comp (X := WX C) (n := 272) (e := compQ) (σ := T22) (v := .rng 0 4 1) (xs := (List.range 4).map fun k : Nat => V.int k) (ys := ((List.range 4).filter fun p => one.testBit (P.j p) != two.testBit (P.j p)).map fun p => V.int (P.prI p)) "p" (by kernel_rfl) (by kernel_rfl) (by kernel_rfl) items_four (by decide) ?_
      · rw [List.map_map]
        exact e
      · rw [← lay_same H22]
        exact compL_all (test := fun v => tsts (compCx (WX C) (cSc compQ)) 272 (cIfs compQ) (compSg (lay (("two", .int two) :: ("one", .int one) :: ("barred", .own (intsV (barN P 16))) :: ("ready", .own (readyL P 16)) :: ("pages", .own (pagesL P 16)) :: K0 P) T22) "p" (cSc compQ) v))
          (elt := fun v => ev (compCx (WX C) (cSc compQ)) 272 (cElt compQ) (compSg (lay (("two", .int two) :: ("one", .int one) :: ("barred", .own (intsV (barN P 16))) :: ("ready", .own (readyL P 16)) :: ("pages", .own (pagesL P 16)) :: K0 P) T22) "p" (cSc compQ) v))
          (fun k : Nat => V.int k) (fun p => one.testBit (P.j p) != two.testBit (P.j p)) (fun p => V.int (P.prI p)) (List.range 4) (fun p hp => by
            have hp := List.mem_range.1 hp
            refine ⟨rfl, ?_, fun _ => ⟨?_, rfl⟩⟩
            · have h : tsts (compCx (WX C) (cSc compQ)) 272 (cIfs compQ) (compSg (lay (("two", .int two) :: ("one", .int one) :: ("barred", .own (intsV (barN P 16))) :: ("ready", .own (readyL P 16)) :: ("pages", .own (pagesL P 16)) :: K0 P) T22) "p" (cSc compQ) (.int p)) =
                (((((item (weightsV P) (.int p)).bind fun u => bin .FloorDiv (.int one) u).bind fun u => bin .Mod u (.int ((2 : Nat) : Int))).bind fun a => (((item (weightsV P) (.int p)).bind fun u => bin .FloorDiv (.int two) u).bind fun u => bin .Mod u (.int ((2 : Nat) : Int))).bind fun b => cmp .NotEq a b).bind truth).bind fun t => if t then some true else some false := by kernel_rfl
              rw [h, bit_test P one p hp, bit_test P two p hp]
              cases one.testBit (P.j p) <;> cases two.testBit (P.j p) <;> rfl
            · have h : ev (compCx (WX C) (cSc compQ)) 272 (cElt compQ) (compSg (lay (("two", .int two) :: ("one", .int one) :: ("barred", .own (intsV (barN P 16))) :: ("ready", .own (readyL P 16)) :: ("pages", .own (pagesL P 16)) :: K0 P) T22) "p" (cSc compQ) (.int p)) = item (pricesV P) (.int p) := by kernel_rfl
              rw [h, item_price P p hp])
    rw [h, e]
    simp only [Option.bind_some]
    rw [blt_sum, D_bits]
  have E := E.trans (r_go (i := 23) (by rw [law_len]; decide) s23)
  have H23 : told (R20 P one two (P.D one two : Nat)) (upd T22 "price" (.int (P.D one two : Nat))) := told_put "price" _ H22 (by kernel_rfl)
  generalize upd T22 "price" (.int (P.D one two : Nat)) = T23 at E H23
  have ht24 : tst (WX C) 274 (sTest (lawS 24)) T23 = some false := by
    refine tst_lay H23 ?_
    have h : tst (WX C) 274 (sTest (lawS 24)) (lay (R20 P one two (P.D one two : Nat)) T23) =
      Option.map (!·) ((((((item (.own (pagesL P 16)) (.int one)).bind fun a => ((item (.own (pagesL P 16)) (.int two)).bind fun b => some [b, .int (P.D one two : Nat)]).map (a :: ·)).bind fun as => guardOwn as (C "_levenshtein_distance" as)).bind fun a => some [a, .int (P.D one two : Nat)]).bind fun as => guardOwn as (C "_law_is" as)).bind truth) := by kernel_rfl
    obtain ⟨τ, h1, h2⟩ := page_is C hC P one two
    rw [h, pages_at P 16 one (by omega) (by omega), pages_at P 16 two (by omega) (by omega)]
    simp only [Option.bind_some, Option.map_some]
    rw [h1, g]
    simp only [Option.bind_some]
    rw [hC, c_is 4, gb, h2]
    show some (!(_ == _)) = _
    simp
  have s24 := r_if (X := WX C) (s := lawS 24) (by kernel_rfl) ht24
  rw [if_neg (by simp)] at s24
  have e24 : exs (WX C) 274 (sElse (lawS 24)) T23 = some (.next, T23) := by kernel_rfl
  have E := E.trans (r_go (i := 24) (by rw [law_len]; decide) (s24.trans e24))
  exact ⟨_, E, H23⟩
end Mine
end
section
set_option maxRecDepth 20000
namespace Mine
open PySem

noncomputable def tupN (p : List Nat × Int) : V := .tup [.str (ofL p.1), .int p.2]
noncomputable def nearL (t q s : Nat) : List (List Nat × Int) := [([q, s, t], 4), ([t, t, q, s], 2), ([t, s], 2), ([q], 4)]
noncomputable def nearV (t q s : Nat) : V := .lst ((nearL t q s).map tupN)
noncomputable def B25 (P : Par) : List (Str × V) := ("barred", .own (intsV (barN P 16))) :: ("ready", .own (readyL P 16)) :: ("pages", .own (pagesL P 16)) :: K0 P
noncomputable def textV (P : Par) : V := .str (ofL [P.t, P.q (P.bt 0 2), smallAt P.a0])
noncomputable def Q25 (P : Par) : List (Str × V) := ("text", textV P) :: B25 P
noncomputable abbrev NB : List Stmt := sBody (lawS 27)
theorem NB_len : NB.length = 2 := by kernel_rfl
theorem near_turn (C) (hC : C = callF 5) (P : Par) (p : List Nat × Int) (hp : p ∈ nearL P.t (P.q (P.bt 0 2)) (smallAt P.a0)) (T : Sg) (H : told (Q25 P) T) :
    ∃ σ, ((bindT (WX C) (sTarget (lawS 27)) (tupN p) T).bind fun σ' => exs (WX C) 271 NB σ') = some (.next, σ) ∧ told (Q25 P) σ := by
  have g : ∀ (as : List V) (b : Int), guardOwn as (some (.int b)) = some (.int b) := fun as b => rfl
  have gb : ∀ (as : List V) (b : Bool), guardOwn as (some (.bool b)) = some (.bool b) := fun as b => rfl
  have hb : bindT (WX C) (sTarget (lawS 27)) (tupN p) T = some (upd (upd T "other" (.str (ofL p.1))) "apart" (.int p.2)) := by kernel_rfl
  have H1 : told (("apart", .int p.2) :: ("other", .str (ofL p.1)) :: Q25 P) (upd (upd T "other" (.str (ofL p.1))) "apart" (.int p.2)) := told_put "apart" _ (told_put "other" _ H (by kernel_rfl)) (by kernel_rfl)
  rw [hb, Option.bind_some]
  generalize upd (upd T "other" (.str (ofL p.1))) "apart" (.int p.2) = T1 at H1
  have N := near_lev (t_mem P) (a0_lt P) (a1_lt P) (f0_lt P) (f1_lt P) (a_ne P) (q_mem P (P.bt 0 2)) 3 p hp
  have ht0 : tst (WX C) 269 (sTest (nth NB 0)) T1 = some false := by
    refine tst_lay H1 ?_
    have h : tst (WX C) 269 (sTest (nth NB 0)) (lay (("apart", .int p.2) :: ("other", .str (ofL p.1)) :: Q25 P) T1) =
      Option.map (!·) ((((guardOwn [textV P, .str (ofL p.1), .int p.2] (C "_levenshtein_distance" [textV P, .str (ofL p.1), .int p.2])).bind fun a => some [a, .int p.2]).bind fun as => guardOwn as (C "_law_is" as)).bind truth) := by kernel_rfl
    have e : callF 5 "_levenshtein_distance" [textV P, .str (ofL p.1), .int p.2] = some (.int p.2) := N.1
    rw [h, hC, e, g]
    simp only [Option.bind_some]
    rw [c_is 4, gb]
    show some (!(_ == _)) = _
    simp
  have s0 := r_if (X := WX C) (s := nth NB 0) (by kernel_rfl) ht0
  rw [if_neg (by simp)] at s0
  have e0 : exs (WX C) 269 (sElse (nth NB 0)) T1 = some (.next, T1) := by kernel_rfl
  have E := r_go (X := WX C) (i := 0) (b := NB) (by rw [NB_len]; decide) (s0.trans e0)
  have ht1 : tst (WX C) 268 (sTest (nth NB 1)) T1 = some false := by
    refine tst_lay H1 ?_
    have h : tst (WX C) 268 (sTest (nth NB 1)) (lay (("apart", .int p.2) :: ("other", .str (ofL p.1)) :: Q25 P) T1) =
      Option.map (!·) ((((guardOwn [.str (ofL p.1), textV P, .int p.2] (C "_levenshtein_distance" [.str (ofL p.1), textV P, .int p.2])).bind fun a => some [a, .int p.2]).bind fun as => guardOwn as (C "_law_is" as)).bind truth) := by kernel_rfl
    have e : callF 5 "_levenshtein_distance" [.str (ofL p.1), textV P, .int p.2] = some (.int p.2) := N.2
    rw [h, hC, e, g]
    simp only [Option.bind_some]
    rw [c_is 4, gb]
    show some (!(_ == _)) = _
    simp
  have s1 := r_if (X := WX C) (s := nth NB 1) (by kernel_rfl) ht1
  rw [if_neg (by simp)] at s1
  have e1 : exs (WX C) 268 (sElse (nth NB 1)) T1 = some (.next, T1) := by kernel_rfl
  have E := E.trans (r_go (i := 1) (by rw [NB_len]; decide) (s1.trans e1))
  exact ⟨T1, E.trans (r_end (by rw [NB_len]; decide)), H1.2.2⟩
theorem near_loop (C) (hC : C = callF 5) (P : Par) : ∀ (l : List (List Nat × Int)) (T : Sg), (∀ p ∈ l, p ∈ nearL P.t (P.q (P.bt 0 2)) (smallAt P.a0)) → told (Q25 P) T →
    ∃ σ, forL (fun v σ => (bindT (WX C) (sTarget (lawS 27)) v σ).bind fun σ' => exs (WX C) 271 NB σ') (l.map tupN) T = some (.next, σ) ∧ told (Q25 P) σ
  | [], T, _, H => ⟨T, rfl, H⟩
  | p :: l, T, hl, H => by
    obtain ⟨σ1, h1, H1⟩ := near_turn C hC P p (hl p (List.mem_cons_self ..)) T H
    obtain ⟨σ2, h2, H2⟩ := near_loop C hC P l σ1 (fun q hq => hl q (List.mem_cons_of_mem _ hq)) H1
    refine ⟨σ2, ?_, H2⟩
    rw [List.map_cons]
    unfold forL
    rw [h1]
    exact h2
namespace Par
variable (P : Par)
noncomputable def o1 : Nat := 2 + P.c5 % 2
noncomputable def o2 : Nat := 4 + P.c5 / 2 % 4
noncomputable def o3 : Nat := 8 + P.c5 / 8 % 8
noncomputable def ord : List Nat := [1, P.o1, P.o2, P.o3]
end Par
noncomputable def Q29 (P : Par) (laid : List V) : List (Str × V) := ("laid", .own laid) :: ("order", .lst (intsV P.ord)) :: B25 P
theorem law_e (C) (hC : C = callF 5) (P : Par) (T : Sg) (o t : Nat) (pr : Int) (H : told (R20 P o t pr) T) : ∃ σ, exs (WX C) 275 (lawF.body.drop 25) T = exs (WX C) 270 (lawF.body.drop 30) σ ∧ told (Q29 P []) σ := by
  have HB : told (B25 P) T := H.2.2.2
  have s25 : ex (WX C) 274 (lawS 25) T = some (.next, upd T "text" (textV P)) := by
    refine r_asn "text" (by kernel_rfl) (by kernel_rfl) (kk (by kernel_rfl)) ?_ rfl
    refine ev_lay HB ?_
    have h : ev (WX C) 273 (sVal (lawS 25)) (lay (B25 P) T) = (item (.own (readyL P 16)) (.int (0 : Nat))).bind fun a => cut a .nil (.int 3) := by kernel_rfl
    rw [h, ready_at P 16 0 (by omega) (by omega), Option.bind_some]
    unfold Par.rd textV
    generalize P.q (P.bt 0 2) = q
    generalize P.t = t
    generalize smallAt P.a0 = s
    generalize smallAt P.a1 = s'
    kernel_rfl
  have E := r_go (X := WX C) (i := 25) (b := lawF.body) (by rw [law_len]; decide) s25
  have H25 : told (Q25 P) (upd T "text" (textV P)) := told_put "text" _ HB (by kernel_rfl)
  generalize upd T "text" (textV P) = T25 at E H25
  have s26 : ex (WX C) 273 (lawS 26) T25 = some (.next, upd T25 "near" (nearV P.t (P.q (P.bt 0 2)) (smallAt P.a0))) := by
    refine r_asn "near" (by kernel_rfl) (by kernel_rfl) (kk (by kernel_rfl)) ?_ rfl
    have Ht : told [("text", textV P)] T25 := ⟨H25.1, trivial⟩
    refine ev_lay Ht ?_
    unfold textV
    generalize P.q (P.bt 0 2) = q
    generalize P.t = t
    generalize smallAt P.a0 = s
    kernel_rfl
  have E := E.trans (r_go (i := 26) (by rw [law_len]; decide) s26)
  have H26 : told (("near", nearV P.t (P.q (P.bt 0 2)) (smallAt P.a0)) :: Q25 P) (upd T25 "near" (nearV P.t (P.q (P.bt 0 2)) (smallAt P.a0))) := told_put "near" _ H25 (by kernel_rfl)
  generalize upd T25 "near" (nearV P.t (P.q (P.bt 0 2)) (smallAt P.a0)) = T26 at E H26
  have hit : ev (WX C) 271 (sIter (lawS 27)) T26 = some (nearV P.t (P.q (P.bt 0 2)) (smallAt P.a0)) := by
    have Ht : told [("near", nearV P.t (P.q (P.bt 0 2)) (smallAt P.a0))] T26 := ⟨H26.1, trivial⟩
    refine ev_lay Ht ?_
    kernel_rfl
  have s27 := r_forT (X := WX C) (n := 271) (s := lawS 27) (σ := T26) (by kernel_rfl) hit (items_lst _) (show 4 ≤ big by decide) rfl
  obtain ⟨T27, h27, H27⟩ := near_loop C hC P (nearL P.t (P.q (P.bt 0 2)) (smallAt P.a0)) T26 (fun p hp => hp) H26.2
  have E := E.trans (r_go (i := 27) (by rw [law_len]; decide) (s27.trans h27))
  have HB : told (B25 P) T27 := H27.2
  have s28 : ex (WX C) 271 (lawS 28) T27 = some (.next, upd T27 "order" (.lst (intsV P.ord))) := by
    refine r_asn "order" (by kernel_rfl) (by kernel_rfl) (kk (by kernel_rfl)) ?_ rfl
    refine ev_lay HB ?_
    have h : ev (WX C) 270 (sVal (lawS 28)) (lay (B25 P) T27) = some (.lst [.int ((1 : Nat) : Int), .int (((2 : Nat) : Int) + (P.c5 : Int).fmod ((2 : Nat) : Int)), .int (((4 : Nat) : Int) + ((P.c5 : Int).fdiv ((2 : Nat) : Int)).fmod ((4 : Nat) : Int)), .int (((8 : Nat) : Int) + ((P.c5 : Int).fdiv ((8 : Nat) : Int)).fmod ((8 : Nat) : Int))]) := by kernel_rfl
    rw [h, fdiv_nat, fdiv_nat, fmod_nat, fmod_nat, fmod_nat, ← Int.natCast_add, ← Int.natCast_add, ← Int.natCast_add]
    rfl
  have E := E.trans (r_go (i := 28) (by rw [law_len]; decide) s28)
  have H28 : told (("order", .lst (intsV P.ord)) :: B25 P) (upd T27 "order" (.lst (intsV P.ord))) := told_put "order" _ HB (by kernel_rfl)
  generalize upd T27 "order" (.lst (intsV P.ord)) = T28 at E H28
  have s29 : ex (WX C) 270 (lawS 29) T28 = some (.next, upd T28 "laid" (.own [])) := by kernel_rfl
  have E := E.trans (r_go (i := 29) (by rw [law_len]; decide) s29)
  exact ⟨_, E, told_put "laid" _ H28 (by kernel_rfl)⟩
end Mine
end
section
set_option maxRecDepth 20000
namespace Mine
open PySem

/-! ### what is laid by, as numbers -/
noncomputable def phi (row : List Nat) (n : Nat) : Nat := (List.range row.length).foldl (fun t j => if n.testBit j then t ^^^ row.getD j 0 else t) 0
noncomputable def bitv (n i w : Nat) : Nat := if n.testBit i then w else 0
theorem phi4 (a b c d n : Nat) : phi [a, b, c, d] n = bitv n 0 a ^^^ bitv n 1 b ^^^ bitv n 2 c ^^^ bitv n 3 d := by
  show ([0, 1, 2, 3] : List Nat).foldl (fun t j => if n.testBit j then t ^^^ [a, b, c, d].getD j 0 else t) 0 = _
  unfold bitv
  simp only [List.foldl_cons, List.foldl_nil]
  cases n.testBit 0 <;> cases n.testBit 1 <;> cases n.testBit 2 <;> cases n.testBit 3 <;> simp
theorem bitv_xor (n m i w : Nat) : bitv (n ^^^ m) i w = bitv n i w ^^^ bitv m i w := by
  unfold bitv
  rw [Nat.testBit_xor]
  cases n.testBit i <;> cases m.testBit i <;> simp
theorem phi_xor (a b c d n m : Nat) : phi [a, b, c, d] (n ^^^ m) = phi [a, b, c, d] n ^^^ phi [a, b, c, d] m := by
  rw [phi4, phi4, phi4, bitv_xor, bitv_xor, bitv_xor, bitv_xor]
  ac_rfl
noncomputable def mexF : Nat → Nat → List Nat → Nat
  | 0, a, _ => a
  | f + 1, a, l => if l.contains a then mexF f (a + 1) l else a
theorem mexF_ok (l : List Nat) (N : Nat) (hN : ∀ v ∈ l, v < N) : ∀ (f a : Nat), a ≤ N → N < f + a → mexF f a l ≤ N ∧ l.contains (mexF f a l) = false ∧ a ≤ mexF f a l ∧ ∀ v, a ≤ v → v < mexF f a l → v ∈ l
  | 0, a, h, h' => by omega
  | f + 1, a, h, h' => by
    unfold mexF
    by_cases hc : l.contains a = true
    · rw [if_pos hc]
      have hm : a ∈ l := by simpa using hc
      have ha := hN a hm
      obtain ⟨h1, h2, h3, h4⟩ := mexF_ok l N hN f (a + 1) (by omega) (by omega)
      refine ⟨h1, h2, by omega, fun v hv hv' => ?_⟩
      by_cases e : v = a
      · exact e ▸ hm
      · exact h4 v (by omega) hv'
    · rw [if_neg hc]
      exact ⟨h, by simpa using hc, Nat.le_refl _, fun v hv hv' => by omega⟩
noncomputable def met (B : Nat → Bool) (w : List Nat) (k : Nat) : List Nat := ((List.range (2 ^ k)).filter fun l => B (2 ^ k + l)).map (phi w)
noncomputable def worth (B : Nat → Bool) : Nat → List Nat
  | 0 => []
  | k + 1 => worth B k ++ [mexF 16 0 (met B (worth B k) k)]
structure Mex (B : Nat → Bool) (w : List Nat) (k r : Nat) : Prop where
  le : r ≤ 2 ^ k
  out : ∀ l, l < 2 ^ k → B (2 ^ k + l) = true → phi w l ≠ r
  below : ∀ v, v < r → ∃ l, l < 2 ^ k ∧ B (2 ^ k + l) = true ∧ phi w l = v
theorem mex_of (B : Nat → Bool) (w : List Nat) (k : Nat) (hk : k < 4) (hw : ∀ l, l < 2 ^ k → phi w l < 2 ^ k) : Mex B w k (mexF 16 0 (met B w k)) := by
  have hp : 2 ^ k < 16 := Nat.pow_lt_pow_right (by decide) hk
  have hN : ∀ v ∈ met B w k, v < 2 ^ k := fun v hv => by
    obtain ⟨l, hl, rfl⟩ := List.mem_map.1 hv
    exact hw l (List.mem_range.1 (List.mem_filter.1 hl).1)
  obtain ⟨h1, h2, _, h4⟩ := mexF_ok (met B w k) (2 ^ k) hN 16 0 (Nat.zero_le _) (by omega)
  refine ⟨h1, fun l hl hb e => ?_, fun v hv => ?_⟩
  · have : phi w l ∈ met B w k := List.mem_map.2 ⟨l, List.mem_filter.2 ⟨List.mem_range.2 hl, hb⟩, rfl⟩
    rw [e] at this
    simp [this] at h2
  · obtain ⟨l, hl, e⟩ := List.mem_map.1 (h4 v (Nat.zero_le _) hv)
    obtain ⟨h5, h6⟩ := List.mem_filter.1 hl
    exact ⟨l, List.mem_range.1 h5, h6, e⟩
/-- what the four numbers are -/
structure Four (B : Nat → Bool) (a b c d : Nat) : Prop where
  m0 : Mex B [] 0 a
  m1 : Mex B [a] 1 b
  m2 : Mex B [a, b] 2 c
  m3 : Mex B [a, b, c] 3 d
theorem four_of (B : Nat → Bool) : ∃ a b c d, worth B 4 = [a, b, c, d] ∧ Four B a b c d := by
  have m0 := mex_of B [] 0 (by decide) (fun l hl => by show (0 : Nat) < 1; decide)
  generalize ha : mexF 16 0 (met B [] 0) = a at m0
  have la := m0.le
  have m1 := mex_of B [a] 1 (by decide) (fun l hl => by
    show ([0] : List Nat).foldl (fun t j => if l.testBit j then t ^^^ [a].getD j 0 else t) 0 < 2
    simp only [List.foldl_cons, List.foldl_nil]
    split <;> simp <;> omega)
  generalize hb : mexF 16 0 (met B [a] 1) = b at m1
  have lb := m1.le
  have m2 := mex_of B [a, b] 2 (by decide) (fun l hl => by
    show ([0, 1] : List Nat).foldl (fun t j => if l.testBit j then t ^^^ [a, b].getD j 0 else t) 0 < 2 ^ 2
    simp only [List.foldl_cons, List.foldl_nil]
    have x1 : a < 2 ^ 2 := by omega
    have x2 : b < 2 ^ 2 := by omega
    have x3 : a ^^^ b < 2 ^ 2 := Nat.xor_lt_two_pow x1 x2
    cases l.testBit 0 <;> cases l.testBit 1 <;> simp <;> omega)
  generalize hc : mexF 16 0 (met B [a, b] 2) = c at m2
  have lc := m2.le
  have m3 := mex_of B [a, b, c] 3 (by decide) (fun l hl => by
    show ([0, 1, 2] : List Nat).foldl (fun t j => if l.testBit j then t ^^^ [a, b, c].getD j 0 else t) 0 < 2 ^ 3
    simp only [List.foldl_cons, List.foldl_nil]
    have x1 : a < 2 ^ 3 := by omega
    have x2 : b < 2 ^ 3 := by omega
    have x4 : c < 2 ^ 3 := by omega
    have x3 : a ^^^ b < 2 ^ 3 := Nat.xor_lt_two_pow x1 x2
    have x5 : a ^^^ b ^^^ c < 2 ^ 3 := Nat.xor_lt_two_pow x3 x4
    have x6 : a ^^^ c < 2 ^ 3 := Nat.xor_lt_two_pow x1 x4
    have x7 : b ^^^ c < 2 ^ 3 := Nat.xor_lt_two_pow x2 x4
    cases l.testBit 0 <;> cases l.testBit 1 <;> cases l.testBit 2 <;> simp <;> omega)
  generalize hd : mexF 16 0 (met B [a, b, c] 3) = d at m3
  refine ⟨a, b, c, d, ?_, m0, m1, m2, m3⟩
  have w1 : worth B 1 = [a] := by show [] ++ [mexF 16 0 (met B [] 0)] = _; rw [ha]; rfl
  have w2 : worth B 2 = [a, b] := by show worth B 1 ++ [mexF 16 0 (met B (worth B 1) 1)] = _; rw [w1, hb]; rfl
  have w3 : worth B 3 = [a, b, c] := by show worth B 2 ++ [mexF 16 0 (met B (worth B 2) 2)] = _; rw [w2, hc]; rfl
  show worth B 3 ++ [mexF 16 0 (met B (worth B 3) 3)] = _
  rw [w3, hd]; rfl
end Mine
end
section
set_option maxRecDepth 20000
namespace Mine
open PySem

theorem xor_zero_eq {a b : Nat} (h : a ^^^ b = 0) : a = b := by
  have : (a ^^^ b) ^^^ b = a := by rw [Nat.xor_assoc, Nat.xor_self, Nat.xor_zero]
  rw [← this, h, Nat.zero_xor]
noncomputable def layN (B : Nat → Bool) : Nat → List Nat
  | 0 => []
  | n + 1 => if (layN B n).any (fun j => B (n ^^^ j)) then layN B n else layN B n ++ [n]
noncomputable def nth4 (a b c d : Nat) (i : Nat) : Nat := [a, b, c, d].getD i 0
theorem fin1 : ((List.range 2).all fun a => (List.range 3).all fun b => (List.range 5).all fun c => (List.range 9).all fun d => (List.range 16).all fun n =>
    phi [a, b, c, d] n == 0 || (List.range 4).any fun i => n.testBit i && decide (nth4 a b c d i ^^^ phi [a, b, c, d] n < nth4 a b c d i)) = true := by kernel_rfl
theorem fin2 : ((List.range 16).all fun n => (List.range 4).all fun i => (List.range 8).all fun l => !(n.testBit i) || !(decide (l < 2 ^ i)) || (decide (n ^^^ (2 ^ i + l) < n) && decide (2 ^ i + l < 16) && ((2 ^ i + l) == (n ^^^ (n ^^^ (2 ^ i + l)))))) = true := by kernel_rfl
theorem phi_top {a b c d : Nat} (i l : Nat) (hi : i < 4) (hl : l < 2 ^ i) : phi [a, b, c, d] (2 ^ i + l) = phi ([a, b, c, d].take i) l ^^^ nth4 a b c d i :=
  match i, hi, l, hl with
  | 0, _, 0, _ => by kernel_rfl
  | 1, _, 0, _ => by kernel_rfl
  | 1, _, 1, _ => by kernel_rfl
  | 2, _, 0, _ => by kernel_rfl
  | 2, _, 1, _ => by kernel_rfl
  | 2, _, 2, _ => by kernel_rfl
  | 2, _, 3, _ => by kernel_rfl
  | 3, _, 0, _ => by kernel_rfl
  | 3, _, 1, _ => by kernel_rfl
  | 3, _, 2, _ => by kernel_rfl
  | 3, _, 3, _ => by kernel_rfl
  | 3, _, 4, _ => by kernel_rfl
  | 3, _, 5, _ => by kernel_rfl
  | 3, _, 6, _ => by kernel_rfl
  | 3, _, 7, _ => by kernel_rfl
  | 0, _, l + 1, h => absurd h (by show ¬ (l + 1 < 1); omega)
  | 1, _, l + 2, h => absurd h (by show ¬ (l + 2 < 2); omega)
  | 2, _, l + 4, h => absurd h (by show ¬ (l + 4 < 4); omega)
  | 3, _, l + 8, h => absurd h (by show ¬ (l + 8 < 8); omega)
theorem four_mex {B : Nat → Bool} {a b c d : Nat} (F : Four B a b c d) (i : Nat) (hi : i < 4) : Mex B ([a, b, c, d].take i) i (nth4 a b c d i) := by
  match i, hi with
  | 0, _ => exact F.m0
  | 1, _ => exact F.m1
  | 2, _ => exact F.m2
  | 3, _ => exact F.m3
theorem split16 (k : Nat) (h0 : k ≠ 0) (h : k < 16) : ∃ i l, i < 4 ∧ l < 2 ^ i ∧ k = 2 ^ i + l :=
  lt16 (p := fun k => k ≠ 0 → ∃ i l, i < 4 ∧ l < 2 ^ i ∧ k = 2 ^ i + l) (fun h => absurd rfl h) (fun _ => ⟨0, 0, by decide, by decide, rfl⟩)
    (fun _ => ⟨1, 0, by decide, by decide, rfl⟩) (fun _ => ⟨1, 1, by decide, by decide, rfl⟩) (fun _ => ⟨2, 0, by decide, by decide, rfl⟩) (fun _ => ⟨2, 1, by decide, by decide, rfl⟩)
    (fun _ => ⟨2, 2, by decide, by decide, rfl⟩) (fun _ => ⟨2, 3, by decide, by decide, rfl⟩) (fun _ => ⟨3, 0, by decide, by decide, rfl⟩) (fun _ => ⟨3, 1, by decide, by decide, rfl⟩)
    (fun _ => ⟨3, 2, by decide, by decide, rfl⟩) (fun _ => ⟨3, 3, by decide, by decide, rfl⟩) (fun _ => ⟨3, 4, by decide, by decide, rfl⟩) (fun _ => ⟨3, 5, by decide, by decide, rfl⟩)
    (fun _ => ⟨3, 6, by decide, by decide, rfl⟩) (fun _ => ⟨3, 7, by decide, by decide, rfl⟩) k h h0
/-- Conway and Sloane, four places -/
theorem lexi {B : Nat → Bool} {a b c d : Nat} (F : Four B a b c d) : ∀ n, n ≤ 16 → layN B n = (List.range n).filter fun k => phi [a, b, c, d] k == 0
  | 0, _ => rfl
  | n + 1, hn => by
    have ih := lexi F n (by omega)
    have hn16 : n < 16 := by omega
    rw [List.range_succ, List.filter_append, ← ih]
    have e : layN B (n + 1) = if (layN B n).any (fun j => B (n ^^^ j)) then layN B n else layN B n ++ [n] := rfl
    rw [e]
    have key : (layN B n).any (fun j => B (n ^^^ j)) = !(phi [a, b, c, d] n == 0) := by
      rw [ih]
      by_cases h0 : phi [a, b, c, d] n = 0
      · rw [h0]
        refine Eq.trans ?_ (show false = !((0 : Nat) == 0) from rfl)
        rw [List.any_eq_false]
        intro j hj hB
        obtain ⟨h1, h2⟩ := List.mem_filter.1 hj
        have hjn := List.mem_range.1 h1
        have hpj : phi [a, b, c, d] j = 0 := eq_of_beq h2
        have hlt : n ^^^ j < 2 ^ 4 := Nat.xor_lt_two_pow (by omega) (by omega)
        have hne : n ^^^ j ≠ 0 := fun e => by have := xor_zero_eq e; omega
        obtain ⟨i, l, hi, hl, e⟩ := split16 (n ^^^ j) hne hlt
        have hp : phi [a, b, c, d] (n ^^^ j) = 0 := by rw [phi_xor, h0, hpj]; rfl
        rw [e, phi_top i l hi hl] at hp
        rw [e] at hB
        exact (four_mex F i hi).out l hl hB (xor_zero_eq hp)
      · have hne : (phi [a, b, c, d] n == 0) = false := by simpa using h0
        rw [hne]
        show _ = true
        have la : a ≤ 1 := F.m0.le
        have lb : b ≤ 2 := F.m1.le
        have lc : c ≤ 4 := F.m2.le
        have ld : d ≤ 8 := F.m3.le
        have f1 := List.all_eq_true.1 (List.all_eq_true.1 (List.all_eq_true.1 (List.all_eq_true.1 (List.all_eq_true.1 fin1 a (List.mem_range.2 (by omega))) b (List.mem_range.2 (by omega))) c (List.mem_range.2 (by omega))) d (List.mem_range.2 (by omega))) n (List.mem_range.2 hn16)
        rw [hne, Bool.false_or, List.any_eq_true] at f1
        obtain ⟨i, hi, h1⟩ := f1
        have hi := List.mem_range.1 hi
        simp only [Bool.and_eq_true, decide_eq_true_eq] at h1
        obtain ⟨hb, hlt⟩ := h1
        obtain ⟨l, hl, hB, hv⟩ := (four_mex F i hi).below _ hlt
        have h8 : l < 8 := Nat.lt_of_lt_of_le hl (Nat.pow_le_pow_right (by decide) (by omega : i ≤ 3))
        have f2 := List.all_eq_true.1 (List.all_eq_true.1 (List.all_eq_true.1 fin2 n (List.mem_range.2 hn16)) i (List.mem_range.2 hi)) l (List.mem_range.2 h8)
        rw [hb, decide_eq_true hl] at f2
        simp only [Bool.not_true, Bool.false_or, Bool.and_eq_true, decide_eq_true_eq, beq_iff_eq] at f2
        obtain ⟨⟨g1, g2⟩, g3⟩ := f2
        refine List.any_eq_true.2 ⟨n ^^^ (2 ^ i + l), List.mem_filter.2 ⟨List.mem_range.2 g1, ?_⟩, ?_⟩
        · rw [phi_xor, phi_top i l hi hl, hv]
          have : phi [a, b, c, d] n ^^^ (nth4 a b c d i ^^^ phi [a, b, c, d] n ^^^ nth4 a b c d i) = 0 := by
            generalize nth4 a b c d i = w
            generalize phi [a, b, c, d] n = g
            rw [Nat.xor_comm w g, Nat.xor_assoc g w w, Nat.xor_self, Nat.xor_zero, Nat.xor_self]
          rw [this]; rfl
        · rw [← g3]; exact hB
    rw [key]
    cases h : (phi [a, b, c, d] n == 0) with
    | true => simp [h]
    | false => simp [h]
end Mine
end
section
set_option maxRecDepth 20000
namespace Mine
open PySem

noncomputable abbrev GB : List Stmt := sBody (lawS 30)
noncomputable abbrev GI : List Stmt := sBody (nth GB 1)
theorem GB_len : GB.length = 5 := by kernel_rfl
theorem GI_len : GI.length = 1 := by kernel_rfl
theorem contains_cast (l : List Nat) (m : Nat) : (l.map fun k : Nat => (k : Int)).contains (m : Int) = l.contains m := by
  induction l with
  | nil => rfl
  | cons a r ih =>
    simp only [List.map_cons, List.contains_cons, ih]
    congr 1
    rw [Bool.eq_iff_iff]
    simp
    omega
theorem intsV_eq (l : List Nat) : intsV l = (l.map fun k : Nat => (k : Int)).map V.int := by unfold intsV; rw [List.map_map]; rfl
theorem c_in (n : Nat) (l : List Nat) (m : Nat) : callF (n + 1) "contains" [.own (intsV l), .int m] = some (.bool (l.contains m)) := by
  rw [own_contains, intsV_eq, c_contains, contains_cast]
theorem any_contains (l : List Nat) (f : Nat → Bool) : (l.map f).contains true = l.any f := by
  induction l with
  | nil => rfl
  | cons a r ih =>
    simp only [List.map_cons, List.contains_cons, List.any_cons, ih]
    cases f a <;> rfl
noncomputable def foldB (ord : List Nat) (n : Nat) (t j : Nat) : Nat := if n.testBit j then t ^^^ ord.getD j 0 else t
noncomputable def A30 (P : Par) (laid : List V) (n v : Nat) : List (Str × V) := ("at", .int v) :: ("number", .int n) :: Q29 P laid
theorem item_ord (P : Par) (k : Nat) (hk : k < 4) : item (.lst (intsV P.ord)) (.int k) = some (.int (P.ord.getD k 0 : Nat)) := by
  match k, hk with
  | 0, _ => rfl
  | 1, _ => rfl
  | 2, _ => rfl
  | 3, _ => rfl
theorem and_one (n k : Nat) : ((((n : Int).fdiv ((2 ^ k : Nat) : Int)) |> fun u => Builtin.bitAnd u ((1 : Nat) : Int)) == 1) = n.testBit k := by
  show (Builtin.bitAnd ((n : Int).fdiv ((2 ^ k : Nat) : Int)) ((1 : Nat) : Int) == 1) = _
  rw [fdiv_nat, bitAnd_nat, Nat.testBit_eq_decide_div_mod_eq]
  have h : n / 2 ^ k &&& 1 = n / 2 ^ k % 2 := Nat.and_two_pow_sub_one_eq_mod (n / 2 ^ k) 1
  rw [h]
  generalize n / 2 ^ k % 2 = m
  rw [Bool.eq_iff_iff, beq_iff_eq, decide_eq_true_eq]
  omega
theorem at_turn (C) (hC : C = callF 5) (P : Par) (laid : List V) (n v k : Nat) (hk : k < 4) (T : Sg) (H : told (A30 P laid n v) T) :
    ∃ σ, exs (WX C) 265 GI (upd T "k" (.int k)) = some (.next, σ) ∧ told (A30 P laid n (foldB P.ord n v k)) σ := by
  have gi : ∀ (as : List V) (b : Int), guardOwn as (some (.int b)) = some (.int b) := fun as b => rfl
  have H1 : told (("k", .int k) :: A30 P laid n v) (upd T "k" (.int k)) := told_put "k" _ H (by kernel_rfl)
  generalize upd T "k" (.int k) = T1 at H1
  have ht : tst (WX C) 263 (sTest (nth GI 0)) T1 = some (n.testBit k) := by
    refine tst_lay H1 ?_
    have h : tst (WX C) 263 (sTest (nth GI 0)) (lay (("k", .int k) :: A30 P laid n v) T1) =
      (((((guardOwn [.int n, .int k] (C "rshift" [.int n, .int k])).bind fun a => some [a, .int ((1 : Nat) : Int)]).bind fun as => guardOwn as (C "and_" as)).bind fun a => cmp .Eq a (.int 1)).bind truth) := by kernel_rfl
    have e : (2 : Int) ^ k = ((2 ^ k : Nat) : Int) := by simp
    rw [h, hC, c_rshift 4, gi, Option.bind_some, Option.bind_some, c_and 4, gi, Option.bind_some, ← and_one, e]
    rfl
  have s := r_if (X := WX C) (s := nth GI 0) (by kernel_rfl) ht
  unfold foldB
  cases hb : n.testBit k with
  | false =>
    rw [hb, if_neg (by simp)] at s
    have e : exs (WX C) 263 (sElse (nth GI 0)) T1 = some (.next, T1) := by kernel_rfl
    refine ⟨T1, (r_go (X := WX C) (i := 0) (b := GI) (by rw [GI_len]; decide) (s.trans e)).trans (r_end (by rw [GI_len]; decide)), ?_⟩
    rw [if_neg (by simp)]
    exact H1.2
  | true =>
    rw [hb, if_pos rfl] at s
    have bl : (sBody (nth GI 0)).length = 1 := by kernel_rfl
    have q : ex (WX C) 262 (nth (sBody (nth GI 0)) 0) T1 = some (.next, upd T1 "at" (.int (v ^^^ P.ord.getD k 0 : Nat))) := by
      refine r_asn "at" (by kernel_rfl) (by kernel_rfl) (kk (by kernel_rfl)) ?_ rfl
      refine ev_lay H1 ?_
      have h : ev (WX C) 261 (sVal (nth (sBody (nth GI 0)) 0)) (lay (("k", .int k) :: A30 P laid n v) T1) = (((item (.lst (intsV P.ord)) (.int k)).bind fun b => some [b]).map (V.int v :: ·)).bind fun as => guardOwn as (C "xor" as) := by kernel_rfl
      rw [h, item_ord P k hk]
      simp only [Option.bind_some, Option.map_some]
      rw [hC, c_xor 4, bitXor_nat, gi]
    have F := (r_go (X := WX C) (i := 0) (b := sBody (nth GI 0)) (by rw [bl]; decide) q).trans (r_end (by rw [bl]; decide))
    refine ⟨_, (r_go (X := WX C) (i := 0) (b := GI) (by rw [GI_len]; decide) (s.trans F)).trans (r_end (by rw [GI_len]; decide)), ?_⟩
    rw [if_pos rfl]
    exact told_put "at" _ H1.2.2 (by kernel_rfl)
theorem at_loop (C) (hC : C = callF 5) (P : Par) (laid : List V) (n : Nat) : ∀ (m k v : Nat) (T : Sg), k + m = 4 → told (A30 P laid n v) T →
    ∃ σ, forL (fun v σ => (put (WX C) "k" v σ).bind fun σ' => exs (WX C) 265 GI σ') ((List.range' k m).map fun j : Nat => V.int j) T = some (.next, σ) ∧ told (A30 P laid n ((List.range' k m).foldl (foldB P.ord n) v)) σ
  | 0, k, v, T, _, H => ⟨T, rfl, H⟩
  | m + 1, k, v, T, hk, H => by
    obtain ⟨σ1, h1, H1⟩ := at_turn C hC P laid n v k (by omega) T H
    obtain ⟨σ2, h2, H2⟩ := at_loop C hC P laid n m (k + 1) _ σ1 (by omega) H1
    refine ⟨σ2, ?_, ?_⟩
    · rw [List.range'_succ, List.map_cons]
      unfold forL
      rw [put_ok (by kernel_rfl) (kk (by kernel_rfl)) rfl, Option.bind_some, h1]
      exact h2
    · rw [List.range'_succ, List.foldl_cons]
      exact H2
noncomputable def foundComp : Expr := eArg (sVal (nth GB 2)) 0
theorem greedy_turn (C) (hC : C = callF 5) (P : Par) (l : List Nat) (hl : l.length ≤ 16) (n : Nat) (hn : n < 16) (T : Sg) (H : told (Q29 P (intsV l)) T) :
    ∃ σ, exs (WX C) 268 GB (upd T "number" (.int n)) = some (.next, σ) ∧ told (Q29 P (intsV (if l.any (fun b => (barN P 16).contains (phi P.ord n ^^^ b)) then l else l ++ [phi P.ord n]))) σ := by
  have gi : ∀ (as : List V) (b : Int), guardOwn as (some (.int b)) = some (.int b) := fun as b => rfl
  have gb : ∀ (as : List V) (b : Bool), guardOwn as (some (.bool b)) = some (.bool b) := fun as b => rfl
  have H0 : told (("number", .int n) :: Q29 P (intsV l)) (upd T "number" (.int n)) := told_put "number" _ H (by kernel_rfl)
  generalize upd T "number" (.int n) = T0 at H0
  have s0 : ex (WX C) 267 (nth GB 0) T0 = some (.next, upd T0 "at" (.int (0 : Nat))) := by kernel_rfl
  have E := r_go (X := WX C) (i := 0) (b := GB) (by rw [GB_len]; decide) s0
  have H1 : told (A30 P (intsV l) n 0) (upd T0 "at" (.int (0 : Nat))) := told_put "at" _ H0 (by kernel_rfl)
  generalize upd T0 "at" (.int (0 : Nat)) = T1 at E H1
  obtain ⟨T2, h2, H2⟩ := at_loop C hC P (intsV l) n 4 0 0 T1 (by omega) H1
  have hphi : (List.range' 0 4).foldl (foldB P.ord n) 0 = phi P.ord n := rfl
  rw [hphi] at H2
  generalize phi P.ord n = at' at *
  have hit : ev (WX C) 265 (sIter (nth GB 1)) T1 = some (.rng 0 (4 : Nat) 1) := by kernel_rfl
  have s1 := r_for (X := WX C) (n := 265) (s := nth GB 1) (σ := T1) "k" (by kernel_rfl) (by kernel_rfl) (kk (by kernel_rfl)) hit (items_range 4) (by simp [big]) rfl
  have E := E.trans (r_go (i := 1) (by rw [GB_len]; decide) (s1.trans h2))
  have s2 : ex (WX C) 265 (nth GB 2) T2 = some (.next, upd T2 "found" (.bool (l.any fun b => (barN P 16).contains (at' ^^^ b)))) := by
    refine r_asn "found" (by kernel_rfl) (by kernel_rfl) (kk (by kernel_rfl)) ?_ rfl
    have h : ev (WX C) 264 (sVal (nth GB 2)) T2 = (((ev (WX C) 262 foundComp T2).bind fun a => some [a, .bool true])).bind fun as => guardOwn as (C "contains" as) := by kernel_rfl
    have hit2 : ev (WX C) 261 (cIter foundComp) T2 = some (.own (intsV l)) := by
      refine ev_lay H2 ?_
      kernel_rfl
    have e : ev (WX C) 262 foundComp T2 = some (.lst ((l.map fun b => (barN P 16).contains (at' ^^^ b)).map .bool)) := by
      have e := r_comp (X := WX C) (n := 261) (e := foundComp) (σ := T2) (xs := intsV l) (ys := l.map fun b => V.bool ((barN P 16).contains (at' ^^^ b))) "before" (by kernel_rfl) (by kernel_rfl) hit2 (items_own _) (by unfold intsV; rw [List.length_map]; unfold big; omega) ?_
      · rw [List.map_map]
        exact e
      · rw [← lay_same H2]
        have K := compL_all (test := fun v => tsts (compCx (WX C) (cSc foundComp)) 261 (cIfs foundComp) (compSg (lay (A30 P (intsV l) n at') T2) "before" (cSc foundComp) v))
          (elt := fun v => ev (compCx (WX C) (cSc foundComp)) 261 (cElt foundComp) (compSg (lay (A30 P (intsV l) n at') T2) "before" (cSc foundComp) v))
          (fun k : Nat => V.int k) (fun _ => true) (fun b => V.bool ((barN P 16).contains (at' ^^^ b))) l (fun b _ => by
            refine ⟨rfl, by kernel_rfl, fun _ => ⟨?_, rfl⟩⟩
            have h : ev (compCx (WX C) (cSc foundComp)) 261 (cElt foundComp) (compSg (lay (A30 P (intsV l) n at') T2) "before" (cSc foundComp) (.int b)) =
              (((guardOwn [.int at', .int b] (C "xor" [.int at', .int b])).bind fun b => some [b]).map (V.own (intsV (barN P 16)) :: ·)).bind fun as => guardOwn as (C "contains" as) := by kernel_rfl
            rw [h, hC, c_xor 4, bitXor_nat, gi]
            simp only [Option.bind_some, Option.map_some]
            rw [c_in 4, gb])
        rw [List.filter_eq_self.2 (fun _ _ => rfl)] at K
        exact K
    rw [h, e]
    simp only [Option.bind_some]
    rw [hC]
    have e2 := c_containsB 4 (l.map fun b => (barN P 16).contains (at' ^^^ b)) true
    rw [e2, gb]
    congr 2
    exact any_contains _ _
  have E := E.trans (r_go (i := 2) (by rw [GB_len]; decide) s2)
  generalize (l.any fun b => (barN P 16).contains (at' ^^^ b)) = fb at *
  have H3 : told (("found", .bool fb) :: A30 P (intsV l) n at') (upd T2 "found" (.bool fb)) := told_put "found" _ H2 (by kernel_rfl)
  generalize upd T2 "found" (.bool fb) = T3 at E H3
  have ht3 : tst (WX C) 263 (sTest (nth GB 3)) T3 = some false := by
    have Hf : told [("found", .bool fb)] T3 := ⟨H3.1, trivial⟩
    refine tst_lay Hf ?_
    kernel_rfl
  have s3 := r_if (X := WX C) (s := nth GB 3) (by kernel_rfl) ht3
  rw [if_neg (by simp)] at s3
  have e3 : exs (WX C) 263 (sElse (nth GB 3)) T3 = some (.next, T3) := by kernel_rfl
  have E := E.trans (r_go (i := 3) (by rw [GB_len]; decide) (s3.trans e3))
  have ht4 : tst (WX C) 262 (sTest (nth GB 4)) T3 = some (!fb) := by
    have Hf : told [("found", .bool fb)] T3 := ⟨H3.1, trivial⟩
    refine tst_lay Hf ?_
    kernel_rfl
  have s4 := r_if (X := WX C) (s := nth GB 4) (by kernel_rfl) ht4
  cases fb with
  | true =>
    rw [if_neg (by simp)] at s4
    have e4 : exs (WX C) 262 (sElse (nth GB 4)) T3 = some (.next, T3) := by kernel_rfl
    have E := E.trans (r_go (i := 4) (by rw [GB_len]; decide) (s4.trans e4))
    refine ⟨T3, E.trans (r_end (by rw [GB_len]; decide)), ?_⟩
    rw [if_pos rfl]
    exact H3.2.2.2
  | false =>
    rw [if_pos (by rfl)] at s4
    have bl : (sBody (nth GB 4)).length = 1 := by kernel_rfl
    have hev : evs (WX C) 260 (sArgs (nth (sBody (nth GB 4)) 0)) T3 = some [.int at'] := by
      have Hf : told [("at", .int at')] T3 := ⟨H3.2.1, trivial⟩
      refine evs_lay Hf ?_
      kernel_rfl
    have q := r_append (X := WX C) (n := 260) (s := nth (sBody (nth GB 4)) 0) (σ := T3) "laid" (by kernel_rfl) (by kernel_rfl) (kk (by kernel_rfl)) (by kernel_rfl) H3.2.2.2.1 hev rfl (by unfold intsV; rw [List.length_map]; unfold big; omega)
    have F := (r_go (X := WX C) (i := 0) (b := sBody (nth GB 4)) (by rw [bl]; decide) q).trans (r_end (by rw [bl]; decide))
    have E := E.trans (r_go (i := 4) (by rw [GB_len]; decide) (s4.trans F))
    refine ⟨_, E.trans (r_end (by rw [GB_len]; decide)), ?_⟩
    rw [if_neg (by simp)]
    have e : intsV l ++ [V.int at'] = intsV (l ++ [at']) := by unfold intsV; simp
    rw [e]
    exact told_put "laid" _ H3.2.2.2.2 (by kernel_rfl)
end Mine
end
section
set_option maxRecDepth 20000
namespace Mine
open PySem

theorem sumI_phi (row : List Nat) (n : Nat) : sumI n (row.map fun k : Nat => (k : Int)) = (phi row n : Nat) := by
  unfold sumI phi
  rw [List.length_map]
  have h : ∀ (l : List Nat) (t : Nat), l.foldl (fun t j => if n / 2 ^ j % 2 = 1 then Builtin.bitXor t ((row.map fun k : Nat => (k : Int)).getD j 0) else t) (t : Int) = ((l.foldl (fun t j => if n.testBit j then t ^^^ row.getD j 0 else t) t : Nat) : Int) := fun l => by
    induction l with
    | nil => intro t; rfl
    | cons j r ih =>
      intro t
      rw [List.foldl_cons, List.foldl_cons]
      have hg : (row.map fun k : Nat => (k : Int)).getD j 0 = (row.getD j 0 : Nat) := by
        rw [List.getD_eq_getElem?_getD, List.getD_eq_getElem?_getD, List.getElem?_map]
        cases row[j]? <;> rfl
      rw [hg, Nat.testBit_eq_decide_div_mod_eq]
      by_cases e : n / 2 ^ j % 2 = 1
      · rw [if_pos e, if_pos (by simpa using e), bitXor_nat, ih]
      · rw [if_neg e, if_neg (by simpa using e), ih]
  exact h _ 0
theorem c_sumN (m k : Nat) (row : List Nat) (hk : k < 16) (hr : row.length ≤ 4) : callF (m + 1) "_law_sum" [.int k, .lst (intsV row)] = some (.int (phi row k : Nat)) := by
  rw [intsV_eq, c_sum m k _ hk (by simpa using hr), sumI_phi]
theorem c_sumO (m k : Nat) (row : List Nat) (hk : k < 16) (hr : row.length ≤ 4) : callF (m + 1) "_law_sum" [.int k, .own (intsV row)] = some (.int (phi row k : Nat)) := by
  rw [own_sum, c_sumN m k row hk hr]

noncomputable def fouF : Fd := fdAt 36
noncomputable abbrev FX (C : Str → List V → Option V) : Cx := cxOf fouF C
noncomputable abbrev FB : List Stmt := sBody (nth fouF.body 1)
noncomputable abbrev FI : List Stmt := sBody (nth FB 1)
theorem fou_len : fouF.body.length = 3 := by kernel_rfl
theorem FB_len : FB.length = 5 := by kernel_rfl
theorem FI_len : FI.length = 1 := by kernel_rfl
noncomputable def BO (bar ord : List Nat) : List (Str × V) := [("barred", .lst (intsV bar)), ("order", .lst (intsV ord))]
noncomputable def FF (bar ord w : List Nat) : List (Str × V) := ("worth", .own (intsV w)) :: BO bar ord
noncomputable def FM (bar ord w ms : List Nat) (k : Nat) : List (Str × V) := ("met", .own (intsV ms)) :: ("k", .int k) :: FF bar ord w
noncomputable def inB' (bar ord : List Nat) (n : Nat) : Bool := bar.contains (phi ord n)
theorem cmp_in (a : Nat) (l : List Nat) : cmp .In (.int a) (.lst (intsV l)) = some (.bool (l.contains a)) := by
  have e : cmp .In (.int a) (.lst (intsV l)) = (intL (intsV l)).map fun l => .bool (l.contains (a : Int)) := rfl
  rw [e, intsV_eq, intL_map, Option.map_some, contains_cast]
theorem cmp_inO (a : Nat) (l : List Nat) : cmp .In (.int a) (.own (intsV l)) = some (.bool (l.contains a)) := by
  have e : cmp .In (.int a) (.own (intsV l)) = (intL (intsV l)).map fun l => .bool (l.contains (a : Int)) := rfl
  rw [e, intsV_eq, intL_map, Option.map_some, contains_cast]
theorem met_turn (C) (m : Nat) (hC : C = callF (m + 1)) (bar ord w ms : List Nat) (k l : Nat) (ho : ord.length ≤ 4) (hw : w.length ≤ 4) (hk : k < 4) (hl : l < 2 ^ k) (hms : ms.length ≤ 16) (T : Sg) (H : told (FM bar ord w ms k) T) :
    ∃ σ, exs (FX C) 294 FI (upd T "lower" (.int l)) = some (.next, σ) ∧ told (FM bar ord w (if inB' bar ord (2 ^ k + l) then ms ++ [phi w l] else ms) k) σ := by
  have gi : ∀ (as : List V) (b : Int), guardOwn as (some (.int b)) = some (.int b) := fun as b => rfl
  have hp : 2 ^ k ≤ 8 := Nat.pow_le_pow_right (by decide) (by omega : k ≤ 3)
  have H1 : told (("lower", .int l) :: FM bar ord w ms k) (upd T "lower" (.int l)) := told_put "lower" _ H (by kernel_rfl)
  generalize upd T "lower" (.int l) = T1 at H1
  have ht : tst (FX C) 292 (sTest (nth FI 0)) T1 = some (inB' bar ord (2 ^ k + l)) := by
    refine tst_lay H1 ?_
    have h : tst (FX C) 292 (sTest (nth FI 0)) (lay (("lower", .int l) :: FM bar ord w ms k) T1) =
      ((((((bin .Pow (.int 2) (.int k)).bind fun a => bin .Add a (.int l)).bind fun a => some [a, .lst (intsV ord)]).bind fun as => guardOwn as (C "_law_sum" as)).bind fun a => cmp .In a (.lst (intsV bar))).bind truth) := by kernel_rfl
    rw [h, bin_pow k hk, Option.bind_some]
    show ((((some (V.int (((2 ^ k : Nat) : Int) + (l : Int)))).bind fun a => some [a, .lst (intsV ord)]).bind fun as => guardOwn as (C "_law_sum" as)).bind fun a => cmp .In a (.lst (intsV bar))).bind truth = _
    rw [← Int.natCast_add]
    simp only [Option.bind_some]
    rw [hC, c_sumN m (2 ^ k + l) ord (by omega) ho, gi, Option.bind_some, cmp_in]
    rfl
  have s := r_if (X := FX C) (s := nth FI 0) (by kernel_rfl) ht
  cases hb : inB' bar ord (2 ^ k + l) with
  | false =>
    rw [hb, if_neg (by simp)] at s
    have e : exs (FX C) 292 (sElse (nth FI 0)) T1 = some (.next, T1) := by kernel_rfl
    refine ⟨T1, (r_go (X := FX C) (i := 0) (b := FI) (by rw [FI_len]; decide) (s.trans e)).trans (r_end (by rw [FI_len]; decide)), ?_⟩
    rw [if_neg (by simp)]
    exact H1.2
  | true =>
    rw [hb, if_pos rfl] at s
    have bl : (sBody (nth FI 0)).length = 1 := by kernel_rfl
    have hev : evs (FX C) 290 (sArgs (nth (sBody (nth FI 0)) 0)) T1 = some [.int (phi w l : Nat)] := by
      refine evs_lay H1 ?_
      have h : evs (FX C) 290 (sArgs (nth (sBody (nth FI 0)) 0)) (lay (("lower", .int l) :: FM bar ord w ms k) T1) = (guardOwn [.int l, .own (intsV w)] (C "_law_sum" [.int l, .own (intsV w)])).bind fun a => some [a] := by kernel_rfl
      rw [h, hC, c_sumO m l w (by omega) hw, gi]
      rfl
    have q := r_append (X := FX C) (n := 290) (s := nth (sBody (nth FI 0)) 0) (σ := T1) "met" (by kernel_rfl) (by kernel_rfl) (kk (by kernel_rfl)) (by kernel_rfl) H1.2.1 hev rfl (by unfold intsV; rw [List.length_map]; unfold big; omega)
    have F := (r_go (X := FX C) (i := 0) (b := sBody (nth FI 0)) (by rw [bl]; decide) q).trans (r_end (by rw [bl]; decide))
    refine ⟨_, (r_go (X := FX C) (i := 0) (b := FI) (by rw [FI_len]; decide) (s.trans F)).trans (r_end (by rw [FI_len]; decide)), ?_⟩
    rw [if_pos rfl]
    have e : intsV ms ++ [V.int (phi w l : Nat)] = intsV (ms ++ [phi w l]) := by unfold intsV; simp
    rw [e]
    exact told_put "met" _ H1.2.2 (by kernel_rfl)
noncomputable def metTo (bar ord w : List Nat) (k n : Nat) : List Nat := ((List.range n).filter fun l => inB' bar ord (2 ^ k + l)).map (phi w)
theorem metTo_succ (bar ord w : List Nat) (k n : Nat) : metTo bar ord w k (n + 1) = if inB' bar ord (2 ^ k + n) then metTo bar ord w k n ++ [phi w n] else metTo bar ord w k n := by
  unfold metTo
  rw [List.range_succ, List.filter_append]
  cases h : inB' bar ord (2 ^ k + n) <;> simp [h]
theorem metTo_len (bar ord w : List Nat) (k n : Nat) : (metTo bar ord w k n).length ≤ n := by
  unfold metTo
  rw [List.length_map]
  exact Nat.le_trans (List.length_filter_le _ _) (by simp)
theorem met_loop (C) (m : Nat) (hC : C = callF (m + 1)) (bar ord w : List Nat) (k : Nat) (ho : ord.length ≤ 4) (hw : w.length ≤ 4) (hk : k < 4) : ∀ (r l : Nat) (T : Sg), l + r = 2 ^ k → told (FM bar ord w (metTo bar ord w k l) k) T →
    ∃ σ, forL (fun v σ => (put (FX C) "lower" v σ).bind fun σ' => exs (FX C) 294 FI σ') ((List.range' l r).map fun j : Nat => V.int j) T = some (.next, σ) ∧ told (FM bar ord w (metTo bar ord w k (2 ^ k)) k) σ
  | 0, l, T, hl, H => by
    have : l = 2 ^ k := by omega
    subst this
    exact ⟨T, rfl, H⟩
  | r + 1, l, T, hl, H => by
    have hp : 2 ^ k ≤ 8 := Nat.pow_le_pow_right (by decide) (by omega : k ≤ 3)
    have hml := metTo_len bar ord w k l
    obtain ⟨σ1, h1, H1⟩ := met_turn C m hC bar ord w _ k l ho hw hk (by omega) (by omega) T H
    rw [← metTo_succ] at H1
    obtain ⟨σ2, h2, H2⟩ := met_loop C m hC bar ord w k ho hw hk r (l + 1) σ1 (by omega) H1
    refine ⟨σ2, ?_, H2⟩
    rw [List.range'_succ, List.map_cons]
    unfold forL
    rw [put_ok (by kernel_rfl) (kk (by kernel_rfl)) rfl, Option.bind_some, h1]
    exact h2
theorem least_loop (C) (bar ord w ms : List Nat) (k : Nat) : ∀ (f a m : Nat) (T : Sg), ms.contains (mexF f a ms) = false → told (("least", .int a) :: FM bar ord w ms k) T →
    ∃ σ, whileL (fun σ => tst (FX C) 292 (sTest (nth FB 3)) σ) (fun σ => exs (FX C) 292 (sBody (nth FB 3)) σ) (f + 1 + m) T = some (.next, σ) ∧ told (("least", .int (mexF f a ms : Nat)) :: FM bar ord w ms k) σ
  | f, a, m, T, hc, H => by
    have ht : tst (FX C) 292 (sTest (nth FB 3)) T = some (ms.contains a) := by
      refine tst_lay H ?_
      have h : tst (FX C) 292 (sTest (nth FB 3)) (lay (("least", .int a) :: FM bar ord w ms k) T) = (cmp .In (.int a) (.own (intsV ms))).bind truth := by kernel_rfl
      rw [h, cmp_inO]; rfl
    rw [show f + 1 + m = (f + m) + 1 by omega]
    unfold whileL
    rw [ht, Option.bind_some]
    cases hm : ms.contains a with
    | false =>
      rw [if_neg (by simp)]
      have e : mexF f a ms = a := by
        cases f with
        | zero => rfl
        | succ f => unfold mexF; rw [hm]; rfl
      refine ⟨T, rfl, ?_⟩
      rw [e]; exact H
    | true =>
      rw [if_pos rfl]
      cases f with
      | zero => 
        have e : mexF 0 a ms = a := rfl
        rw [e, hm] at hc
        cases hc
      | succ f =>
        have e : mexF (f + 1) a ms = mexF f (a + 1) ms := by
          show (if ms.contains a then mexF f (a + 1) ms else a) = _
          rw [hm]; rfl
        rw [e] at hc ⊢
        have hb : exs (FX C) 292 (sBody (nth FB 3)) T = some (.next, upd T "least" (.int ((a + 1 : Nat) : Int))) := by
          have h : exs (FX C) 292 (sBody (nth FB 3)) (lay (("least", .int a) :: FM bar ord w ms k) T) = some (.next, upd (lay (("least", .int a) :: FM bar ord w ms k) T) "least" (.int ((a : Int) + 1))) := by kernel_rfl
          rw [lay_same H] at h
          exact h
        rw [hb]
        obtain ⟨σ, h1, H1⟩ := least_loop C bar ord w ms k f (a + 1) m (upd T "least" (.int ((a + 1 : Nat) : Int))) hc (told_put "least" _ H.2 (by kernel_rfl))
        refine ⟨σ, ?_, H1⟩
        rw [show f + 1 + m = f + 1 + m from rfl] at h1
        simp only [Option.bind_some]
        rw [show f + 1 + m = f + 1 + m from rfl]
        exact h1
end Mine
end
section
set_option maxRecDepth 20000
namespace Mine
open PySem

theorem met_eq (bar ord w : List Nat) (k : Nat) : metTo bar ord w k (2 ^ k) = met (inB' bar ord) w k := rfl
/-- one of the four numbers -/
theorem four_turn (C) (m : Nat) (hC : C = callF (m + 1)) (bar ord w : List Nat) (k : Nat) (ho : ord.length ≤ 4) (hw : w.length = k) (hk : k < 4) (hM : (met (inB' bar ord) w k).contains (mexF 16 0 (met (inB' bar ord) w k)) = false) (T : Sg) (H : told (FF bar ord w) T) :
    ∃ σ, exs (FX C) 297 FB (upd T "k" (.int k)) = some (.next, σ) ∧ told (FF bar ord (w ++ [mexF 16 0 (met (inB' bar ord) w k)])) σ := by
  have hp : 2 ^ k ≤ 8 := Nat.pow_le_pow_right (by decide) (by omega : k ≤ 3)
  have H0 : told (("k", .int k) :: FF bar ord w) (upd T "k" (.int k)) := told_put "k" _ H (by kernel_rfl)
  generalize upd T "k" (.int k) = T0 at H0
  have s0 : ex (FX C) 296 (nth FB 0) T0 = some (.next, upd T0 "met" (.own (intsV []))) := by kernel_rfl
  have E := r_go (X := FX C) (i := 0) (b := FB) (by rw [FB_len]; decide) s0
  have H1 : told (FM bar ord w (metTo bar ord w k 0) k) (upd T0 "met" (.own (intsV []))) := told_put "met" _ H0 (by kernel_rfl)
  generalize upd T0 "met" (.own (intsV [])) = T1 at E H1
  have hit : ev (FX C) 294 (sIter (nth FB 1)) T1 = some (.rng 0 (2 ^ k : Nat) 1) := by
    refine ev_lay H1 ?_
    have h : ev (FX C) 294 (sIter (nth FB 1)) (lay (FM bar ord w (metTo bar ord w k 0) k) T1) = ((bin .Pow (.int 2) (.int k)).bind fun a => some [a]).bind fun as => mkT "range" as := by kernel_rfl
    rw [h, bin_pow k hk]
    exact mkT_range _ (by unfold big; omega)
  obtain ⟨T2, h2, H2⟩ := met_loop C m hC bar ord w k ho (by omega) hk (2 ^ k) 0 T1 (by omega) H1
  have s1 := r_for (X := FX C) (n := 294) (s := nth FB 1) (σ := T1) "lower" (by kernel_rfl) (by kernel_rfl) (kk (by kernel_rfl)) hit (items_range _) (by simp; unfold big; omega) rfl
  have E := E.trans (r_go (i := 1) (by rw [FB_len]; decide) (s1.trans h2))
  rw [met_eq] at H2
  generalize met (inB' bar ord) w k = ms at *
  have s2 : ex (FX C) 294 (nth FB 2) T2 = some (.next, upd T2 "least" (.int (0 : Nat))) := by kernel_rfl
  have E := E.trans (r_go (i := 2) (by rw [FB_len]; decide) s2)
  have H3 : told (("least", .int (0 : Nat)) :: FM bar ord w ms k) (upd T2 "least" (.int (0 : Nat))) := told_put "least" _ H2 (by kernel_rfl)
  generalize upd T2 "least" (.int (0 : Nat)) = T3 at E H3
  obtain ⟨T4, h4, H4⟩ := least_loop C bar ord w ms k 16 0 275 T3 hM H3
  have s3 : ex (FX C) 293 (nth FB 3) T3 = some (.next, T4) := (r_while (by kernel_rfl)).trans h4
  have E := E.trans (r_go (i := 3) (by rw [FB_len]; decide) s3)
  generalize mexF 16 0 ms = r at *
  have hev : evs (FX C) 291 (sArgs (nth FB 4)) T4 = some [.int r] := by
    have Hf : told [("least", .int r)] T4 := ⟨H4.1, trivial⟩
    refine evs_lay Hf ?_
    kernel_rfl
  have s4 := r_append (X := FX C) (n := 291) (s := nth FB 4) (σ := T4) "worth" (by kernel_rfl) (by kernel_rfl) (kk (by kernel_rfl)) (by kernel_rfl) H4.2.2.2.1 hev rfl (by unfold intsV; rw [List.length_map]; unfold big; omega)
  have E := E.trans (r_go (i := 4) (by rw [FB_len]; decide) s4)
  refine ⟨_, E.trans (r_end (by rw [FB_len]; decide)), ?_⟩
  have e : intsV w ++ [V.int r] = intsV (w ++ [r]) := by unfold intsV; simp
  rw [e]
  exact told_put "worth" _ H4.2.2.2.2 (by kernel_rfl)
theorem worth_len (B : Nat → Bool) : ∀ k, (worth B k).length = k
  | 0 => rfl
  | k + 1 => by
    show (worth B k ++ [_]).length = _
    rw [List.length_append, worth_len B k]; rfl
theorem four_loop (C) (m : Nat) (hC : C = callF (m + 1)) (bar ord : List Nat) (ho : ord.length ≤ 4) (hM : ∀ k, k < 4 → (met (inB' bar ord) (worth (inB' bar ord) k) k).contains (mexF 16 0 (met (inB' bar ord) (worth (inB' bar ord) k) k)) = false) : ∀ (r k : Nat) (T : Sg), k + r = 4 → told (FF bar ord (worth (inB' bar ord) k)) T →
    ∃ σ, forL (fun v σ => (put (FX C) "k" v σ).bind fun σ' => exs (FX C) 297 FB σ') ((List.range' k r).map fun j : Nat => V.int j) T = some (.next, σ) ∧ told (FF bar ord (worth (inB' bar ord) 4)) σ
  | 0, k, T, hk, H => by
    have : k = 4 := by omega
    subst this
    exact ⟨T, rfl, H⟩
  | r + 1, k, T, hk, H => by
    obtain ⟨σ1, h1, H1⟩ := four_turn C m hC bar ord _ k ho (worth_len _ k) (by omega) (hM k (by omega)) T H
    obtain ⟨σ2, h2, H2⟩ := four_loop C m hC bar ord ho hM r (k + 1) σ1 (by omega) H1
    refine ⟨σ2, ?_, H2⟩
    rw [List.range'_succ, List.map_cons]
    unfold forL
    rw [put_ok (by kernel_rfl) (kk (by kernel_rfl)) rfl, Option.bind_some, h1]
    exact h2
theorem mex_out {B : Nat → Bool} {w : List Nat} {k r : Nat} (h : Mex B w k r) : (met B w k).contains r = false := by
  cases hc : (met B w k).contains r with
  | false => rfl
  | true =>
    have hm : r ∈ met B w k := by simpa using hc
    obtain ⟨l, hl, e⟩ := List.mem_map.1 hm
    obtain ⟨h5, h6⟩ := List.mem_filter.1 hl
    exact absurd e (h.out l (List.mem_range.1 h5) h6)
theorem c_four (m : Nat) (bar ord : List Nat) (ho : ord.length ≤ 4) : callF (m + 2) "_law_four_numbers" [.own (intsV bar), .lst (intsV ord)] = some (.own (intsV (worth (inB' bar ord) 4))) := by
  obtain ⟨a, b, c, d, e, F⟩ := four_of (inB' bar ord)
  have e' : [mexF 16 0 (met (inB' bar ord) (worth (inB' bar ord) 0) 0), mexF 16 0 (met (inB' bar ord) (worth (inB' bar ord) 1) 1), mexF 16 0 (met (inB' bar ord) (worth (inB' bar ord) 2) 2), mexF 16 0 (met (inB' bar ord) (worth (inB' bar ord) 3) 3)] = [a, b, c, d] := e
  simp only [List.cons.injEq, and_true] at e'
  obtain ⟨ea, eb, ec, ed⟩ := e'
  have w1 : worth (inB' bar ord) 1 = [a] := by show [] ++ [mexF 16 0 (met (inB' bar ord) (worth (inB' bar ord) 0) 0)] = _; rw [ea]; rfl
  have w2 : worth (inB' bar ord) 2 = [a, b] := by show worth (inB' bar ord) 1 ++ [mexF 16 0 (met (inB' bar ord) (worth (inB' bar ord) 1) 1)] = _; rw [eb, w1]; rfl
  have w3 : worth (inB' bar ord) 3 = [a, b, c] := by show worth (inB' bar ord) 2 ++ [mexF 16 0 (met (inB' bar ord) (worth (inB' bar ord) 2) 2)] = _; rw [ec, w2]; rfl
  have hM : ∀ k, k < 4 → (met (inB' bar ord) (worth (inB' bar ord) k) k).contains (mexF 16 0 (met (inB' bar ord) (worth (inB' bar ord) k) k)) = false := fun k hk => by
    match k, hk with
    | 0, _ => rw [ea]; exact mex_out F.m0
    | 1, _ => rw [eb, w1]; exact mex_out F.m1
    | 2, _ => rw [ec, w2]; exact mex_out F.m2
    | 3, _ => rw [ed, w3]; exact mex_out F.m3
  generalize hT : start fouF.params [.own (intsV bar), .lst (intsV ord)] = T
  have HT : told (BO bar ord) T := by subst hT; exact ⟨rfl, rfl, trivial⟩
  have s0 : ex (FX (callF (m + 1))) 299 (nth fouF.body 0) T = some (.next, upd T "worth" (.own (intsV []))) := by kernel_rfl
  have E := r_go (X := FX (callF (m + 1))) (i := 0) (b := fouF.body) (by rw [fou_len]; decide) s0
  have H0 : told (FF bar ord (worth (inB' bar ord) 0)) (upd T "worth" (.own (intsV []))) := told_put "worth" _ HT (by kernel_rfl)
  generalize upd T "worth" (.own (intsV [])) = T0 at E H0
  obtain ⟨T1, h1, H1⟩ := four_loop (callF (m + 1)) m rfl bar ord ho hM 4 0 T0 (by omega) H0
  have hit : ev (FX (callF (m + 1))) 297 (sIter (nth fouF.body 1)) T0 = some (.rng 0 (4 : Nat) 1) := by kernel_rfl
  have s1 := r_for (X := FX (callF (m + 1))) (n := 297) (s := nth fouF.body 1) (σ := T0) "k" (by kernel_rfl) (by kernel_rfl) (kk (by kernel_rfl)) hit (items_range 4) (by simp [big]) rfl
  have E := E.trans (r_go (i := 1) (by rw [fou_len]; decide) (s1.trans h1))
  have s2 : ex (FX (callF (m + 1))) 297 (nth fouF.body 2) T1 = some (.ret (.own (intsV (worth (inB' bar ord) 4))), T1) := by
    refine r_ret (by kernel_rfl) ?_
    have Hf : told [("worth", .own (intsV (worth (inB' bar ord) 4)))] T1 := ⟨H1.1, trivial⟩
    refine ev_lay Hf ?_
    kernel_rfl
  have E := E.trans (r_last (by rw [fou_len]; decide) s2)
  exact r_call (f := fouF) (by kernel_rfl) (by kernel_rfl) (by kernel_rfl) (by rw [hT]; exact E)

/-! the order gone through -/
noncomputable def laidL (P : Par) (n : Nat) : List Nat := (layN (inB' (barN P 16) P.ord) n).map (phi P.ord)
theorem laid_succ (P : Par) (n : Nat) : (if (laidL P n).any (fun b => (barN P 16).contains (phi P.ord n ^^^ b)) then laidL P n else laidL P n ++ [phi P.ord n]) = laidL P (n + 1) := by
  have e : layN (inB' (barN P 16) P.ord) (n + 1) = if (layN (inB' (barN P 16) P.ord) n).any (fun j => inB' (barN P 16) P.ord (n ^^^ j)) then layN (inB' (barN P 16) P.ord) n else layN (inB' (barN P 16) P.ord) n ++ [n] := rfl
  unfold laidL
  rw [e, List.any_map]
  have h : ((fun b => (barN P 16).contains (phi P.ord n ^^^ b)) ∘ phi P.ord) = fun j => inB' (barN P 16) P.ord (n ^^^ j) := by
    funext j
    show (barN P 16).contains (phi P.ord n ^^^ phi P.ord j) = (barN P 16).contains (phi P.ord (n ^^^ j))
    have hx : phi P.ord (n ^^^ j) = phi P.ord n ^^^ phi P.ord j := phi_xor _ _ _ _ n j
    rw [hx]
  rw [h]
  split <;> simp
theorem layN_len (B : Nat → Bool) : ∀ n, (layN B n).length ≤ n
  | 0 => by simp [layN]
  | n + 1 => by
    have := layN_len B n
    show (if (layN B n).any (fun j => B (n ^^^ j)) then layN B n else layN B n ++ [n]).length ≤ n + 1
    split
    · omega
    · rw [List.length_append]
      show _ + 1 ≤ n + 1
      omega
theorem greedy_loop (C) (hC : C = callF 5) (P : Par) : ∀ (r n : Nat) (T : Sg), n + r = 16 → told (Q29 P (intsV (laidL P n))) T →
    ∃ σ, forL (fun v σ => (put (WX C) "number" v σ).bind fun σ' => exs (WX C) 268 GB σ') ((List.range' n r).map fun j : Nat => V.int j) T = some (.next, σ) ∧ told (Q29 P (intsV (laidL P 16))) σ
  | 0, n, T, hn, H => by
    have : n = 16 := by omega
    subst this
    exact ⟨T, rfl, H⟩
  | r + 1, n, T, hn, H => by
    obtain ⟨σ1, h1, H1⟩ := greedy_turn C hC P (laidL P n) (by unfold laidL; rw [List.length_map]; have := layN_len (inB' (barN P 16) P.ord) n; omega) n (by omega) T H
    rw [laid_succ] at H1
    obtain ⟨σ2, h2, H2⟩ := greedy_loop C hC P r (n + 1) σ1 (by omega) H1
    refine ⟨σ2, ?_, H2⟩
    rw [List.range'_succ, List.map_cons]
    unfold forL
    rw [put_ok (by kernel_rfl) (kk (by kernel_rfl)) rfl, Option.bind_some, h1]
    exact h2
noncomputable def compE : Expr := eR (sVal (lawS 32))
theorem law_f (C) (hC : C = callF 5) (P : Par) (T : Sg) (H : told (Q29 P []) T) : ∃ σ, exs (WX C) 270 (lawF.body.drop 30) T = some (.ret (.bool true), σ) := by
  have gi : ∀ (as : List V) (b : Int), guardOwn as (some (.int b)) = some (.int b) := fun as b => rfl
  obtain ⟨T1, h1, H1⟩ := greedy_loop C hC P 16 0 T (by omega) H
  have hit : ev (WX C) 268 (sIter (lawS 30)) T = some (.rng 0 (16 : Nat) 1) := by kernel_rfl
  have s30 := r_for (X := WX C) (n := 268) (s := lawS 30) (σ := T) "number" (by kernel_rfl) (by kernel_rfl) (kk (by kernel_rfl)) hit (items_range 16) (by simp [big]) rfl
  have E := r_go (X := WX C) (i := 30) (b := lawF.body) (by rw [law_len]; decide) (s30.trans h1)
  obtain ⟨a, b, c, d, e4, F⟩ := four_of (inB' (barN P 16) P.ord)
  have s31 : ex (WX C) 268 (lawS 31) T1 = some (.next, upd T1 "worth" (.lst (intsV [a, b, c, d]))) := by
    refine r_asn "worth" (by kernel_rfl) (by kernel_rfl) (kk (by kernel_rfl)) ?_ rfl
    refine ev_lay H1 ?_
    have h : ev (WX C) 267 (sVal (lawS 31)) (lay (Q29 P (intsV (laidL P 16))) T1) = guardOwn [.own (intsV (barN P 16)), .lst (intsV P.ord)] (C "_law_four_numbers" [.own (intsV (barN P 16)), .lst (intsV P.ord)]) := by kernel_rfl
    rw [h, hC, c_four 3 (barN P 16) P.ord (Nat.le_refl 4), e4]
    rfl
  have E := E.trans (r_go (i := 31) (by rw [law_len]; decide) s31)
  have H2 : told (("worth", .lst (intsV [a, b, c, d])) :: Q29 P (intsV (laidL P 16))) (upd T1 "worth" (.lst (intsV [a, b, c, d]))) := told_put "worth" _ H1 (by kernel_rfl)
  generalize upd T1 "worth" (.lst (intsV [a, b, c, d])) = T2 at E H2
  have hl : laidL P 16 = ((List.range 16).filter fun k => phi [a, b, c, d] k == 0).map (phi P.ord) := by
    unfold laidL
    rw [lexi F 16 (Nat.le_refl _)]
  have hcomp : ev (WX C) 265 compE T2 = some (.lst (intsV (laidL P 16))) := by
    rw [hl]
    have e := r_comp (X := WX C) (n := 264) (e := compE) (σ := T2) (v := .rng 0 (16 : Nat) 1) (ys := ((List.range 16).filter fun k => phi [a, b, c, d] k == 0).map fun k => V.int (phi P.ord k : Nat)) "number" (by kernel_rfl) (by kernel_rfl) (by kernel_rfl) (items_range 16) (by simp [big]) ?_
    · unfold intsV
      rw [List.map_map]
      exact e
    · rw [← List.range_eq_range', ← lay_same H2]
      exact compL_all (test := fun v => tsts (compCx (WX C) (cSc compE)) 264 (cIfs compE) (compSg (lay (("worth", .lst (intsV [a, b, c, d])) :: Q29 P (intsV (laidL P 16))) T2) "number" (cSc compE) v))
        (elt := fun v => ev (compCx (WX C) (cSc compE)) 264 (cElt compE) (compSg (lay (("worth", .lst (intsV [a, b, c, d])) :: Q29 P (intsV (laidL P 16))) T2) "number" (cSc compE) v))
        (fun k : Nat => V.int k) (fun k => phi [a, b, c, d] k == 0) (fun k => V.int (phi P.ord k : Nat)) (List.range 16) (fun k hk => by
          have hk := List.mem_range.1 hk
          refine ⟨rfl, ?_, fun _ => ⟨?_, rfl⟩⟩
          · have h : tsts (compCx (WX C) (cSc compE)) 264 (cIfs compE) (compSg (lay (("worth", .lst (intsV [a, b, c, d])) :: Q29 P (intsV (laidL P 16))) T2) "number" (cSc compE) (.int k)) =
              (((guardOwn [.int k, .lst (intsV [a, b, c, d])] (C "_law_sum" [.int k, .lst (intsV [a, b, c, d])])).bind fun a => cmp .Eq a (.int 0)).bind truth).bind fun t => if t then some true else some false := by kernel_rfl
            rw [h, hC, c_sumN 4 k [a, b, c, d] hk (Nat.le_refl 4), gi]
            show (some ((phi [a, b, c, d] k : Int) == 0)).bind (fun t => if t then some true else some false) = _
            have hz : ((phi [a, b, c, d] k : Int) == 0) = (phi [a, b, c, d] k == 0) := by
              rw [Bool.eq_iff_iff, beq_iff_eq, beq_iff_eq]; omega
            rw [hz]
            cases (phi [a, b, c, d] k == 0) <;> rfl
          · have h : ev (compCx (WX C) (cSc compE)) 264 (cElt compE) (compSg (lay (("worth", .lst (intsV [a, b, c, d])) :: Q29 P (intsV (laidL P 16))) T2) "number" (cSc compE) (.int k)) = guardOwn [.int k, .lst (intsV P.ord)] (C "_law_sum" [.int k, .lst (intsV P.ord)]) := by kernel_rfl
            rw [h, hC, c_sumN 4 k P.ord hk (Nat.le_refl 4), gi])
  have s32 : ex (WX C) 267 (lawS 32) T2 = some (.ret (.bool true), T2) := by
    refine r_ret (by kernel_rfl) ?_
    have h : ev (WX C) 266 (sVal (lawS 32)) T2 = (ev (WX C) 265 (eL (sVal (lawS 32))) T2).bind fun a => (ev (WX C) 265 compE T2).bind fun b => cmp .Eq a b := by kernel_rfl
    have hL : ev (WX C) 265 (eL (sVal (lawS 32))) T2 = some (.own (intsV (laidL P 16))) := by
      refine ev_lay H2 ?_
      kernel_rfl
    rw [h, hL, hcomp]
    simp only [Option.bind_some]
    generalize laidL P 16 = L
    have e : cmp .Eq (.own (intsV L)) (.lst (intsV L)) = (eqL (intsV L) (intsV L)).map .bool := rfl
    have e2 : eqL (intsV L) (intsV L) = some true := by
      unfold eqL
      rw [intsV_eq, intL_map]
      simp
    rw [e, e2]; rfl
  exact ⟨T2, E.trans (r_last (by rw [law_len]; decide) s32)⟩
end Mine
end
section
set_option maxRecDepth 20000
namespace Mine
open PySem

/-- the plain law -/
theorem plain (xs : List Int) (hl : xs.length ≤ 63) : callF 6 "law" [.lst (xs.map .int)] = some (.bool true) := by
  have hk : ∀ k, V.int (cellAt xs k) = V.int ((cellAt xs k).toNat : Nat) := fun k => by
    have h := (cellAt_range xs k).1
    congr 1
    omega
  have hc : callF 5 "_law_cells" [(V.lst (xs.map .int)).lend] = some (Par.cells ⟨(cellAt xs 0).toNat, (cellAt xs 1).toNat, (cellAt xs 2).toNat, (cellAt xs 3).toNat, (cellAt xs 4).toNat, (cellAt xs 5).toNat⟩) := by
    refine (cells_call 4 xs hl).trans ?_
    show some (V.lst [.int (cellAt xs 0), .int (cellAt xs 1), .int (cellAt xs 2), .int (cellAt xs 3), .int (cellAt xs 4), .int (cellAt xs 5)]) = _
    rw [hk 0, hk 1, hk 2, hk 3, hk 4, hk 5]
    rfl
  generalize (⟨(cellAt xs 0).toNat, (cellAt xs 1).toNat, (cellAt xs 2).toNat, (cellAt xs 3).toNat, (cellAt xs 4).toNat, (cellAt xs 5).toNat⟩ : Par) = P at hc
  obtain ⟨T6, E1, H6⟩ := law_a (callF 5) rfl P (.lst (xs.map .int)) hc rfl
  obtain ⟨T10, E2, H10⟩ := law_b1 (callF 5) rfl P T6 H6
  obtain ⟨T18, E3, H18⟩ := law_b2 (callF 5) rfl P T10 H10
  obtain ⟨T19, E4, H19⟩ := law_c (callF 5) rfl P T18 H18
  obtain ⟨T24, E5, H24⟩ := law_d (callF 5) rfl P T19 H19
  obtain ⟨T29, E6, H29⟩ := law_e (callF 5) rfl P T24 _ _ _ H24
  obtain ⟨T30, E7⟩ := law_f (callF 5) rfl P T29 H29
  exact r_call (f := lawF) (by kernel_rfl) find_law (by kernel_rfl) (E1.trans (E2.trans (E3.trans (E4.trans (E5.trans (E6.trans E7))))))
end Mine
end
section
namespace Mine
open PySem PySem.Calls PyProof.Rows PySem.W

variable {W : World'} {mg mb : Str → Option Value}

noncomputable def okIn (ok : Addr → Prop) (as : List V) (s : Shared) (b : Addr) : Prop := s.heap.get? b = none ∨ ((as.all fun a => !a.isOwn) = true → ok b)
noncomputable abbrev inCall (W : World') (mg mb : Str → Option Value) (n : Nat) (d : DefRec) (A : Around) (s : Shared) (env : Env) : Fx := ⟨W, mg, mb, cxOf (fdOf d) (callF n), n, env, A.deeper env, s⟩

theorem start_rep {h : Heap} {ok ow ok' : Addr → Prop} (hi : ∀ b, (∃ o, h.get? b = some o) → ok b → ok' b) (hi' : ∀ b, ok' b ∨ True) : ∀ {vs : List Value} {as : List V} {ps : List Str} {x : Str} {a : V}, Reps W h ok ow vs as → ((as.all fun a => !a.isOwn) = true ∨ ∀ b, (∃ o, h.get? b = some o) → ok' b) → (ps.zip (as.map V.lend)).lookup x = some a → ∃ v, (ps.zip vs).lookup x = some v ∧ Rep W h ok' (fun _ => False) v a ∧ a.isOwn = false
  | _, _, [], x, a, _, _, e => by simp at e
  | _, _, p :: ps, x, a, .nil, _, e => by simp at e
  | v :: vs, b :: as, p :: ps, x, a, .cons r rs, hc, e => by
    rw [List.map_cons, List.zip_cons_cons, List.lookup_cons] at e
    rw [List.zip_cons_cons, List.lookup_cons]
    have lend_own : ∀ c : V, c.lend.isOwn = false := fun c => by cases c <;> rfl
    cases hx : x == p with
    | true =>
      rw [hx] at e
      cases e
      refine ⟨v, rfl, ?_, lend_own b⟩
      rcases hc with hc | hc
      · simp only [List.all_cons, Bool.and_eq_true, Bool.not_eq_true'] at hc
        rw [lend_of hc.1]
        exact r.on (fun _ _ _ e => e) hi hc.1
      · cases hb : b.isOwn with
        | false => rw [lend_of hb]; exact r.on (fun _ _ _ e => e) (fun b x _ => hc b x) hb
        | true =>
          cases b <;> try cases hb
          cases r
          rename_i l w rr
          exact .lst (Heap.PlainList.isList l) (hc _ (let ⟨n, e⟩ := l; ⟨_, e⟩)) (rr.on (fun _ _ _ e => e) fun b x _ => hc b x)
    | false =>
      rw [hx] at e
      refine start_rep hi hi' rs ?_ e
      rcases hc with hc | hc
      · simp only [List.all_cons, Bool.and_eq_true] at hc
        exact .inl hc.2
      · exact .inr hc

theorem enter (hg : ∀ x a, gl x = some a → ∃ v, (mg x = some v ∨ (mg x = none ∧ mb x = some v)) ∧ ∀ h ok ow, Rep W h ok ow v a) {n : Nat} (hc : COk W mg mb (callF n) n) {name : Str} {a : Addr} {d : DefRec} {as : List V} {vs : List Value} {A : Around} {s : Shared} {ok ow : Addr → Prop} (hr : recOf name = some d)
    (hA : Good (n + 1) A) (st : Stt W mg mb s) (fr : Fresh ok s.heap) (r : Reps W s.heap ok ow vs as) (hfa : W.fa name = some a) (hl : (fdOf d).params.length = as.length) {E : Value → Shared → Prop} {Q : Value → Shared → Prop}
    (h : ∀ env s₁ val E', (inCall W mg mb n d A s env).I (okIn ok as s) (fun _ => False) val (start (fdOf d).params as) s₁ →
      wpAny (model W.prog W.w) (A.deeper env) (execs d.body env) (fun f s' => Q (match f with | .ret v => v | _ => .none) s') E' s₁) : wpAny (model W.prog W.w) A (call (.ref a) vs) Q E s := by
  obtain ⟨o, pm, code, doc, d', ho, hdat, hcd, hr'⟩ := st.fns name a hfa
  rw [hr] at hr'; cases hr'
  have ok1 := defOk_is hr
  have hlen := r.len
  refine PySem.wpAny_call ?_
  have hkind : ∀ x ∈ (fdOf d).params.zip vs, d.scope.names.lookup x.1 = some .local ∨ (d.scope.names.lookup x.1 = some .cell ∧ ((cellsFrom (s.heap.objs.size + 1) d.scope.names []).lookup x.1).isSome = true) := by
    rintro ⟨x, v⟩ hx
    have hm : x ∈ (fdOf d).params := (List.of_mem_zip hx).1
    rcases ok1.pk x hm with h | h
    · exact .inl h
    · exact .inr ⟨h, cellsFrom_some (.inr (lookup_mem h))⟩
  refine codeAny_call_function (by have := hA.depth; show A.depth < 1000; omega) ho hdat ok1.co ok1.gen rfl hcd ?_
  rw [bind_any ok1.args pm (.ref code) doc (by rw [hl, hlen])]
  refine wpAny_pure ?_
  refine wpAny_mono (wpAny_toks_of (n := s.toks) (Nat.le_refl _) (wpAny_newFunctionEnv_cells (Q := fun env s' => env = callEnvC (d.data pm (.ref code) doc) s.heap.objs.size a ∧ InCallC s env.locals (bindL env.kindOf ((fdOf d).params.zip vs) fun _ => none) env.cells (bindC env.kindOf ((fdOf d).params.zip vs) fun _ => none) s') ok1.kind hkind fun env he s' x => ⟨he, x⟩)) (fun env s₁ hh => ?_) fun _ _ x => x.2
  obtain ⟨htk, he, x⟩ := hh
  refine ⟨st.lim.keeps x.toInCall.keep, codeAny_func ?_⟩
  refine h env s₁ (fun y => (((fdOf d).params.zip vs).lookup y).getD .none) _ ?_
  subst he
  have hbn : (((fdOf d).params.zip vs).map (·.1)).Nodup := by
    rw [List.map_fst_zip (by rw [hl, hlen]; exact Nat.le_refl _)]
    exact ok1.nodup
  obtain ⟨h₁, t₁, hs₁⟩ := x.toInCall.same
  have kx : Kx s s₁ := ⟨⟨h₁, t₁, hs₁, by rw [hs₁] at x; exact x.toInCall.keep⟩, htk⟩
  have hloc : s.heap.get? (callEnvC (d.data pm (.ref code) doc) s.heap.objs.size a).locals = none := none_size _
  have hcel : ∀ y c, (callEnvC (d.data pm (.ref code) doc) s.heap.objs.size a).cells.lookup y = some c → s.heap.get? c = none := fun y c hy => by
    have h1 := x.above y c (mem_of_lookup hy)
    cases e : s.heap.get? c with
    | none => rfl
    | some o' => exact absurd (Heap.lt_size e) (Nat.not_lt.mpr (Nat.le_of_lt h1))
  have hrep : ∀ y b, start (fdOf d).params as y = some b → ∃ v, ((fdOf d).params.zip vs).lookup y = some v ∧ Rep W s.heap (okOf (callEnvC (d.data pm (.ref code) doc) s.heap.objs.size a) (okIn ok as s) fun _ => False) (fun _ => False) v b ∧ b.isOwn = false := fun y b e => by
    have nochg : ∀ b, (∃ o, s.heap.get? b = some o) → ¬ chg (callEnvC (d.data pm (.ref code) doc) s.heap.objs.size a) (fun _ => False) b := by
      rintro b ⟨o, e⟩ (q | ⟨z, q⟩ | q)
      · rw [q, hloc] at e; cases e
      · rw [hcel z b q] at e; cases e
      · exact q
    refine start_rep (ok := ok) (fun b hb ho => ⟨.inr fun _ => ho, nochg b hb⟩) (fun _ => .inr trivial) r ?_ e
    by_cases hall : (as.all fun a => !a.isOwn) = true
    · exact .inl hall
    · exact .inr fun b hb => ⟨.inr fun q => absurd q hall, nochg b hb⟩
  have hpar : ∀ y b, start (fdOf d).params as y = some b → y ∈ (fdOf d).params := fun y b e => (List.of_mem_zip (mem_of_lookup e)).1
  exact {
    good := ⟨hA.handled, by have := hA.depth; show A.depth + 1 + n + 2 ≤ 990; omega, by have := hA.units; show A.units + 3 + 4 * n + 100 ≤ 9000; omega⟩
    en := ⟨ok1.kind, fun _ => rfl, rfl, rfl, fun y hy => Option.isSome_iff_exists.mp (cellsFrom_some (.inr (lookup_mem hy)))⟩
    g := hg
    c := hc
    st₀ := st
    kx := kx
    fr := fun b hb => .inl (none_kp kx.kp hb)
    frs := fun b hb => by
      rcases hb with q | ⟨z, q⟩ | q
      · rw [q]; exact hloc
      · exact hcel z b q
      · exact q.elim
    loc := ⟨_, x.toInCall.ns, fun y b e hk => by
      obtain ⟨v, hv, _⟩ := hrep y b e
      rw [hv]
      exact bindL_at hk hbn hv⟩
    cel := fun y c hy => ⟨_, x.cell y c hy⟩
    cval := fun y b c e hk hy => by
      obtain ⟨v, hv, _⟩ := hrep y b e
      have := x.cell y c hy
      have hb : bindC (callEnvC (d.data pm (.ref code) doc) s.heap.objs.size a).kindOf ((fdOf d).params.zip vs) (fun _ => none) y = some v := bindC_at hk hbn hv
      rw [hb] at this
      rw [hv]; exact this
    kd := fun y b e => ok1.pk y (hpar y b e)
    rep := fun y b e => by
      obtain ⟨v, hv, rv, _⟩ := hrep y b e
      rw [hv]; exact rv.up kx.kp
    lst := fun b hb => hb.elim
    inj := fun y z c hy hz => name_of_addr x.apart (mem_of_lookup hy) (mem_of_lookup hz)
    apart := fun y z ys zs e _ _ => by
      obtain ⟨v, _, _, q⟩ := hrep y _ e
      cases q }
end Mine
end
section
namespace Mine
open PySem PySem.Calls PyProof.Rows PySem.W

variable {W : World'} {mg mb : Str → Option Value}

/-- what comes back, for the caller -/
theorem back_rep {F : Fx} {ok ow oa' : Addr → Prop} {as : List V} {s s' : Shared} {σ : Sg} {val : Str → Value} {v : Value} {r : V} (fr : Fresh ok s.heap) (i : F.I (okIn ok as s) oa' val σ s') (hs : F.s₀ = s) (rr : Rep F.W s'.heap (okOf F.env (okIn ok as s) oa') oa' v r)
    (hc : flatRes r = true ∨ (as.all fun a => !a.isOwn) = true) : Rep F.W s'.heap ok ow v r.lend := by
  have oaok : ∀ b, oa' b → ok b := fun b hb => fr b (by rw [← hs]; exact i.frs b (.inr (.inr hb)))
  rcases hc with hc | hc
  · cases r <;> first | exact rr.flat hc | skip
    all_goals first | (cases hc; done) | skip
    cases rr
    rename_i l w rr
    exact .lst (Heap.PlainList.isList l) (oaok _ w) (rr.flat hc)
  · have im : ∀ b, okOf F.env (okIn ok as s) oa' b → ok b := fun b hb => hb.1.elim (fun e => fr b e) fun h => h hc
    cases hr : r.isOwn with
    | false => rw [lend_of hr]; exact rr.on (fun _ _ _ e => e) (fun b _ hb => im b hb) hr
    | true =>
      cases r <;> try cases hr
      cases rr
      rename_i l w rr
      exact .lst (Heap.PlainList.isList l) (oaok _ w) (rr.on (fun _ _ _ e => e) fun b _ hb => im b hb)

theorem body_ok {n : Nat} {d : DefRec} {A : Around} {s s₁ : Shared} {env : Env} {ok ow : Addr → Prop} {as : List V} {val : Str → Value} {r : V} (fr : Fresh ok s.heap)
    (i : (inCall W mg mb n d A s env).I (okIn ok as s) (fun _ => False) val (start (fdOf d).params as) s₁) (hd : done (exs (cxOf (fdOf d) (callF n)) 300 d.body (start (fdOf d).params as)) = some r)
    {E : Value → Shared → Prop} {Q : Value → Shared → Prop} (hq : ∀ v s', Kx s s' → ((flatRes r = true ∨ (as.all fun a => !a.isOwn) = true) → Rep W s'.heap ok ow v r.lend) → Q v s') :
    wpAny (model W.prog W.w) (A.deeper env) (execs d.body env) (fun f s' => Q (match f with | .ret v => v | _ => .none) s') E s₁ := by
  cases he : exs (cxOf (fdOf d) (callF n)) 300 d.body (start (fdOf d).params as) with
  | none => rw [he] at hd; cases hd
  | some p =>
    rw [he] at hd
    refine (sx 300).exs i he _ _ fun f s' o => ?_
    obtain ⟨oa', val', i', t', hf⟩ := o.ex
    obtain ⟨fl, σ'⟩ := p
    cases fl with
    | next =>
      cases hd
      cases hf
      exact hq _ _ i'.kx fun _ => .nil
    | ret u =>
      cases hd
      obtain ⟨v, rfl, rr⟩ := hf
      exact hq _ _ i'.kx fun hc => back_rep fr i' rfl rr hc

theorem call_zero : COk W mg mb (callF 0) 0 := fun n as r h => nomatch h
theorem call_plain (hg : ∀ x a, gl x = some a → ∃ v, (mg x = some v ∨ (mg x = none ∧ mb x = some v)) ∧ ∀ h ok ow, Rep W h ok ow v a) {n : Nat} (hc : COk W mg mb (callF n) n) {name : Str} {as : List V} {r : V} {d : DefRec} (hr : recOf name = some d) (hl : (fdOf d).params.length = as.length)
    (hd : done (exs (cxOf (fdOf d) (callF n)) 300 d.body (start (fdOf d).params as)) = some r) {vs : List Value} {a : Addr} {A : Around} {s : Shared} {ok ow : Addr → Prop} (hA : Good (n + 1) A) (st : Stt W mg mb s) (fr : Fresh ok s.heap) (rs : Reps W s.heap ok ow vs as) (hfa : W.fa name = some a)
    {E : Value → Shared → Prop} {Q : Value → Shared → Prop} (hq : ∀ v s', Kx s s' → ((flatRes r = true ∨ (as.all fun a => !a.isOwn) = true) → Rep W s'.heap ok ow v r.lend) → Q v s') : wpAny (model W.prog W.w) A (call (.ref a) vs) Q E s :=
  enter hg hc hr hA st fr rs hfa hl fun env s₁ val E' i => body_ok fr i hd hq
end Mine
end
section
namespace Mine
open PySem PySem.Calls PyProof.Rows PySem.W

noncomputable def kd (d : DefRec) (x : Str) : Option NameKind := d.scope.names.lookup x
set_option genCtorIdx false in
set_option genSizeOf false in
set_option genInjectivity false in
structure P18 where
  p1 : Pos
  p2 : Pos
  p3 : Pos
  p4 : Pos
  p5 : Pos
  p6 : Pos
  p7 : Pos
  p8 : Pos
  p9 : Pos
  p10 : Pos
  p11 : Pos
  p12 : Pos
  p13 : Pos
  p14 : Pos
  p15 : Pos
  p16 : Pos
  p17 : Pos
  p18 : Pos
structure RecB1 (d : DefRec) (p : P18) : Prop where
  body : d.body = [.Return (some (.Compare (.Call (.Name "ord" p.p1) [.Name "code" p.p2] [] p.p3) [.In] [.Name "b1_set" p.p4] p.p5)) p.p6]
  h1 : kd d "ord" = some .globalImplicit
  h2 : kd d "code" = some .local
  h3 : kd d "b1_set" = some .globalImplicit
  h4 : (fdOf d).params = [("code" : Str)]
theorem rec_b1 {d : DefRec} (h : recOf "in_table_b1" = some d) : ∃ p, RecB1 d p := by
  have e : d = (recOf "in_table_b1").get rfl := by simp [h]
  subst e
  exact ⟨⟨_, _, _, _, _, _, ⟨0, 0, 0, 0⟩, ⟨0, 0, 0, 0⟩, ⟨0, 0, 0, 0⟩, ⟨0, 0, 0, 0⟩, ⟨0, 0, 0, 0⟩, ⟨0, 0, 0, 0⟩, ⟨0, 0, 0, 0⟩, ⟨0, 0, 0, 0⟩, ⟨0, 0, 0, 0⟩, ⟨0, 0, 0, 0⟩, ⟨0, 0, 0, 0⟩, ⟨0, 0, 0, 0⟩⟩, rfl, rfl, rfl, rfl, rfl⟩
structure RecB3 (d : DefRec) (p : P18) (k1 : Nat) : Prop where
  body : d.body =
    [.Assign [.Name "r" p.p1] (.Call (.Attribute (.Name "b3_exceptions" p.p2) "get" p.p3) [.Call (.Name "ord" p.p4) [.Name "code" p.p5] [] p.p6] [] p.p7) p.p8, .If (.Compare (.Name "r" p.p9) [.IsNot] [.Constant .none k1 p.p10] p.p11) [.Return (some (.Name "r" p.p12)) p.p13] [] p.p14, .Return (some (.Call (.Attribute (.Name "code" p.p15) "lower" p.p16) [] [] p.p17)) p.p18]
  h1 : kd d "ord" = some .globalImplicit
  h2 : kd d "code" = some .local
  h3 : kd d "b3_exceptions" = some .globalImplicit
  h4 : kd d "r" = some .local
  h5 : (fdOf d).params = [("code" : Str)]
  h6 : (owned (fdOf d).name).contains "r" = false
  h7 : (p.p3.endLine == p.p7.line) = true
  h8 : (p.p16.endLine == p.p17.line) = true
theorem rec_b3 {d : DefRec} (h : recOf "map_table_b3" = some d) : ∃ p k1, RecB3 d p k1 := by
  have e : d = (recOf "map_table_b3").get rfl := by simp [h]
  subst e
  exact ⟨⟨_, _, _, _, _, _, _, _, _, _, _, _, _, _, _, _, _, _⟩, _, rfl, rfl, rfl, rfl, rfl, rfl, rfl, rfl, rfl⟩

theorem glob_val {F : Fx} {okp oa : Addr → Prop} {val : Str → Value} {σ : Sg} {s : Shared} (i : F.I okp oa val σ s) {x : Str} {p : Pos} {v : Value} (hp : plainName x = true) (hk : F.X.K x = some .globalImplicit) (hm : F.mg x = some v) {E : Value → Shared → Prop} {Q : Value → Shared → Prop} (h : Q v s) : wpAny F.M F.A (eval (.Name x p) F.env) Q E s := by
  refine wpAny_Name ?_ (by simpa [plainName] using hp)
  have hx : F.env.kindOf x = some .globalImplicit := (i.en.kinds x).trans hk
  unfold loadName
  simp only [Env.blockKind, i.en.kind, hx, ScopeKind.isAnnotationScope, Bool.false_and, Bool.false_eq_true, if_false]
  exact loadGlobal_global (i.en.glob ▸ i.cc.st.g) hm h

theorem ev_ord {X : Cx} {σ : Sg} {p1 p2 p3 : Pos} {x : Str} {c : Nat} (h1 : X.K "ord" = some .globalImplicit) (h2 : X.G "ord" = some (.blt "ord")) (h3 : X.K "code" = some .local) (h4 : σ "code" = some (.str x)) (hc : x.cps.toList = [c]) :
    ev X 5 (.Call (.Name "ord" p1) [.Name "code" p2] [] p3) σ = some (.int c) := by
  have e1 : ev X 3 (.Name "code" p2) σ = some (.str x) := by
    have he : ev X 3 (.Name "code" p2) σ = if plainName "code" then (if X.K "code" = some .globalImplicit then X.G "code" else σ "code") else none := rfl
    rw [he, if_pos (by decide), h3, if_neg (by decide), h4]
  have e2 : evs X 4 [.Name "code" p2] σ = some [.str x] := by
    have he : evs X 4 [.Name "code" p2] σ = (ev X 3 (.Name "code" p2) σ).bind fun a => (evs X 3 [] σ).map (a :: ·) := rfl
    rw [he, e1]; rfl
  have he : ev X 5 (.Call (.Name "ord" p1) [.Name "code" p2] [] p3) σ = if plainName "ord" && !([Expr.Name "code" p2] : List Expr).isEmpty then (if X.K "ord" = some .globalImplicit then X.G "ord" else σ "ord").bind fun fv => (evs X 4 [.Name "code" p2] σ).bind fun as => app X fv as else none := rfl
  have hpl : (plainName "ord" && !([Expr.Name "code" p2] : List Expr).isEmpty) = true := rfl
  rw [he, if_pos hpl, if_pos h1, h2, e2]
  show blt "ord" [.str x] = _
  unfold blt viewL LV.blt
  simp [hc]

section
variable {W : World'} {mg mb : Str → Option Value}
theorem call_b1 (hg : ∀ x a, gl x = some a → ∃ v, (mg x = some v ∨ (mg x = none ∧ mb x = some v)) ∧ ∀ h ok ow, Rep W h ok ow v a) {n : Nat} (hc : COk W mg mb (callF n) n) {d : DefRec} (hr : recOf "in_table_b1" = some d) {x : Str} {c : Nat} (hx : x.cps.toList = [c])
    {vs : List Value} {a : Addr} {A : Around} {s : Shared} {ok ow : Addr → Prop} (hA : Good (n + 1) A) (st : Stt W mg mb s) (fr : Fresh ok s.heap) (rs : Reps W s.heap ok ow vs [.str x]) (hfa : W.fa "in_table_b1" = some a)
    {E : Value → Shared → Prop} {Q : Value → Shared → Prop} (hq : ∀ v s', Kx s s' → Rep W s'.heap ok ow v (.bool (b1.contains c)) → Q v s') : wpAny (model W.prog W.w) A (call (.ref a) vs) Q E s := by
  obtain ⟨p, hb, h1, h2, h3, h4⟩ := rec_b1 hr
  refine enter hg hc hr hA st fr rs hfa (by rw [h4]; rfl) fun env s₁ val E' i => ?_
  rw [hb]
  have hσ : start (fdOf d).params [.str x] "code" = some (.str x) := by rw [h4]; rfl
  refine wpAny_execs_cons (wpAny_Return_some (wpAny_Compare1 (hm := rfl) (use_ev i (ev_ord h1 rfl h2 hσ hx) fun v s₂ k₂ i₂ r₂ => glob_val i₂ rfl h3 st.gb1 ?_)))
  obtain ⟨t, rfl⟩ := rInt r₂
  obtain ⟨S, k, hS, hSc⟩ := i₂.cc.st.b1
  refine wpAny_inSet_of (k := (c : Int)) (by simp [intKind, Value.isInt]) rfl hS ?_
  rw [hSc]
  exact hq _ _ (i₂.kx.trans ⟨kTok, Nat.le_succ _⟩) (.bool _)
end
end Mine
end
section
namespace Mine
open PySem PySem.Calls PyProof.Rows PySem.W

theorem ev_loc {X : Cx} {σ : Sg} {n : Nat} {x : Str} {p : Pos} {a : V} (hp : plainName x = true) (h3 : X.K x = some .local) (h4 : σ x = some a) : ev X (n + 1) (.Name x p) σ = some a := by
  have he : ev X (n + 1) (.Name x p) σ = if plainName x then (if X.K x = some .globalImplicit then X.G x else σ x) else none := rfl
  rw [he, if_pos hp, h3, if_neg (by decide), h4]
theorem tst_some {X : Cx} {σ : Sg} {n : Nat} {x : Str} {p q r : Pos} {k : Nat} {a : V} {t : Bool} (hp : plainName x = true) (h3 : X.K x = some .local) (h4 : σ x = some a) (hc : cmp .IsNot a .nil = some (.bool t)) :
    tst X (n + 3) (.Compare (.Name x p) [.IsNot] [.Constant .none k q] r) σ = some t := by
  have he : tst X (n + 3) (.Compare (.Name x p) [.IsNot] [.Constant .none k q] r) σ = (ev X (n + 2) (.Compare (.Name x p) [.IsNot] [.Constant .none k q] r) σ).bind truth := rfl
  have he' : ev X (n + 2) (.Compare (.Name x p) [.IsNot] [.Constant .none k q] r) σ = if behindInMarks .IsNot (.Constant .none k q) then none else (ev X (n + 1) (.Name x p) σ).bind fun a => (ev X (n + 1) (.Constant .none k q) σ).bind fun b => cmp .IsNot a b := rfl
  have hm : behindInMarks .IsNot (.Constant .none k q) = false := rfl
  have hn : ev X (n + 1) (.Constant .none k q) σ = some .nil := rfl
  rw [he, he', hm, if_neg (by decide), ev_loc hp h3 h4, hn]
  show (cmp .IsNot a .nil).bind truth = some t
  rw [hc]; rfl
theorem ev_lower {X : Cx} {σ : Sg} {n : Nat} {x : Str} {p q r : Pos} {y : Str} (hp : plainName x = true) (h3 : X.K x = some .local) (h4 : σ x = some (.str y)) (hl : (q.endLine == r.line) = true) (hb : (Txt.lower y).length ≤ big) :
    ev X (n + 2) (.Call (.Attribute (.Name x p) "lower" q) [] [] r) σ = some (.str (Txt.lower y)) := by
  have he : ev X (n + 2) (.Call (.Attribute (.Name x p) "lower" q) [] [] r) σ = if (q.endLine == r.line && baseOk (.Name x p)) && decide (([] : List Expr).length ≤ 1) then (ev X (n + 1) (.Name x p) σ).bind fun ov => (evs X (n + 1) [] σ).bind fun as => meth "lower" ov as else none := rfl
  have hn : evs X (n + 1) [] σ = some [] := rfl
  rw [he, hl, if_pos (by rfl), ev_loc hp h3 h4, hn]
  show meth "lower" (.str y) [] = _
  unfold meth
  simp [hb]

section
variable {W : World'} {mg mb : Str → Option Value}
theorem call_b3 (hg : ∀ x a, gl x = some a → ∃ v, (mg x = some v ∨ (mg x = none ∧ mb x = some v)) ∧ ∀ h ok ow, Rep W h ok ow v a) {n : Nat} (hc : COk W mg mb (callF n) n) {d : DefRec} (hr : recOf "map_table_b3" = some d) {x y : Str} {c : Nat} (hx : x.cps.toList = [c])
    (hy : (match b3.lookup (c : Int) with | some s => some (.str s) | none => if (Txt.lower x).length ≤ big then some (V.str (Txt.lower x)) else none) = some (.str y))
    {vs : List Value} {a : Addr} {A : Around} {s : Shared} {ok ow : Addr → Prop} (hA : Good (n + 1) A) (st : Stt W mg mb s) (fr : Fresh ok s.heap) (rs : Reps W s.heap ok ow vs [.str x]) (hfa : W.fa "map_table_b3" = some a)
    {E : Value → Shared → Prop} {Q : Value → Shared → Prop} (hq : ∀ v s', Kx s s' → Rep W s'.heap ok ow v (.str y) → Q v s') : wpAny (model W.prog W.w) A (call (.ref a) vs) Q E s := by
  obtain ⟨P, k1, hb, h1, h2, h3, h4, h5, h6, h7, h8⟩ := rec_b3 hr
  refine enter hg hc hr hA st fr rs hfa (by rw [h5]; rfl) fun env s₁ val E' i => ?_
  rw [hb]
  have hσ : start (fdOf d).params [.str x] "code" = some (.str x) := by rw [h5]; rfl
  have hne : ("code" : Str) ≠ "r" := by decide
  -- what comes once r is stored
  have fin : ∀ {a : V} {t : Bool} {s₂ : Shared} {val₂ : Str → Value}, (inCall W mg mb n d A s env).I (okIn ok [.str x] s) (fun _ => False) val₂ (upd (start (fdOf d).params [.str x]) "r" a) s₂ → cmp .IsNot a .nil = some (.bool t) → (if t = true then a = .str y else y = Txt.lower x ∧ (Txt.lower x).length ≤ big) →
      wpAny (model W.prog W.w) (A.deeper env) (execs [.If (.Compare (.Name "r" P.p9) [.IsNot] [.Constant .none k1 P.p10] P.p11) [.Return (some (.Name "r" P.p12)) P.p13] [] P.p14, .Return (some (.Call (.Attribute (.Name "code" P.p15) "lower" P.p16) [] [] P.p17)) P.p18] env) (fun f s' => Q (match f with | .ret v => v | _ => .none) s') E' s₂ := by
    intro a t s₂ val₂ i₂ hcmp hres
    have hr' : upd (start (fdOf d).params [.str x]) "r" a "r" = some a := upd_self
    have ht := tst_some (n := 3) (p := P.p9) (q := P.p10) (r := P.p11) (k := k1) (X := cxOf (fdOf d) (callF n)) (by decide) h4 hr' hcmp
    refine wpAny_execs_cons (wpAny_If ((sd 6).tst i₂.cc ht _ _ fun s₃ k₃ => ?_))
    have i₃ := i₂.up k₃
    cases t with
    | true =>
      simp only [if_true] at hres ⊢
      refine wpAny_execs_cons (wpAny_Return_some (use_ev i₃ (ev_loc (n := 3) (by decide) h4 hr') fun v s₄ k₄ i₄ r₄ => ?_))
      exact hq _ _ i₄.kx (hres ▸ r₄.flat (by rw [hres]; rfl))
    | false =>
      simp only [Bool.false_eq_true, if_false] at hres ⊢
      refine wpAny_execs_nil (wpAny_execs_cons (wpAny_Return_some (use_ev i₃ (ev_lower (n := 3) (by decide) h2 ((upd_ne hne).trans hσ) h8 hres.2) fun v s₄ k₄ i₄ r₄ => ?_)))
      exact hq _ _ i₄.kx (hres.1 ▸ r₄.flat rfl)
  have put_r : ∀ a : V, a.isOwn = false → put (cxOf (fdOf d) (callF n)) "r" a (start (fdOf d).params [.str x]) = some (upd (start (fdOf d).params [.str x]) "r" a) := fun a ha => by
    unfold put
    exact if_pos ⟨.inl h4, ha, h6⟩
  refine wpAny_execs_cons (wpAny_Assign_Name ?_ rfl)
  refine wpAny_Call_method (T := "dict") (id := "dict.get") (base_ok rfl) (few_ok rfl (by simp)) h7 PySem.F.plainAttrs_dict PySem.F.slot_dict_get PySem.F.type_dict_get (glob_val i rfl h3 st.gb3 ?_)
  obtain ⟨f₀, hm₀, _⟩ := i.cc.st.b3
  refine ⟨hm₀.typeIs, hm₀.noDict, ?_⟩
  rw [star_each rfl, back_each]
  refine wpAny_dict_get1 (knd := intKind W.prog W.w) st.b3s (use_ev i (ev_ord h1 rfl h2 hσ hx) fun v s₂ k₂ i₂ r₂ => ?_)
  obtain ⟨t, rfl⟩ := rInt r₂
  obtain ⟨f, hm, hf⟩ := i₂.cc.st.b3
  refine ⟨(c : Int), f, by simp [intKind, Value.isInt], hm, ?_⟩
  obtain ⟨hf1, hf2⟩ := hf c
  have kt : Kx s₂ { s₂ with toks := s₂.toks + 1 } := ⟨kTok, Nat.le_succ _⟩
  cases hlk : b3.lookup (c : Int) with
  | some z =>
    obtain ⟨u, hu⟩ := hf1 z hlk
    rw [hu]
    rw [hlk] at hy
    cases hy
    exact use_put (i₂.up kt) (put_r (.str y) rfl) (.str _ _) fun s₃ val₃ i₃ _ => fin i₃ rfl rfl
  | none =>
    rw [hf2 hlk]
    rw [hlk] at hy
    simp only at hy
    split at hy <;> cases hy
    rename_i hbig
    exact use_put (i₂.up kt) (put_r .nil rfl) .nil fun s₃ val₃ i₃ _ => fin i₃ rfl ⟨rfl, hbig⟩

theorem call_ok (hg : ∀ x a, gl x = some a → ∃ v, (mg x = some v ∨ (mg x = none ∧ mb x = some v)) ∧ ∀ h ok ow, Rep W h ok ow v a) : ∀ n, COk W mg mb (callF n) n
  | 0 => call_zero
  | n + 1 => by
    have ih := call_ok hg n
    intro name as r h vs a A s ok ow hA st fr rs hfa E Q hq
    obtain ⟨_, _, _, _, d, _, _, _, hr⟩ := st.fns name a hfa
    unfold callF at h
    split at h
    · rename_i r' hp
      unfold prim at hp
      split at hp
      · rename_i hn
        subst hn
        cases hp
        split at h <;> try (cases h; done)
        split at h <;> try (cases h; done)
        rename_i hx
        cases h
        exact call_b1 hg ih hr hx hA st fr rs hfa fun v s' k rr => hq v s' k fun _ => rr
      · split at hp <;> try (cases hp; done)
        rename_i hn
        subst hn
        cases hp
        split at h <;> try (cases h; done)
        split at h <;> try (cases h; done)
        rename_i hx
        have : ∃ y, r = .str y := by
          split at h
          · cases h; exact ⟨_, rfl⟩
          · split at h <;> cases h; exact ⟨_, rfl⟩
        obtain ⟨y, rfl⟩ := this
        exact call_b3 hg ih hr hx h hA st fr rs hfa fun v s' k rr => hq v s' k fun _ => rr
    · unfold findDef at h
      rw [hr] at h
      simp only [Option.map_some, Option.bind_some] at h
      split at h <;> try (cases h; done)
      rename_i hl
      exact call_plain hg ih hr hl h hA st fr rs hfa hq
end
end Mine
end
section
namespace Mine
open PySem PySem.Calls PyProof.Rows PySem.W

theorem runN_last {den : Code → Sem Fin} {p : Program} {w : World} {o : Outcome} {s' : Shared} : ∀ {n : Nat} {s : Shared} {t : Thread}, runN den p w n s t = .halted o s' → ∃ m s₁ t₁, runN den p w m s t = .running s₁ t₁ ∧ step den p w s₁ t₁ = .halt o s'
  | 0, s, t, h => by cases h
  | n + 1, s, t, h => by
    unfold runN at h
    cases hs : step den p w s t with
    | halt o₁ s₁ =>
      rw [hs] at h
      cases h
      exact ⟨0, s, t, rfl, hs⟩
    | go s₁ t₁ =>
      rw [hs] at h
      obtain ⟨m, s₂, t₂, h1, h2⟩ := runN_last h
      exact ⟨m + 1, s₂, t₂, by unfold runN; rw [hs]; exact h1, h2⟩
noncomputable def okStep : Step → Prop
  | .halt (.done _) _ => False
  | _ => True
theorem step_ok {den : Code → Sem Fin} {p : Program} {w : World} {s : Shared} {code : Code} {pos : Pos} {stack : List Frame} {cur : Sem Fin} (hn : ∀ f, cur ≠ .pure (.done f)) : okStep (step den p w s ⟨cur, code, pos, stack⟩) := by
  cases cur <;> first | exact trivial | skip
  all_goals first | (unfold step; dsimp only; (repeat' split) <;> (exact trivial; done)) | skip
  · rename_i x
    cases x with
    | again c => exact trivial
    | done f' => exact absurd rfl (hn f')
  · cases stack with
    | cons fr rest => cases fr <;> exact trivial
    | nil =>
      show okStep (finish _ _)
      unfold finish
      split <;> exact trivial
theorem step_done {den : Code → Sem Fin} {p : Program} {w : World} {s s' : Shared} {t : Thread} {f : Flow} (h : step den p w s t = .halt (.done f) s') : through t = true ∧ s' = s := by
  obtain ⟨cur, code, pos, stack⟩ := t
  by_cases hn : ∀ f, cur ≠ .pure (.done f)
  · have := step_ok (den := den) (p := p) (w := w) (s := s) (code := code) (pos := pos) (stack := stack) hn
    rw [h] at this
    exact this.elim
  · obtain ⟨f', hf⟩ := Classical.not_forall.mp hn
    have hf := Classical.not_not.mp hf
    subst hf
    cases stack with
    | cons fr rest => cases fr <;> cases h
    | nil =>
      have h : finish (.done f') s = .halt (.done f) s' := h
      unfold finish at h
      split at h
      · cases h
      · cases h; exact ⟨rfl, rfl⟩
theorem ends_through {p : Program} {w : World} {t : Sem Fin} {s : Shared} {P : Shared → Prop} (hreg : s.asleep)
    (h : wpAny (model p w) callerA t (fun fin s' => ∃ f, fin = .done f ∧ P s' ∧ leftWithCleanup s'.gens = false) (fun _ _ => False) s) :
    ∃ n s₁ t₁ s₂, schedN (denote table) p w n (.single s ⟨t, .builtin "claim.caller" {}, default, []⟩) = .running (.single s₁ t₁) ∧ through t₁ = true ∧ s₁.heap.life = s.heap.life ∧ s₁.forget = s₂.forget ∧ P s₂ := by
  have h' := wp_of_wpAny_done (R := fun r s' => (∃ f, r = .ok f ∧ P s') ∧ leftWithCleanup s'.gens = false) caller_in
    (wpAny_mono h (fun _ _ ⟨f, e, a, b⟩ => ⟨f, e, ⟨f, rfl, a⟩, b⟩) fun _ _ x => x.elim) default
  obtain ⟨n, r, s₂, hn, f, rfl, hP⟩ := (wp_iff_halts (M := model p w) (R := fun r s' => ∃ f, r = .ok f ∧ P s') ..).mp h'
  obtain ⟨s₁, hr, hf, hc⟩ := runNI_real _ _ _ hn (outcomeOf_ends (.ok f))
  have hr : runN (denote table) p w n s ⟨t, .builtin "claim.caller" {}, default, []⟩ = .halted (outcomeOf (.ok f)) s₁ := hr
  obtain ⟨m, s₃, t₃, h1, h2⟩ := runN_last hr
  obtain ⟨h3, rfl⟩ := step_done (f := f) h2
  have hne : ∀ k s₂, runN (denote table) p w k s ⟨t, .builtin "claim.caller" {}, default, []⟩ ≠ .halted (.unsupported "lifetime:generator-with-cleanup-left-suspended") s₂ := by
    intro k s₂ hk
    have a := runN_mono _ _ _ n k _ _ _ _ hr
    have b := runN_mono _ _ _ k n _ _ _ _ hk
    rw [Nat.add_comm, b] at a
    injection a with a1 _
    cases a1
  have hs := schedN_eq_runN (denote table) p w s ⟨t, .builtin "claim.caller" {}, default, []⟩ hreg ⟨hc, hne⟩ m
  rw [h1] at hs
  exact ⟨m, _, t₃, s₂, hs, h3, runN_life _ _ _ hr, hf, hP⟩
end Mine
end
section
namespace Mine
open PySem PySem.Calls PyProof.Rows PySem.W

section
variable {prog : Program} {w : World} {A : Around} {E : Value → Shared → Prop} {s : Shared}

inductive RD : List (Int × Value) → List (Int × Str) → Prop
  | nil : RD [] []
  | cons {k : Int} {x : Str} {t : Tok} {kvs kx} : RD kvs kx → RD ((k, .str x t) :: kvs) ((k, x) :: kx)
theorem RD.keys : ∀ {kvs kx}, RD kvs kx → kvs.map (·.1) = kx.map (·.1)
  | _, _, .nil => rfl
  | _, _, .cons r => by simp [r.keys]
theorem RD.len {kvs kx} (r : RD kvs kx) : kvs.length = kx.length := by
  have := congrArg List.length r.keys
  simpa using this
theorem RD.append {kvs kx kvs' kx'} (q : RD kvs kx) (s : RD kvs' kx') : RD (kvs ++ kvs') (kx ++ kx') := by
  induction q with
  | nil => exact s
  | cons _ ih => exact .cons ih
theorem stored_new {kvs : List (Int × Value)} {k : Int} {v : Value} (h : k ∉ kvs.map (·.1)) : stored kvs k v = kvs ++ [(k, v)] := by
  unfold stored
  rw [if_neg]
  rw [List.any_eq_true]
  rintro ⟨kv, hkv, he⟩
  exact h (List.mem_map.mpr ⟨kv, hkv, of_decide_eq_true he⟩)

structure PT (prog : Program) (w : World) (A : Around) (p : Sem Value × Sem Value) (e : Int × Str) : Prop where
  key : ∀ {s : Shared} {E : Value → Shared → Prop} {Q : Value → Shared → Prop}, (∀ t tk, Q (.int e.1 t) { s with toks := tk }) → wpAny (model prog w) A p.1 Q E s
  val : ∀ {s : Shared} {E : Value → Shared → Prop} {Q : Value → Shared → Prop}, (∀ t tk, Q (.str e.2 t) { s with toks := tk }) → wpAny (model prog w) A p.2 Q E s
inductive PTs (prog : Program) (w : World) (A : Around) : List (Sem Value × Sem Value) → List (Int × Str) → Prop
  | nil : PTs prog w A [] []
  | cons {p e ps es} : PT prog w A p e → PTs prog w A ps es → PTs prog w A (p :: ps) (e :: es)
theorem PTs.len {ps es} (q : PTs prog w A ps es) : ps.length = es.length := by
  induction q with
  | nil => rfl
  | cons _ _ ih => exact congrArg (· + 1) ih
theorem PTs.snoc {ps es p e} (q : PTs prog w A ps es) (h : PT prog w A p e) : PTs prog w A (ps ++ [p]) (es ++ [e]) := by
  induction q with
  | nil => exact .cons h .nil
  | cons a _ ih => exact .cons a ih
theorem is_int (k : Int) (t : Tok) : (intKind prog w).is k (.int k t) = true := by simp [intKind, Value.isInt]

/-- pairs stored one after the other -/
theorem long_loop {d : Addr} (f : Sem Value × Sem Value → PUnit → Sem (ForInStep PUnit)) (hf : ∀ k v u, f (k, v) u = (do let kv ← k; let vv ← holding [kv] v; holding [kv, vv] (dictSet d kv vv); pure (ForInStep.yield PUnit.unit))) :
    ∀ {run : List (Sem Value × Sem Value)} {rd : List (Int × Str)} {acc : List (Int × Value)} {s : Shared} {Q : PUnit → Shared → Prop}, PTs prog w A run rd → s.heap.DictOf (intKind prog w) d acc → (acc.map (·.1) ++ rd.map (·.1)).Nodup → acc.length + rd.length ≤ sizeLine →
      (∀ h' tk kvs, RD kvs rd → h'.DictOf (intKind prog w) d (acc ++ kvs) → Heap.SameBut d s.heap h' → Q PUnit.unit { s with heap := h', toks := tk }) → wpAny (model prog w) A (forIn run PUnit.unit f) Q E s
  | _, _, acc, s, Q, .nil, hd, hn, hl, h => by
    rw [List.forIn_nil]
    exact wpAny_pure (h s.heap s.toks [] .nil (by simpa using hd) (Heap.SameBut.refl _ _))
  | _, _, acc, s, Q, .cons (p := p) (e := e) (es := es) pt r, hd, hn, hl, h => by
    obtain ⟨k, v⟩ := p
    rw [List.forIn_cons, hf]
    have hk : e.1 ∉ acc.map (·.1) := fun hm => (List.nodup_append.mp hn).2.2 _ hm _ (by simp) rfl
    simp only [List.length_cons] at hl
    refine wpAny_bind (wpAny_bind (pt.key fun t tk => wpAny_bind (wpAny_holding (pt.val fun u tk' => wpAny_bind (wpAny_holding (wpAny_dictSet_pairs (hsz := by omega) (is_int e.1 t) hd fun h₁ hd₁ hs₁ => wpAny_pure ?_))))))
    rw [stored_new hk] at hd₁
    refine long_loop f hf r hd₁ (by simpa using hn) (by rw [List.length_append, List.length_singleton]; omega) fun h' tk kvs rk hd' hs' => ?_
    exact h h' tk ((e.1, .str e.2 u) :: kvs) (.cons rk) (by simpa using hd') (hs₁.trans hs')

theorem subDict_long {run : List (Sem Value × Sem Value)} {rd : List (Int × Str)} {Q : Addr → Shared → Prop} (hl : 15 < run.length) (hs : run.length ≤ 100) (p : PTs prog w A run rd) (hn : (rd.map (·.1)).Nodup)
    (h : ∀ h' tk kvs, RD kvs rd → h'.DictOf (intKind prog w) s.heap.objs.size kvs → (∀ b o, s.heap.get? b = some o → h'.get? b = some o) → Q s.heap.objs.size { s with heap := h', toks := tk }) : wpAny (model prog w) A (subDict run) Q E s := by
  have hlen := p.len
  unfold subDict
  refine wpAny_bind (wpAny_alloc (wpAny_bind (wpAny_holding ?_)))
  rw [if_neg (by omega)]
  refine wpAny_bind (wpAny_rule ?_)
  refine wpAny_bind (long_loop (d := s.heap.objs.size) (acc := []) _ (fun k v u => rfl) p (Heap.DictOf.new s.heap) (by simpa using hn) (by rw [sizeLine_is]; simp; omega) fun h' tk kvs r hd hsb => wpAny_pure ?_)
  exact wpAny_pure (h h' tk kvs r (by simpa using hd) fun b o e => hsb.extBut b o (Nat.ne_of_lt (Heap.lt_size e)) (Heap.get?_push_of_some _ e))
theorem pairs_all {run : List (Sem Value × Sem Value)} {rd : List (Int × Str)} : ∀ {s : Shared} {Q : List (Value × Value) → Shared → Prop}, PTs prog w A run rd → (∀ vs kvs tk, Carries (intKind prog w) vs kvs → RD kvs rd → Q vs { s with toks := tk }) → wpAny (model prog w) A (evalPairs run) Q E s := by
  intro s Q p
  induction p generalizing s Q with
  | nil => intro h; exact evalPairs_nil (h [] [] s.toks trivial .nil)
  | @cons p e ps es pt r ih =>
    intro h
    exact evalPairs_cons (pt.key fun t tk => pt.val fun u tk' => ih fun vs kvs tk'' c rk => h ((.int e.1 t, .str e.2 u) :: vs) ((e.1, .str e.2 u) :: kvs) tk'' ⟨is_int _ t, rfl, c⟩ (.cons rk))
theorem merged_new : ∀ {kvs acc : List (Int × Value)}, (acc.map (·.1) ++ kvs.map (·.1)).Nodup → merged acc kvs = acc ++ kvs
  | [], acc, _ => by simp [merged]
  | (k, v) :: kvs, acc, hn => by
    have hk : k ∉ acc.map (·.1) := fun hm => (List.nodup_append.mp hn).2.2 _ hm _ (by simp) rfl
    have : merged acc ((k, v) :: kvs) = merged (stored acc k v) kvs := by simp [merged]
    rw [this, stored_new hk, merged_new (by simpa using hn)]
    simp
theorem subDict_any {run : List (Sem Value × Sem Value)} {rd : List (Int × Str)} {Q : Addr → Shared → Prop} (hs : run.length ≤ 100) (p : PTs prog w A run rd) (hn : (rd.map (·.1)).Nodup)
    (h : ∀ h' tk kvs, RD kvs rd → h'.DictOf (intKind prog w) s.heap.objs.size kvs → (∀ b o, s.heap.get? b = some o → h'.get? b = some o) → Q s.heap.objs.size { s with heap := h', toks := tk }) : wpAny (model prog w) A (subDict run) Q E s := by
  by_cases hl : 15 < run.length
  · exact subDict_long hl hs p hn h
  · refine wpAny_subDict (knd := intKind prog w) (by omega) (pairs_all p fun vs kvs tk c r => ⟨kvs, c, Heap.DictOf.new s.heap, fun h' hd hsb => ?_⟩)
    rw [merged_new (by simpa using (by rw [r.keys]; exact hn))] at hd
    exact h h' _ kvs r (by simpa using hd) fun b o e => hsb.extBut b o (Nat.ne_of_lt (Heap.lt_size e)) (Heap.get?_push_of_some _ e)
end
end Mine
end
section
namespace Mine
open PySem PySem.Calls PyProof.Rows PySem.W

section
variable {prog : Program} {w : World} {A : Around} {E : Value → Shared → Prop} {s : Shared}

theorem dictPut_new {d : Addr} {kvs : List (Int × Value)} {k : Int} {key v : Value} {Q : Unit → Shared → Prop} (hkey : (intKind prog w).is k key = true) (hm : s.heap.DictOf (intKind prog w) d kvs) (hnot : k ∉ kvs.map (·.1)) (hsz : kvs.length ≤ sizeLine)
    (hQ : ∀ h', h'.DictOf (intKind prog w) d (kvs ++ [(k, v)]) → Heap.SameBut d s.heap h' → Q () { s with heap := h' }) : wpAny (model prog w) A (dictPut d ((intKind prog w).hash k) key v) Q E s := by
  obtain ⟨o, es, ep, ho, hc, hd, hk, hp, hn⟩ := hm
  have hes : es.size ≤ sizeLine := by
    have e1 := hp.length
    have e2 : es.toList.length = es.size := by simp
    omega
  unfold dictPut
  refine wpAny_bind (wpAny_dictFind_of hkey ho hd hk ?_)
  have hidx : (es.findIdx? fun e => (intKind prog w).is k e.key) = none := by
    have h1 : (es.toList.findIdx? fun e => (intKind prog w).is k e.key) = none := by
      rw [hp.findIdx k, List.findIdx?_eq_none_iff]
      intro kv hkv
      simp only [decide_eq_false_iff_not]
      exact fun e => hnot (List.mem_map.mpr ⟨kv, hkv, e⟩)
    rw [← h1]; obtain ⟨l⟩ := es; simp
  rw [hidx]
  refine wpAny_updateDictKeys (hz := hes) ho hd (hQ _ ⟨_, _, ep + 1, Heap.get?_update_self _ ho (Obj.isFreed_of_dict (Obj.data_mapDictKeys hd _)), hc.mapDictKeys _, Obj.data_mapDictKeys hd _, hk.push hkey _, ?_, ?_⟩ (Heap.SameBut.update ..))
  · have := hp.append hkey ((intKind prog w).hash k) v
    obtain ⟨l⟩ := es
    simpa using this
  · rw [List.map_append, List.nodup_append]
    refine ⟨hn, by simp, ?_⟩
    intro a ha b hb
    simp only [List.map_cons, List.map_nil, List.mem_singleton] at hb
    subst hb
    exact fun e => hnot (e ▸ ha)

theorem sub_step {n i : Nat} (h : i < n) : n - i = (n - (i + 1)) + 1 := (Nat.succ_pred_eq_of_pos (Nat.sub_pos_of_lt h)).symm
theorem merge_new {d o : Addr} {kvs more : List (Int × Value)} {Q : Unit → Shared → Prop} (hdo : d ≠ o) (hoS : (o == sysModules) = false) (hne : kvs ≠ []) (hd : s.heap.DictOf (intKind prog w) d kvs) (ho : s.heap.DictOf (intKind prog w) o more)
    (hn : (kvs.map (·.1) ++ more.map (·.1)).Nodup) (hsz : kvs.length + more.length ≤ sizeLine)
    (hQ : ∀ h', h'.DictOf (intKind prog w) d (kvs ++ more) → Heap.SameBut d s.heap h' → Q () { s with heap := h' }) : wpAny (model prog w) A (mergeMapping d (.ref o) false) Q E s := by
  obtain ⟨oo, eso, epo, hoo, hco, hdo', hko, hpo, hno⟩ := id ho
  have hlen : more.length = eso.size := by rw [← hpo.length]; simp
  unfold mergeMapping
  dsimp only
  refine wpAny_bind (wpAny_isInstance ho.typeIs isSubtype_dict_dict ?_)
  simp only [if_true]
  refine wpAny_bind (wpAny_specialOf ho.typeIs F.slot_dict_iter.lookup ?_)
  refine wpAny_bind (wpAny_pure ?_)
  rw [beq_self_eq_true]
  dsimp only
  rw [hoS]
  simp only [Bool.false_eq_true, if_false]
  obtain ⟨od, esd, epd, hod, hcd, hdd, hkd, hpd, hnd⟩ := id hd
  refine wpAny_bind (wpAny_dictEntries hod hdd ?_)
  have hemp : esd.isEmpty = false := by
    cases h : esd.isEmpty with
    | false => rfl
    | true =>
      have h0 : esd = #[] := Array.isEmpty_iff.mp h
      have := hpd.length
      rw [h0] at this
      exact absurd (List.length_eq_zero_iff.mp this.symm) hne
  rw [hemp]
  simp only [Bool.false_eq_true, if_false]
  refine wpAny_bind (wpAny_dictEntries hoo hdo' ?_)
  refine wpAny_bind (wpAny_dictEpoch hoo hdo' ?_)
  refine wpAny_bind ?_
  refine wpAny_forIn_list _
    (fun rest _ s' => ∃ h' i, s' = { s with heap := h' } ∧ rest = List.range' i (eso.size - i) ∧ i ≤ eso.size ∧ h'.DictOf (intKind prog w) d (kvs ++ more.take i) ∧ h'.get? o = some oo ∧ Heap.SameBut d s.heap h')
    _ ?_ ?_ _ _ ⟨s.heap, 0, rfl, by rw [List.range_eq_range']; simp, Nat.zero_le _, by simpa using hd, hoo, Heap.SameBut.refl _ _⟩
  · rintro x rest b s' ⟨h', i, rfl, hr, hi, hd', hoo', hs'⟩
    have hlt : i < eso.size := by
      rcases Nat.lt_or_ge i eso.size with h | h
      · exact h
      · rw [Nat.sub_eq_zero_of_le h] at hr; simp at hr
    obtain ⟨rfl, hrest⟩ : x = i ∧ rest = List.range' (i + 1) (eso.size - (i + 1)) := by
      have e : eso.size - i = (eso.size - (i + 1)) + 1 := sub_step hlt
      rw [e, List.range'_succ] at hr
      injection hr with h1 h2
      exact ⟨h1, h2⟩
    refine wpAny_bind (wpAny_dictEntries hoo' hdo' ?_)
    rw [Array.getElem?_eq_getElem hlt]
    obtain ⟨kv, hkv⟩ : ∃ kv, more[x]? = some kv := ⟨more[x]'(by rw [hlen]; exact hlt), List.getElem?_eq_getElem _⟩
    obtain ⟨k, v⟩ := kv
    obtain ⟨hkey, hval⟩ := hpo.get? (e := eso[x]) (by simp [hlt]) hkv
    obtain ⟨k', hkey', hhash⟩ := hko eso[x] (Array.getElem_mem hlt)
    obtain rfl : k' = k := (intKind prog w).inj _ _ _ hkey' hkey
    dsimp only
    rw [hhash, hval]
    have htk : more.take (x + 1) = more.take x ++ [(k', v)] := by rw [List.take_add_one, hkv]; rfl
    have hnk : k' ∉ (kvs ++ more.take x).map (·.1) := by
      have hn' : ((kvs ++ more.take (x + 1)).map (·.1)).Nodup := by
        have : (kvs ++ more).map (·.1) = kvs.map (·.1) ++ more.map (·.1) := List.map_append
        rw [← this] at hn
        refine List.Sublist.nodup (List.Sublist.map _ ?_) hn
        exact List.Sublist.append (List.Sublist.refl _) (List.take_sublist _ _)
      rw [htk, ← List.append_assoc, List.map_append, List.nodup_append] at hn'
      exact fun hm => hn'.2.2 _ hm k' (by simp) rfl
    have hmx : (kvs ++ more.take x).length ≤ sizeLine := by
      rw [List.length_append, List.length_take]; exact Nat.le_trans (Nat.add_le_add_left (Nat.min_le_right _ _) _) hsz
    refine wpAny_bind (wpAny_holding (dictPut_new hkey hd' hnk hmx fun h'' hd'' hs'' => ?_))
    have hoo'' : h''.get? o = some oo := (hs''.2 o (Ne.symm hdo)).trans hoo'
    refine wpAny_bind (wpAny_dictEpoch hoo'' hdo' ?_)
    rw [if_neg (by simp)]
    exact wpAny_pure ⟨h'', x + 1, rfl, hrest, hlt, by rw [htk, ← List.append_assoc]; exact hd'', hoo'', hs'.trans hs''⟩
  · rintro b s' ⟨h', i, rfl, hr, hi, hd', hoo', hs'⟩
    have hin : i = eso.size := by
      rcases Nat.lt_or_ge i eso.size with h | h
      · have e : eso.size - i = (eso.size - (i + 1)) + 1 := sub_step h
        rw [e, List.range'_succ] at hr; exact nomatch hr
      · exact Nat.le_antisymm hi h
    refine wpAny_pure (hQ h' ?_ hs')
    rw [hin, ← hlen, List.take_length] at hd'; exact hd'
end
end Mine
end
section
namespace Mine
open PySem PySem.Calls PyProof.Rows PySem.W

section
variable {prog : Program} {w : World} {A : Around} {E : Value → Shared → Prop} {s : Shared}

structure Disp (prog : Program) (w : World) (A : Around) (s : Shared) (all : List (Int × Str)) (rp : List (Sem Value × Sem Value)) (main : Option Addr) (run : List (Sem Value × Sem Value)) (s' : Shared) (dd rd rr : List (Int × Str)) : Prop where
  keep : Keeps s s'
  run : PTs prog w A run rd
  rest : PTs prog w A rp rr
  all : dd ++ rd ++ rr = all
  none : main = Option.none → dd = []
  some : ∀ d, main = Option.some d → ∃ kvs, RD kvs dd ∧ s'.heap.DictOf (intKind prog w) d kvs ∧ dd ≠ [] ∧ s.heap.get? d = Option.none
/-- the run is laid into the table -/
theorem flush_ok {all rr : List (Int × Str)} {rp : List (Sem Value × Sem Value)} {main : Option Addr} {run : List (Sem Value × Sem Value)} {s' : Shared} {dd rd : List (Int × Str)} {Q : Option Addr → Shared → Prop} (hS : s.heap.get? sysModules ≠ none) (hn : (all.map (·.1)).Nodup) (hz : all.length ≤ 4096) (hr : run.length ≤ 100)
    (D : Disp prog w A s all rp main run s' dd rd rr) (hne : run.isEmpty = false)
    (h : ∀ d s'', Disp prog w A s all rp (some d) [] s'' (dd ++ rd) [] rr → Q (some d) s'') :
    wpAny (model prog w) A (match main with
      | none => do return some (← subDict run)
      | some d => do
        let sub ← holding [.ref d] (subDict run)
        (holding [.ref d, .ref sub] (mergeMapping d (.ref sub) false)).onRaise fun x => do let _ ← holding [.ref d, x] (runValue (.builtin "proto.let_go" {}))
        return some d) Q E s' := by
  have hall : (dd.map (·.1) ++ rd.map (·.1)).Nodup := by
    rw [← D.all] at hn
    simp only [List.map_append] at hn
    exact (List.nodup_append.mp hn).1
  have hrdn : (rd.map (·.1)).Nodup := (List.nodup_append.mp hall).2.1
  have hrl := D.run.len
  have hlen : dd.length + rd.length ≤ 4096 := by
    have := congrArg List.length D.all
    simp only [List.length_append] at this
    omega
  have hrd : rd ≠ [] := by
    rintro rfl
    cases run with
    | nil => cases hne
    | cons _ _ => simp at hrl
  cases main with
  | none =>
    have hdd := D.none rfl
    subst hdd
    refine wpAny_bind (subDict_any hr D.run hrdn fun h' tk kvs r hd hk => wpAny_pure (h _ _ ⟨kTrans D.keep (kOf hk), .nil, D.rest, by simpa using D.all, fun e => (nomatch e), fun d e => ?_⟩))
    cases e
    exact ⟨kvs, by simpa using r, hd, by simpa using hrd, none_kp (kKp D.keep) (none_size _)⟩
  | some d =>
    obtain ⟨kvs, r₀, hd₀, hd0, hfr⟩ := D.some d rfl
    refine wpAny_bind (wpAny_holding (subDict_any hr D.run hrdn fun h' tk kvs' r hd hk => ?_))
    have hdd : d ≠ s'.heap.objs.size := by
      rintro rfl
      obtain ⟨o, _, _, ho, _⟩ := hd₀
      rw [none_size] at ho; cases ho
    have hsub : (s'.heap.objs.size == sysModules) = false := by
      rw [beq_eq_false_iff_ne]
      intro e
      cases hg : s.heap.get? sysModules with
      | none => exact hS hg
      | some o =>
        have := kKp D.keep _ _ hg
        rw [← e, none_size] at this; cases this
    have hd₁ : h'.DictOf (intKind prog w) d kvs := let ⟨o, es, ep, ho, q⟩ := hd₀; ⟨o, es, ep, hk _ _ ho, q⟩
    have hkn : kvs ≠ [] := by
      rintro rfl
      cases r₀
      exact hd0 rfl
    refine wpAny_bind (wpAny_onRaise (wpAny_holding (merge_new hdd hsub hkn hd₁ hd (by rw [r₀.keys, r.keys]; exact hall) (by rw [r₀.len, r.len, sizeLine_is]; omega) fun h'' hd'' hs'' => ?_)))
    refine wpAny_pure (h d _ ⟨kVia (b := s') (h' := h'') (t := tk) D.keep fun b o e => ?_, .nil, D.rest, by simpa [List.append_assoc] using D.all, fun e => (nomatch e), fun d' e => ?_⟩)
    · have e' := hk _ _ (kKp D.keep _ _ e)
      exact hs''.extBut b o (fun q => by rw [q, hfr] at e; cases e) e'
    · cases e
      exact ⟨kvs ++ kvs', r₀.append r, hd'', by simp [hd0], hfr⟩

theorem display_long {pairs : List (Sem Value × Sem Value)} {all : List (Int × Str)} {Q : Value → Shared → Prop} (hS : s.heap.get? sysModules ≠ none) (p : PTs prog w A pairs all) (hn : (all.map (·.1)).Nodup) (hz : all.length ≤ 4096) (h0 : all ≠ [])
    (h : ∀ s' d kvs, Keeps s s' → RD kvs all → s'.heap.DictOf (intKind prog w) d kvs → s.heap.get? d = none → Q (.ref d) s') : wpAny (model prog w) A (dictDisplay (pairs.map fun p => (some p.1, p.2))) Q E s := by
  unfold dictDisplay
  dsimp only
  refine wpAny_bind (wpAny_forIn_list _ (fun rest b s' => ∃ rp dd rd rr, rest = rp.map (fun p => (some p.1, p.2)) ∧ b.2.length < 17 ∧ Disp prog w A s all rp b.1 b.2 s' dd rd rr) _ ?_ ?_ _ _ ⟨pairs, [], [], all, rfl, by simp, ⟨kRefl s, .nil, p, by simp, fun _ => rfl, fun d e => (nomatch e)⟩⟩)
  · rintro x rest ⟨main, run⟩ s' ⟨rp, dd, rd, rr, hrest, hlt, D⟩
    cases rp with
    | nil => cases hrest
    | cons q rp =>
      rw [List.map_cons] at hrest
      injection hrest with e1 e2
      subst e1 e2
      have hrest := D.rest
      cases hrest with
      | cons pt r =>
        rename_i e es
        have D' : Disp prog w A s all rp main (run ++ [(q.1, q.2)]) s' dd (rd ++ [e]) es := ⟨D.keep, D.run.snoc pt, r, by rw [← D.all]; simp, D.none, D.some⟩
        dsimp only
        split
        · rename_i h17
          have hne : (run ++ [(q.1, q.2)]).isEmpty = false := by simp
          rw [if_neg (by rw [hne]; decide)]
          refine wpAny_bind (flush_ok hS hn hz (by dsimp only at hlt; simp; omega) D' hne fun d s'' D'' => wpAny_pure ⟨rp, dd ++ (rd ++ [e]), [], es, rfl, by simp, D''⟩)
        · rename_i h17
          refine wpAny_pure ⟨rp, dd, rd ++ [e], es, rfl, ?_, D'⟩
          dsimp only at hlt ⊢
          simp at h17 ⊢
          omega
  · rintro ⟨main, run⟩ s' ⟨rp, dd, rd, rr, hrest, hlt, D⟩
    dsimp only at hlt ⊢
    cases rp with
    | cons _ _ => cases hrest
    | nil =>
      have hrr : rr = [] := by
        have := D.rest
        cases this; rfl
      subst hrr
      have fin : ∀ {d s'' dd}, Disp prog w A s all [] (some d) [] s'' dd [] [] → wpAny (model prog w) A (pure (Value.ref d)) Q E s'' := fun {d s'' dd} D'' => by
        obtain ⟨kvs, r, hd, _, hf⟩ := D''.some d rfl
        have ha : dd = all := by simpa using D''.all
        subst ha
        exact wpAny_pure (h s'' d kvs D''.keep r hd hf)
      cases hr : run.isEmpty with
      | true =>
        have hrun : run = [] := List.isEmpty_iff.mp hr
        subst hrun
        have hrd : rd = [] := by
          have := D.run
          cases this; rfl
        subst hrd
        rw [if_pos rfl]
        refine wpAny_bind (wpAny_pure ?_)
        cases main with
        | none =>
          have := D.all
          rw [D.none rfl] at this
          exact absurd this.symm h0
        | some d => exact fin D
      | false =>
        rw [if_neg (by decide)]
        exact wpAny_bind (flush_ok hS hn hz (by omega) D hr fun d s'' D'' => fin D'')
end
end Mine
end
section
namespace Mine
open PySem PySem.Calls PyProof.Rows PySem.W

inductive Fact where
  | int (i : Int) | str (x : Str) | fn (d : DefRec) | b1 | b3
noncomputable def Fact.Is (prog : Program) (w : World) (h : Heap) (Pl : Addr) : Fact → Value → Prop
  | .int i, v => ∃ t, v = .int i t
  | .str x, v => ∃ t, v = .str x t
  | .fn d, v => ∃ a o pm code doc, v = .ref a ∧ h.get? a = some o ∧ o.data = .func (d.data pm (.ref code) doc) ∧ h.CodeRec (.ref code) d.name ∧ Pl < a ∧ Pl < code
  | .b1, v => ∃ a S k, v = .ref a ∧ h.SetOf (intKind prog w) a S k ∧ (∀ c : Nat, S c = Mine.b1.contains c) ∧ a ≠ Pl ∧ a ≠ mainGlobals
  | .b3, v => ∃ a kvs, v = .ref a ∧ h.DictOf (intKind prog w) a kvs ∧ RD kvs Mine.b3 ∧ (a ≠ Pl ∧ a ≠ mainGlobals) ∧ a ≠ sysModules
theorem Fact.keep {prog : Program} {w : World} {h h' : Heap} {Pl : Addr} (hlow : mainGlobals < Pl) (k : ∀ b o, b ≠ Pl → b ≠ mainGlobals → h.get? b = some o → h'.get? b = some o) {f : Fact} {v : Value} (x : f.Is prog w h Pl v) : f.Is prog w h' Pl v := by
  have ne : ∀ {a : Addr}, Pl < a → a ≠ Pl ∧ a ≠ mainGlobals := fun h => ⟨Nat.ne_of_gt h, Nat.ne_of_gt (Nat.lt_trans hlow h)⟩
  cases f with
  | int => exact x
  | str => exact x
  | fn d =>
    obtain ⟨a, o, pm, code, doc, e, ho, hd, hc, l1, l2⟩ := x
    exact ⟨a, o, pm, code, doc, e, k _ _ (ne l1).1 (ne l1).2 ho, hd, hc.at fun o e => k _ _ (ne l2).1 (ne l2).2 e, l1, l2⟩
  | b1 =>
    obtain ⟨a, S, n, e, ⟨o, es, ep, t, ho, r⟩, hS, l⟩ := x
    exact ⟨a, S, n, e, ⟨o, es, ep, t, k _ _ l.1 l.2 ho, r⟩, hS, l⟩
  | b3 =>
    obtain ⟨a, kvs, e, ⟨o, es, ep, ho, r⟩, hr, l⟩ := x
    exact ⟨a, kvs, e, ⟨o, es, ep, k _ _ l.1.1 l.1.2 ho, r⟩, hr, l⟩

structure Hd (prog : Program) (w : World) (c Pl : Addr) (s₀ : Shared) (mg₀ mb : Str → Option Value) (K : Str → Option Fact) (l : List (Pos × Addr)) (s : Shared) : Prop where
  ex : ∃ mg, s.heap.Main mg c Pl (triples l).toArray ∧ (∀ x f, K x = some f → ∃ v, mg x = some v ∧ f.Is prog w s.heap Pl v) ∧ ∀ x, K x = none → mg x = mg₀ x
  same : ∃ h tk, s = { s₀ with heap := h, toks := tk }
  old : ∀ b o, b ≠ Pl → b ≠ mainGlobals → s₀.heap.get? b = some o → s.heap.get? b = some o
  b : s₀.heap.Ns builtinsNs mb
noncomputable def updK (K : Str → Option Fact) (x : Str) (f : Fact) : Str → Option Fact := fun y => if y = x then some f else K y

section
variable {prog : Program} {w : World} {A : Around} {E : Value → Shared → Prop} {s s₀ s' : Shared} {c Pl F : Addr} {mg₀ mb : Str → Option Value} {K : Str → Option Fact} {l : List (Pos × Addr)}

theorem Main.keepK {h h' : Heap} {mg} {ps} (m : h.Main mg c Pl ps) (k : ∀ b o, h.get? b = some o → h'.get? b = some o) : h'.Main mg c Pl ps :=
  ⟨m.g.keeps k, m.code.keeps k, m.low, let ⟨bm, o, a, b, c, d, e, r⟩ := m.bmod; ⟨bm, o, a, b, c, d, k _ _ e, r⟩⟩
theorem Hd.up (H : Hd prog w c Pl s₀ mg₀ mb K l s) (k : Keeps s s') : Hd prog w c Pl s₀ mg₀ mb K l s' := by
  obtain ⟨h, t, rfl, kp⟩ := k
  obtain ⟨mg, hm, hf, hr⟩ := H.ex
  obtain ⟨h₁, t₁, e⟩ := H.same
  exact ⟨⟨mg, Main.keepK hm kp, fun x f e => let ⟨v, h1, h2⟩ := hf x f e; ⟨v, h1, Fact.keep (f := f) hm.low.2 (fun b o _ _ e => kp b o e) h2⟩, hr⟩, ⟨h, t, by rw [e]⟩, fun b o n1 n2 e => kp b o (H.old b o n1 n2 e), H.b⟩

theorem hd_store (hmod : prog.main.scope.kind = .module) (H : Hd prog w c Pl s₀ mg₀ mb K l s) {x : Str} {f : Fact} {v : Value} (hloc : prog.main.scope.names.lookup x = some .local) (hnb : x ≠ "__builtins__") (is : f.Is prog w s.heap Pl v) {Q : Unit → Shared → Prop}
    (h : ∀ s', Hd prog w c Pl s₀ mg₀ mb (updK K x f) l s' → Q () s') : wpAny (model prog w) A (storeName (mainEnv prog c F) x v) Q E s := by
  obtain ⟨mg, hm, hf, hr⟩ := H.ex
  refine wpAny_storeName_local (env := mainEnv prog c F) hloc hm.g (fun h' hn' hs' => ?_) (by show (prog.main.scope.kind == .class || (prog.main.scope.kind == .module && mainGlobals != mainGlobals)) = false; rw [hmod]; rfl)
  have hx : ∀ b o, b ≠ mainGlobals → s.heap.get? b = some o → h'.get? b = some o := fun b o q e => hs'.extBut b o q e
  obtain ⟨h₁, t₁, e₁⟩ := H.same
  refine h _ ⟨⟨_, ⟨hn', hm.code.sameBut hs' (Nat.ne_of_gt hm.low.1) (Nat.ne_of_gt hm.low.2), hm.low, ?_⟩, fun y g e => ?_, fun y e => ?_⟩, ⟨h', s.toks + 1, by rw [e₁]⟩, fun b o n1 n2 e => hx b o n2 (H.old b o n1 n2 e), H.b⟩
  · obtain ⟨bm, o, a, b, c, d, e, r⟩ := hm.bmod
    exact ⟨bm, o, by simp only [Ne.symm hnb, if_false]; exact a, b, c, d, hx _ _ c e, r⟩
  · have kk : ∀ b o, b ≠ Pl → b ≠ mainGlobals → s.heap.get? b = some o → h'.get? b = some o := fun b o _ q e => hx b o q e
    unfold updK at e
    by_cases hy : y = x
    · rw [if_pos hy] at e; cases e
      exact ⟨v, if_pos hy, Fact.keep hm.low.2 kk is⟩
    · rw [if_neg hy] at e
      obtain ⟨u, h1, h2⟩ := hf y g e
      exact ⟨u, (if_neg hy).trans h1, Fact.keep (f := g) hm.low.2 kk h2⟩
  · unfold updK at e
    by_cases hy : y = x
    · rw [if_pos hy] at e; cases e
    · rw [if_neg hy] at e
      exact (if_neg hy).trans (hr y e)

theorem hd_int (hmod : prog.main.scope.kind = .module) (H : Hd prog w c Pl s₀ mg₀ mb K l s) {x : Str} {px p q : Pos} {k : Nat} {i : Int} (hloc : prog.main.scope.names.lookup x = some .local) (hnb : x ≠ "__builtins__") {Q : Flow → Shared → Prop}
    (h : ∀ s', Hd prog w c Pl s₀ mg₀ mb (updK K x (.int i)) l s' → Q .next s') : wpAny (model prog w) A (exec (.Assign [.Name x px] (.Constant (.int i) k p) q) (mainEnv prog c F)) Q E s :=
  wpAny_Assign_Name (wpAny_Constant_int (hd_store (f := .int i) hmod (H.up kTok) hloc hnb (show ∃ t, _ = _ from ⟨_, rfl⟩) h)) rfl
theorem hd_str (hmod : prog.main.scope.kind = .module) (H : Hd prog w c Pl s₀ mg₀ mb K l s) {x : Str} {px p q : Pos} {k : Nat} {i : Str} (hloc : prog.main.scope.names.lookup x = some .local) (hnb : x ≠ "__builtins__") {Q : Flow → Shared → Prop}
    (h : ∀ s', Hd prog w c Pl s₀ mg₀ mb (updK K x (.str i)) l s' → Q .next s') : wpAny (model prog w) A (exec (.Assign [.Name x px] (.Constant (.str i) k p) q) (mainEnv prog c F)) Q E s :=
  wpAny_Assign_Name (wpAny_Constant_str (hd_store (f := .str i) hmod (H.up kTok) hloc hnb (show ∃ t, _ = _ from ⟨_, rfl⟩) h)) rfl
theorem hd_def (hmod : prog.main.scope.kind = .module) (H : Hd prog w c Pl s₀ mg₀ mb K l s) {d : DefRec} (hd : d.Plain prog) (hnew : ∀ q ∈ l, ¬ (q.1.line = d.pos.line ∧ q.1.col = d.pos.col)) {Q : Flow → Shared → Prop}
    (h : ∀ s' a, Hd prog w c Pl s₀ mg₀ mb (updK K d.name (.fn d)) (l ++ [(d.pos, a)]) s' → Q .next s') : wpAny (model prog w) A (exec d.stmt (mainEnv prog c F)) Q E s := by
  obtain ⟨mg, hm, hf, hr⟩ := H.ex
  obtain ⟨h₁, t₁, e₁⟩ := H.same
  refine wpAny_def hd hmod hm (codeAmong_triples _ _ hnew) fun a c' doc h' tk ha hm' hfn hcd hk => h _ c' ⟨⟨fun x => if x = d.name then some (Value.ref a) else mg x, ?_, fun y g e => ?_, fun y e => ?_⟩, ⟨h', tk, by rw [e₁]⟩, fun b o n1 n2 e => hk b o n1 n2 (H.old b o n1 n2 e), H.b⟩
  · rw [triples_append]
    simpa using hm'
  · have hPl : Pl < s.heap.objs.size := hm.code.lt.2
    unfold updK at e
    by_cases hy : y = d.name
    · rw [if_pos hy] at e; cases e
      exact ⟨.ref a, if_pos hy, a, _, _, c', doc, rfl, hfn, rfl, hcd.2, Nat.lt_of_lt_of_le hPl ha, Nat.lt_of_lt_of_le hPl hcd.1⟩
    · rw [if_neg hy] at e
      obtain ⟨u, h1, h2⟩ := hf y g e
      exact ⟨u, (if_neg hy).trans h1, Fact.keep (f := g) hm.low.2 hk h2⟩
  · unfold updK at e
    by_cases hy : y = d.name
    · rw [if_pos hy] at e; cases e
    · rw [if_neg hy] at e
      exact (if_neg hy).trans (hr y e)
end
end Mine
end
section
namespace Mine
open PySem PySem.Calls PyProof.Rows PySem.W

noncomputable abbrev prg := PySem.Challenge.pw_tc0072_01
noncomputable def argsPS : (a : Arguments) → {b : Bool // b = true → ∀ (name : Str) (body : List Stmt) (scope : Scope) (pos : Pos), PlainDefTree name a body scope pos}
  | ⟨[], [⟨_, none, _⟩], none, [], [], none, []⟩ => ⟨true, fun _ _ _ _ _ _ => rfl⟩
  | ⟨[], [⟨_, none, _⟩, ⟨_, none, _⟩], none, [], [], none, []⟩ => ⟨true, fun _ _ _ _ _ _ => rfl⟩
  | ⟨[], [⟨_, none, _⟩, ⟨_, none, _⟩, ⟨_, none, _⟩], none, [], [], none, []⟩ => ⟨true, fun _ _ _ _ _ _ => rfl⟩
  | _ => ⟨false, fun h => nomatch h⟩
noncomputable def argsPlain (d : DefRec) : Bool := (argsPS d.params).1
theorem tree_any {d : DefRec} (h : argsPlain d = true) : PlainDefTree d.name d.params d.body d.scope d.pos := (argsPS d.params).2 h _ _ _ _
noncomputable def defPlain (d : DefRec) : Bool := argsPlain d && d.scope.names.all (fun x => x.2 != .free) && (prg.main.scope.names.lookup d.name == some .local) && (d.name != "__builtins__") && (qualnameIn { scope := prg.main.scope, locals := mainGlobals, globals := mainGlobals, cells := [] } d.name d.name == d.name)
theorem plain_any {d : DefRec} (h : defPlain d = true) : d.Plain prg := by
  unfold defPlain at h
  simp only [Bool.and_eq_true, List.all_eq_true, bne_iff_ne, beq_iff_eq] at h
  obtain ⟨⟨⟨⟨h1, h2⟩, h3⟩, h4⟩, h5⟩ := h
  exact ⟨tree_any h1, fun x hx => h2 x hx, h3, h5, h4⟩

/-- a written table of texts under numbers -/
noncomputable def dictI : List (Option Expr) → List Expr → Option (List (Int × Str))
  | [], [] => some []
  | some k :: ks, v :: vs => (intOf k).bind fun a => (strOf v).bind fun b => (dictI ks vs).map ((a, b) :: ·)
  | _, _ => none
inductive DI : List (Option Expr) → List Expr → List (Int × Str) → Prop
  | nil : DI [] [] []
  | cons {a : Int} {b : Str} {i j : Nat} {p q : Pos} {ks vs kv} : DI ks vs kv → DI (some (.Constant (.int a) i p) :: ks) (.Constant (.str b) j q :: vs) ((a, b) :: kv)
theorem di_of : ∀ {ks : List (Option Expr)} {vs : List Expr} {kv}, dictI ks vs = some kv → DI ks vs kv := by
  intro ks
  induction ks with
  | nil =>
    intro vs kv e
    cases vs with
    | nil => cases e; exact .nil
    | cons => cases e
  | cons k ks ih =>
    intro vs kv e
    cases k with
    | none => cases vs <;> cases e
    | some k =>
      cases vs with
      | nil => cases e
      | cons v vs =>
        obtain ⟨a, h1, e⟩ := Option.bind_eq_some_iff.mp e
        obtain ⟨b, h2, e⟩ := Option.bind_eq_some_iff.mp e
        obtain ⟨r, hr, rfl⟩ := Option.map_eq_some_iff.mp e
        obtain ⟨_, _, rfl⟩ := intOf_is h1
        obtain ⟨_, _, rfl⟩ := strOf_is h2
        exact .cons (ih hr)
theorem const_pt {prog : Program} {w : World} {A : Around} {env : Env} {pos : Pos} (a : Int) (b : Str) (i j : Nat) (p q : Pos) : PT prog w A (eval (.Constant (.int a) i p) env, do let x ← eval (.Constant (.str b) j q) env; standAt pos; pure x) (a, b) :=
  ⟨fun h => wpAny_Constant_int (env := env) (k := i) (pos := p) (h _ _), fun h => wpAny_bind (wpAny_Constant_str (env := env) (k := j) (pos := q) (wpAny_bind (wpAny_standAt (wpAny_pure (h _ _)))))⟩
theorem DI.ok {prog : Program} {w : World} {A : Around} {env : Env} {pos : Pos} {ks : List (Option Expr)} {vs : List Expr} {kv} (d : DI ks vs kv) : ks.all (·.isSome) = true ∧ ks.length = vs.length ∧ PTs prog w A (pairTrees ks vs env pos) kv := by
  induction d with
  | nil => exact ⟨rfl, rfl, .nil⟩
  | cons _ ih => exact ⟨ih.1, congrArg (· + 1) ih.2.1, .cons (const_pt _ _ _ _ _ _) ih.2.2⟩
noncomputable def asc : List Int → Bool
  | a :: b :: r => decide (a < b) && asc (b :: r)
  | _ => true
theorem asc_lt : ∀ {l : List Int} {a : Int}, asc (a :: l) = true → ∀ x ∈ l, a < x
  | [], _, _, x, hx => by cases hx
  | b :: r, a, h, x, hx => by
    simp only [asc, Bool.and_eq_true, decide_eq_true_eq] at h
    rcases List.mem_cons.mp hx with rfl | hx
    · exact h.1
    · have := asc_lt h.2 x hx; omega
theorem asc_tail {a : Int} {l : List Int} (h : asc (a :: l) = true) : asc l = true := by
  cases l with
  | nil => rfl
  | cons b r => simp only [asc, Bool.and_eq_true] at h; exact h.2
theorem asc_nodup : ∀ {l : List Int}, asc l = true → l.Nodup
  | [], _ => .nil
  | a :: r, h => List.nodup_cons.mpr ⟨fun hm => by have := asc_lt h a hm; omega, asc_nodup (asc_tail h)⟩
theorem b3_asc : asc (b3.map (·.1)) = true := by kernel_rfl
theorem b3_len : b3.length = 650 := by kernel_rfl

section
variable {w : World} {A : Around} {E : Value → Shared → Prop} {s s₀ s' : Shared} {c Pl F : Addr} {mg₀ mb : Str → Option Value} {K : Str → Option Fact} {l : List (Pos × Addr)}
theorem hd_b3 (H : Hd prg w c Pl s₀ mg₀ mb K l s) {px p q : Pos} {ks : List (Option Expr)} {vs : List Expr} (hk : dictI ks vs = some b3) (hS : s₀.heap.get? sysModules ≠ none) {Q : Flow → Shared → Prop}
    (h : ∀ s', Hd prg w c Pl s₀ mg₀ mb (updK K "b3_exceptions" .b3) l s' → Q .next s') : wpAny (model prg w) A (exec (.Assign [.Name "b3_exceptions" px] (.Dict ks vs p) q) (mainEnv prg c F)) Q E s := by
  obtain ⟨h1, h2, h3⟩ := (di_of hk).ok (prog := prg) (w := w) (A := A) (env := mainEnv prg c F) (pos := p)
  obtain ⟨mg, hm, _⟩ := H.ex
  have hS' : s.heap.get? sysModules ≠ none := by
    cases e : s₀.heap.get? sysModules with
    | none => exact absurd e hS
    | some o =>
      rw [H.old sysModules o (Nat.ne_of_lt (Nat.lt_trans (by decide) hm.low.2)) (by decide) e]; simp
  have hPl : s.heap.get? Pl ≠ none := by
    have := hm.code
    obtain ⟨_, _, _, _, _, _, _, _, _, op, _, _, _, _, _, _, _, hop, _⟩ := this
    rw [hop]; simp
  have hPs : Pl < s.heap.objs.size := hm.code.lt.2
  refine wpAny_Assign_Name ?_ rfl
  rw [arm_eval_Dict, zip_pairTrees ks vs _ _ h1 h2]
  refine wpAny_bind (wpAny_standAt (display_long hS' h3 (asc_nodup b3_asc) (by rw [b3_len]; omega) (by intro e; have := b3_len; rw [e] at this; cases this) fun s₁ d kvs k r hd hf => ?_))
  have hlt : d ≠ Pl ∧ d ≠ mainGlobals := ⟨fun e => hPl (e ▸ hf), fun e => by rw [e] at hf; exact ns_some hm.g hf⟩
  exact hd_store (f := .b3) rfl (H.up k) rfl (by decide) (show ∃ a kvs, _ from ⟨d, kvs, rfl, hd, r, hlt, fun e => hS' (e ▸ hf)⟩) h
end
end Mine
end
section
namespace Mine
open PySem PySem.Calls PyProof.Rows PySem.W

section
variable {w : World} {A : Around} {s s₀ s' : Shared} {c Pl F : Addr} {mg₀ mb : Str → Option Value} {K : Str → Option Fact} {l : List (Pos × Addr)}
noncomputable abbrev W₀ (w : World) : World' := ⟨prg, w, fun _ => none, 0, 0⟩
noncomputable abbrev Tr : Addr → Prop := fun _ => True
noncomputable abbrev Fa : Addr → Prop := fun _ => False
theorem Hd.ns (H : Hd prg w c Pl s₀ mg₀ mb K l s) : s.heap.Ns builtinsNs mb := by
  obtain ⟨mg, hm, _⟩ := H.ex
  exact H.b.at' fun o e => H.old _ o (Nat.ne_of_lt (Nat.lt_trans (by decide) hm.low.2)) (by decide) e
/-- the names of types, at the top -/
theorem gv_type (H : Hd prg w c Pl s₀ mg₀ mb K l s) {x : Str} {n : String} {p : Pos} (hp : plainName x = true) (hK : K x = none) (h0 : mg₀ x = none) (hb : mb x = some (.type n)) : Gv (W₀ w) Tr Fa A (eval (.Name x p) (mainEnv prg c F)) (.typ n) s := fun E Q h => by
  obtain ⟨mg, hm, _, hr⟩ := H.ex
  refine wpAny_Name ?_ (by simpa [plainName] using hp)
  show wpAny _ A (loadName (mainEnv prg c F) x) _ _ _
  have e : loadName (mainEnv prg c F) x = loadGlobal (mainEnv prg c F) x := rfl
  rw [e]
  exact loadGlobal_builtin (env := mainEnv prg c F) hm.g ((hr x hK).trans h0) H.ns hb (h _ _ (Kx.refl _) (.typ _))
noncomputable def intsC : List Expr → Option (List Int)
  | [] => some []
  | .Constant (.int i) _ _ :: r => (intsC r).map (i :: ·)
  | _ => none
inductive IC : List Expr → List Int → Prop
  | nil : IC [] []
  | cons {i : Int} {k : Nat} {p : Pos} {es ns} : IC es ns → IC (.Constant (.int i) k p :: es) (i :: ns)
theorem ic_of : ∀ {es : List Expr} {ns}, intsC es = some ns → IC es ns := by
  intro es
  induction es with
  | nil => intro ns h; cases h; exact .nil
  | cons e r ih =>
    intro ns h
    unfold intsC at h
    split at h
    · rename_i hx; cases hx
    · rename_i hx; cases hx
      obtain ⟨m, hm, rfl⟩ := Option.map_eq_some_iff.mp h
      exact .cons (ih hm)
    · cases h
theorem IC.ok {env : Env} {es ns} {s : Shared} (c : IC es ns) : noStar es = true ∧ Ga (W₀ w) Tr Fa A es env (ns.map .int) s := by
  induction c generalizing s with
  | nil => exact ⟨rfl, fun E Q h => Calls.spliced_nil (h [] s (Kx.refl _) .nil)⟩
  | cons _ ih =>
    refine ⟨(ih (s := s)).1, fun E Q h => ?_⟩
    refine Calls.spliced_cons (wpAny_Constant_int (env := env) ?_)
    have kt : Kx s { s with toks := s.toks + 1 } := ⟨kTok, Nat.le_succ _⟩
    exact ih.2 _ _ fun vs s' k' r => h _ s' (kt.trans k') (.cons (.int _ _) r)
theorem type_call {env : Env} {f : Str} {n : String} {np p : Pos} {e : Expr} {es : List Expr} {as : List V} {r : V} (hA : Good 0 A) (gf : Gv (W₀ w) Tr Fa A (eval (.Name f np) env) (.typ n) s) (hs : noStar (e :: es) = true)
    (ga : ∀ s', Kx s s' → Ga (W₀ w) Tr Fa A (e :: es) env as s') (hr : mkT n as = some r) : Gv (W₀ w) Tr Fa A (eval (.Call (.Name f np) (e :: es) [] p) env) r s := fun E Q h => by
  refine wpAny_Call_ofName (gf.use fun v s₁ k₁ r₁ => ?_)
  cases rTyp r₁
  rw [star_each hs, back_each]
  refine PyProof.Rows.callWith_type (plain_each _) (args_ok (ga s₁ k₁) E _ fun vs s₂ k₂ r₂ => ?_)
  rw [List.nil_append]
  exact mkT_ok hA (fun _ _ => trivial) hr r₂ E Q fun v s₃ k₃ r₃ => h v s₃ ((k₁.trans k₂).trans k₃) r₃
theorem ga_one {env : Env} {e : Expr} {a : V} (g : Gv (W₀ w) Tr Fa A (eval e env) a s) : Ga (W₀ w) Tr Fa A [e] env [a] s := fun E Q h =>
  Calls.spliced_cons (g.use fun v s₁ k₁ r₁ => Calls.spliced_nil (h [v] s₁ k₁ (.cons r₁ .nil)))
theorem gv_list {env : Env} {es : List Expr} {p : Pos} {ns : List Int} (hc : IC es ns) (hl : ns.length ≤ big) : Gv (W₀ w) Tr Fa A (eval (.List es p) env) (.lst (ns.map .int)) s := fun E Q h => by
  obtain ⟨hs, g⟩ := hc.ok (w := w) (A := A) (env := env) (s := s)
  refine PyProof.Rows.List_ ?_
  rw [star_each hs, back_each]
  refine g E _ fun ws s₁ k₁ r₁ => ?_
  have hl' := r₁.len
  rw [big_is] at hl
  have hno : noOwn (ns.map V.int) = true := by unfold noOwn; simp [V.isOwn]
  refine wpAny_newObj_type (h _ _ (k₁.trans ⟨kOf (Kp.push _ _), Nat.le_refl _⟩) (.lst ⟨_, Heap.get?_push_size _ rfl, rfl, _, rfl⟩ trivial ((r₁.list hno).up (Kp.push _ _)))) ?_
  show ws.toArray.size ≤ sizeLine
  rw [List.size_toArray, sizeLine_is, hl']; simp; omega

theorem any_nat : ∀ (l : List Nat) (c : Nat), (l.map (fun (n : Nat) => (n : Int))).any (fun x => x == (c : Int)) = l.contains c
  | [], c => rfl
  | a :: r, c => by
    rw [List.map_cons, List.any_cons, any_nat r c, List.contains_cons]
    congr 1
    by_cases h : a = c
    · subst h; simp
    · have h1 : ((a : Int) == (c : Int)) = false := by rw [beq_eq_false_iff_ne]; omega
      have h2 : (c == a) = false := by rw [beq_eq_false_iff_ne]; omega
      rw [h1, h2]
theorem hd_b1 (hA : Good 0 A) (H : Hd prg w c Pl s₀ mg₀ mb K l s) {p1 p2 p3 p4 p5 p6 p7 p8 p9 p10 p11 p12 : Pos} {k1 k2 : Nat} {es : List Expr} (hes : intsC es = some [173, 847, 6150, 6155, 6156, 6157, 8203, 8204, 8205, 8288, 65279])
    (n1 : K "set" = none) (n2 : K "list" = none) (n3 : K "range" = none) (m1 : mg₀ "set" = none) (m2 : mg₀ "list" = none) (m3 : mg₀ "range" = none) (b1' : mb "set" = some (.type "set")) (b2' : mb "list" = some (.type "list")) (b3' : mb "range" = some (.type "range"))
    {E : Value → Shared → Prop} {Q : Flow → Shared → Prop}
    (h : ∀ s', Hd prg w c Pl s₀ mg₀ mb (updK K "b1_set" .b1) l s' → Q .next s') :
    wpAny (model prg w) A (exec (.Assign [.Name "b1_set" p1] (.Call (.Name "set" p2) [.BinOp (.List es p3) .Add (.Call (.Name "list" p4) [.Call (.Name "range" p5) [.Constant (.int 65024) k1 p6, .Constant (.int 65040) k2 p7] [] p8] [] p9) p10] [] p11) p12) (mainEnv prg c F)) Q E s := by
  refine wpAny_Assign_Name ?_ rfl
  refine wpAny_Call_ofName ((gv_type H (by decide) n1 m1 b1').use fun v s₁ k₁ r₁ => ?_)
  cases rTyp r₁
  have H₁ := H.up k₁.keeps
  have gr : ∀ s', Kx s₁ s' → Gv (W₀ w) Tr Fa A (eval (.Call (.Name "range" p5) [.Constant (.int 65024) k1 p6, .Constant (.int 65040) k2 p7] [] p8) (mainEnv prg c F)) (.rng 65024 65040 1) s' := fun s' k' =>
    type_call hA (gv_type (H₁.up k'.keeps) (by decide) n3 m3 b3') rfl (fun s'' _ => (IC.ok (.cons (.cons .nil))).2) rfl
  have gl' : ∀ s', Kx s₁ s' → Gv (W₀ w) Tr Fa A (eval (.Call (.Name "list" p4) [.Call (.Name "range" p5) [.Constant (.int 65024) k1 p6, .Constant (.int 65040) k2 p7] [] p8] [] p9) (mainEnv prg c F)) (.lst (rngList 65024 65040 1)) s' := fun s' k' =>
    type_call hA (gv_type (H₁.up k'.keeps) (by decide) n2 m2 b2') rfl (fun s'' k'' => ga_one (gr s'' (k'.trans k''))) rfl
  rw [star_each rfl, back_each]
  have gb : Gv (W₀ w) Tr Fa A (eval (.BinOp (.List es p3) .Add (.Call (.Name "list" p4) [.Call (.Name "range" p5) [.Constant (.int 65024) k1 p6, .Constant (.int 65040) k2 p7] [] p8] [] p9) p10) (mainEnv prg c F)) (.lst ((([173, 847, 6150, 6155, 6156, 6157, 8203, 8204, 8205, 8288, 65279] : List Int).map .int) ++ rngList 65024 65040 1)) s₁ := fun E Q h =>
    wpAny_BinOp ((gv_list (ic_of hes) (by decide)).use fun va s₂ k₂ r₂ => (gl' s₂ k₂).use fun vb s₃ k₃ r₃ =>
      (bin_ok (ok := Tr) (ow := Fa) (fun _ _ => trivial) rfl (r₂.up k₃.kp) r₃).use fun v s₄ k₄ r₄ => h v s₄ ((k₂.trans k₃).trans k₄) r₄)
  refine PyProof.Rows.callWith_type (plain_each _) (args_ok (ga_one gb) E _ fun vs s₂ k₂ r₂ => ?_)
  rw [List.nil_append]
  cases r₂; rename_i r₂ r₃; cases r₃
  obtain ⟨D, ws, rfl, hl, _, rl⟩ := rLst r₂
  have hints : IntsAre ws (b1.map (fun (n : Nat) => (n : Int))) := ints_of rl (by decide +kernel)
  have hlen : ws.length = 27 := by rw [rl.len]; decide +kernel
  have H₂ := H₁.up k₂.keeps
  refine call_set_list (ns := b1.map (fun (n : Nat) => (n : Int))) hA.handled hl (by simpa using hints) (by rw [List.size_toArray, hlen]; decide) fun h' tk hS hk => ?_
  have kk : Keeps s₂ { s₂ with heap := h', toks := tk } := kOf fun b o e => hk b o (Heap.lt_size e) e
  obtain ⟨mg, hm, _⟩ := H₂.ex
  refine hd_store (f := .b1) rfl (H₂.up kk) rfl (by decide) (show ∃ a S k, _ from ⟨s₂.heap.objs.size, _, _, rfl, hS, fun cc => ?_, Nat.ne_of_gt hm.code.lt.2, Nat.ne_of_gt hm.g.lt⟩) h
  rw [List.size_toArray, hlen, firstMet_any]
  have e : (List.range 27).map (fun i => (b1.map (fun (n : Nat) => (n : Int))).getD i 0) = b1.map (fun (n : Nat) => (n : Int)) := by decide +kernel
  rw [e]
  exact any_nat b1 cc
end
end Mine
end
section
namespace Mine
open PySem PySem.Calls PyProof.Rows PySem.W

noncomputable def nameOk (x : Str) : Bool := (prg.main.scope.names.lookup x == some .local) && (x != "__builtins__") && (x != "set") && (x != "list") && (x != "range")
noncomputable def b1Ints : List Int := [173, 847, 6150, 6155, 6156, 6157, 8203, 8204, 8205, 8288, 65279]
/-- what a statement of the top lays -/
inductive TopVw : Stmt → Str → Fact → Prop
  | int {x : Str} {p q r : Pos} {i : Int} {k : Nat} (h : nameOk x = true) : TopVw (.Assign [.Name x p] (.Constant (.int i) k q) r) x (.int i)
  | str {x : Str} {p q r : Pos} {i : Str} {k : Nat} (h : nameOk x = true) : TopVw (.Assign [.Name x p] (.Constant (.str i) k q) r) x (.str i)
  | fn {nm nm' : Str} {ps : Arguments} {b : List Stmt} {sc : Scope} {pos : Pos} (h : (nameOk nm && nm' == nm && defPlain ⟨nm, ps, b, sc, pos⟩) = true) : TopVw (.FunctionDef nm ps b [] none [] sc none nm' pos) nm (.fn ⟨nm, ps, b, sc, pos⟩)
  | b1 {x f g r : Str} {es : List Expr} {a b : Int} {k1 k2 : Nat} {p1 p2 p3 p4 p5 p6 p7 p8 p9 p10 p11 p12 : Pos} (h : ((x == "b1_set" && f == "set" && g == "list" && r == "range") && (a == 65024 && b == 65040) && (intsC es == some b1Ints)) = true) :
      TopVw (.Assign [.Name x p1] (.Call (.Name f p2) [.BinOp (.List es p3) .Add (.Call (.Name g p4) [.Call (.Name r p5) [.Constant (.int a) k1 p6, .Constant (.int b) k2 p7] [] p8] [] p9) p10] [] p11) p12) x .b1
  | b3 {x : Str} {ks : List (Option Expr)} {vs : List Expr} {p q r : Pos} (h : (x == "b3_exceptions" && (dictI ks vs == some Mine.b3)) = true) : TopVw (.Assign [.Name x p] (.Dict ks vs q) r) x .b3
noncomputable def topOfS : (st : Stmt) → Option {p : Str × Fact // TopVw st p.1 p.2}
  | .Assign [.Name x _] (.Constant (.int i) _ _) _ => if h : nameOk x = true then some ⟨(x, .int i), .int h⟩ else none
  | .Assign [.Name x _] (.Constant (.str i) _ _) _ => if h : nameOk x = true then some ⟨(x, .str i), .str h⟩ else none
  | .FunctionDef nm ps b [] none [] sc none nm' pos => if h : (nameOk nm && nm' == nm && defPlain ⟨nm, ps, b, sc, pos⟩) = true then some ⟨(nm, .fn ⟨nm, ps, b, sc, pos⟩), .fn h⟩ else none
  | .Assign [.Name x _] (.Call (.Name f _) [.BinOp (.List es _) .Add (.Call (.Name g _) [.Call (.Name r _) [.Constant (.int a) _ _, .Constant (.int b) _ _] [] _] [] _) _] [] _) _ =>
      if h : ((x == "b1_set" && f == "set" && g == "list" && r == "range") && (a == 65024 && b == 65040) && (intsC es == some b1Ints)) = true then some ⟨(x, .b1), .b1 h⟩ else none
  | .Assign [.Name x _] (.Dict ks vs _) _ => if h : (x == "b3_exceptions" && (dictI ks vs == some b3)) = true then some ⟨(x, .b3), .b3 h⟩ else none
  | _ => none
noncomputable def topOf (st : Stmt) : Option (Str × Fact) := (topOfS st).map (·.1)
theorem topOf_is {st : Stmt} {x : Str} {f : Fact} (h : topOf st = some (x, f)) : TopVw st x f := by
  obtain ⟨⟨p, hp⟩, _, e⟩ := Option.map_eq_some_iff.mp h
  have e : p = (x, f) := e
  subst e
  exact hp
noncomputable def posOf : Stmt → List (Nat × Nat)
  | .FunctionDef _ _ _ _ _ _ _ _ _ pos => [(pos.line, pos.col)]
  | _ => []

section
variable {w : World} {A : Around} {s s₀ s' : Shared} {c Pl F : Addr} {mg₀ mb : Str → Option Value} {K : Str → Option Fact} {l : List (Pos × Addr)}
structure Base (s₀ : Shared) (mg₀ mb : Str → Option Value) : Prop where
  sys : s₀.heap.get? sysModules ≠ none
  m1 : mg₀ "set" = none
  m2 : mg₀ "list" = none
  m3 : mg₀ "range" = none
  b1 : mb "set" = some (.type "set")
  b2 : mb "list" = some (.type "list")
  b3 : mb "range" = some (.type "range")
theorem nameOk_is {x : Str} (h : nameOk x = true) : prg.main.scope.names.lookup x = some .local ∧ x ≠ "__builtins__" ∧ x ≠ "set" ∧ x ≠ "list" ∧ x ≠ "range" := by
  unfold nameOk at h
  simp only [Bool.and_eq_true, bne_iff_ne, beq_iff_eq] at h
  exact ⟨h.1.1.1.1, h.1.1.1.2, h.1.1.2, h.1.2, h.2⟩
theorem top_step (hA : Good 0 A) (B : Base s₀ mg₀ mb) (H : Hd prg w c Pl s₀ mg₀ mb K l s) (k1 : K "set" = none) (k2 : K "list" = none) (k3 : K "range" = none) {st : Stmt} {x : Str} {f : Fact} (ht : topOf st = some (x, f))
    (hpos : ∀ p ∈ posOf st, ∀ q ∈ l, (q.1.line, q.1.col) ≠ p) {E : Value → Shared → Prop} {Q : Flow → Shared → Prop}
    (h : ∀ s' l', Hd prg w c Pl s₀ mg₀ mb (updK K x f) l' s' → (∀ q ∈ l', q ∈ l ∨ (q.1.line, q.1.col) ∈ posOf st) → x ≠ "set" ∧ x ≠ "list" ∧ x ≠ "range" → Q .next s') : wpAny (model prg w) A (exec st (mainEnv prg c F)) Q E s := by
  cases topOf_is ht with
  | int hn =>
    obtain ⟨h1, h2, h3, h4, h5⟩ := nameOk_is hn
    exact hd_int rfl H h1 h2 fun s' H' => h s' l H' (fun q hq => .inl hq) ⟨h3, h4, h5⟩
  | str hn =>
    obtain ⟨h1, h2, h3, h4, h5⟩ := nameOk_is hn
    exact hd_str rfl H h1 h2 fun s' H' => h s' l H' (fun q hq => .inl hq) ⟨h3, h4, h5⟩
  | fn hc =>
    simp only [Bool.and_eq_true, beq_iff_eq] at hc
    obtain ⟨⟨hn, rfl⟩, hp⟩ := hc
    obtain ⟨h1, h2, h3, h4, h5⟩ := nameOk_is hn
    refine hd_def rfl H (plain_any hp) (fun q hq e => hpos (q.1.line, q.1.col) (List.mem_singleton.mpr (by rw [e.1, e.2])) q hq rfl) fun s' a H' => h s' _ H' (fun q hq => ?_) ⟨h3, h4, h5⟩
    rcases List.mem_append.mp hq with hq | hq
    · exact .inl hq
    · rw [List.mem_singleton] at hq; subst hq
      exact .inr (List.mem_singleton.mpr rfl)
  | b1 hc =>
    simp only [Bool.and_eq_true, beq_iff_eq] at hc
    obtain ⟨⟨⟨⟨⟨rfl, rfl⟩, rfl⟩, rfl⟩, rfl, rfl⟩, he⟩ := hc
    exact hd_b1 hA H he k1 k2 k3 B.m1 B.m2 B.m3 B.b1 B.b2 B.b3 fun s' H' => h s' l H' (fun q hq => .inl hq) (by decide)
  | b3 hc =>
    simp only [Bool.and_eq_true, beq_iff_eq] at hc
    obtain ⟨rfl, he⟩ := hc
    exact hd_b3 H he B.sys fun s' H' => h s' l H' (fun q hq => .inl hq) (by decide)

noncomputable def foldK : List (Str × Fact) → (Str → Option Fact) → Str → Option Fact
  | [], K => K
  | (x, f) :: r, K => foldK r (updK K x f)
noncomputable def allTop : List Stmt → Option (List (Str × Fact))
  | [] => some []
  | st :: r => (topOf st).bind fun p => (allTop r).map (p :: ·)
noncomputable def posFree : List Stmt → List (Nat × Nat) → Bool
  | [], _ => true
  | st :: r, ps => (posOf st).all (fun p => !ps.contains p) && posFree r (posOf st ++ ps)
theorem top_run (hA : Good 0 A) (B : Base s₀ mg₀ mb) : ∀ {ss : List Stmt} {ps : List (Nat × Nat)} {kf : List (Str × Fact)} {K : Str → Option Fact} {l : List (Pos × Addr)} {s : Shared} {E : Value → Shared → Prop} {Q : Flow → Shared → Prop}, Hd prg w c Pl s₀ mg₀ mb K l s → K "set" = none → K "list" = none → K "range" = none → allTop ss = some kf → posFree ss ps = true →
    (∀ q ∈ l, (q.1.line, q.1.col) ∈ ps) → (∀ s' l', Hd prg w c Pl s₀ mg₀ mb (foldK kf K) l' s' → Q .next s') → wpAny (model prg w) A (execs ss (mainEnv prg c F)) Q E s
  | [], ps, kf, K, l, s, E, Q, H, _, _, _, ht, _, _, h => by cases ht; exact wpAny_execs_nil (h s l H)
  | st :: r, ps, kf, K, l, s, E, Q, H, k1, k2, k3, ht, hp, hl, h => by
    unfold allTop at ht
    obtain ⟨⟨x, f⟩, h1, ht⟩ := Option.bind_eq_some_iff.mp ht
    obtain ⟨kr, h2, rfl⟩ := Option.map_eq_some_iff.mp ht
    simp only [posFree, Bool.and_eq_true, List.all_eq_true, Bool.not_eq_true'] at hp
    refine wpAny_execs_cons (top_step hA B H k1 k2 k3 h1 (fun p hpm q hq e => ?_) fun s' l' H' hl' hx => ?_)
    · have := hp.1 p hpm
      rw [← e, List.contains_iff_mem.mpr (hl q hq)] at this
      cases this
    · refine top_run hA B H' ((if_neg (fun e => hx.1 e.symm)).trans k1) ((if_neg (fun e => hx.2.1 e.symm)).trans k2) ((if_neg (fun e => hx.2.2 e.symm)).trans k3) h2 hp.2 (fun q hq => ?_) h
      rcases hl' q hq with hq | hq
      · exact List.mem_append_right _ (hl q hq)
      · exact List.mem_append_left _ hq
end
theorem body_pos : posFree body [] = true := by kernel_rfl
theorem body_top : (allTop body).isSome = true := by kernel_rfl
end Mine
end
section
set_option maxRecDepth 20000
namespace Mine
open PySem PySem.Calls PyProof.Rows PySem.W

section
variable (P : Params)
theorem bt_main : (boot_heap P).isNs mainGlobals = true := by kernel_rfl
theorem bt_blt : (boot_heap P).isNs builtinsNs = true := by kernel_rfl
theorem bt_sta : (boot_heap P).isNs cStatics = true := by kernel_rfl
theorem bt_sys : (boot_heap P).get? sysModules ≠ none := by
  have : ((boot_heap P).get? sysModules).isSome = true := by kernel_rfl
  intro e; rw [e] at this; cases this
theorem bt_mg (x : Str) (h : ["set", "list", "range", "len", "min", "max", "ord", "chr", "sum", "type", "bool"].any (fun y => Str.ofString y == x) = true) : (boot_heap P).nsMap mainGlobals x = none := by
  have : (["set", "list", "range", "len", "min", "max", "ord", "chr", "sum", "type", "bool"].all fun y => ((boot_heap P).nsMap mainGlobals (Str.ofString y)).isNone) = true := by kernel_rfl
  obtain ⟨y, hy, e⟩ := List.any_eq_true.mp h
  rw [beq_iff_eq] at e
  subst e
  exact Option.isNone_iff_eq_none.mp (List.all_eq_true.mp this y hy)
theorem bt_mb1 : (boot_heap P).nsMap builtinsNs "set" = some (.type "set") := by kernel_rfl
theorem bt_mb2 : (boot_heap P).nsMap builtinsNs "list" = some (.type "list") := by kernel_rfl
theorem bt_mb3 : (boot_heap P).nsMap builtinsNs "range" = some (.type "range") := by kernel_rfl
theorem bt_mb4 : (boot_heap P).nsMap builtinsNs "type" = some (.type "type") := by kernel_rfl
theorem bt_mb5 : (boot_heap P).nsMap builtinsNs "bool" = some (.type "bool") := by kernel_rfl
theorem bt_mb6 : (boot_heap P).nsMap builtinsNs "len" = some (.builtin "len") := by kernel_rfl
theorem bt_mb7 : (boot_heap P).nsMap builtinsNs "min" = some (.builtin "min") := by kernel_rfl
theorem bt_mb8 : (boot_heap P).nsMap builtinsNs "max" = some (.builtin "max") := by kernel_rfl
theorem bt_mb9 : (boot_heap P).nsMap builtinsNs "ord" = some (.builtin "ord") := by kernel_rfl
theorem bt_mb10 : (boot_heap P).nsMap builtinsNs "chr" = some (.builtin "chr") := by kernel_rfl
theorem bt_mb11 : (boot_heap P).nsMap builtinsNs "sum" = some (.builtin "sum") := by kernel_rfl
theorem bt_lim : (boot_heap P).nsMap cStatics "sys.recursionlimit" = none := by kernel_rfl
end
end Mine
end
section
set_option maxRecDepth 20000
namespace Mine
open PySem PySem.Calls PyProof.Rows PySem.W

noncomputable def topLite : Stmt → Option (Str × Fact)
  | .Assign [.Name x _] (.Constant (.int i) _ _) _ => some (x, .int i)
  | .Assign [.Name x _] (.Constant (.str i) _ _) _ => some (x, .str i)
  | .FunctionDef nm ps b _ _ _ sc _ _ pos => some (nm, .fn ⟨nm, ps, b, sc, pos⟩)
  | .Assign [.Name x _] (.Call ..) _ => some (x, .b1)
  | .Assign [.Name x _] (.Dict ..) _ => some (x, .b3)
  | _ => none
noncomputable def kf : List (Str × Fact) := body.filterMap topLite
theorem top_kf : allTop body = some kf := by kernel_rfl
noncomputable def Kf : Str → Option Fact := foldK kf fun _ => none
noncomputable def allFns : List Str := fnNames ++ [("law" : Str)]
theorem kf_fns : allFns.map Kf = allFns.map (fun n => (recOf n).map Fact.fn) := by kernel_rfl
theorem rec_some : allFns.all (fun n => (recOf n).isSome) = true := by kernel_rfl
theorem kf_fn {n : Str} (h : n ∈ allFns) : ∃ d, recOf n = some d ∧ Kf n = some (.fn d) := by
  obtain ⟨d, hd⟩ := Option.isSome_iff_exists.mp (List.all_eq_true.mp rec_some n h)
  have := List.map_inj_left.mp kf_fns n h
  rw [hd] at this
  exact ⟨d, hd, this⟩
theorem kf_b1 : Kf "b1_set" = some .b1 := by kernel_rfl
theorem kf_b3 : Kf "b3_exceptions" = some .b3 := by kernel_rfl
theorem kf_c1 : Kf "_MAX_STRING_SIZE" = some (.int 40) := by kernel_rfl
theorem kf_c2 : Kf "_MOVE_COST" = some (.int 2) := by kernel_rfl
theorem kf_c3 : Kf "_CASE_COST" = some (.int 1) := by kernel_rfl
theorem kf_none : (["len", "min", "max", "ord", "chr", "sum", "range", "list", "type", "bool"].all fun y => (Kf (Str.ofString y)).isNone) = true := by kernel_rfl

theorem rd_look {kvs : List (Int × Value)} {kx : List (Int × Str)} (q : RD kvs kx) (c : Int) : (∀ x, kx.lookup c = some x → ∃ t, valueAt kvs c = some (.str x t)) ∧ (kx.lookup c = none → valueAt kvs c = none) := by
  induction q with
  | nil => exact ⟨fun x h => by simp at h, fun _ => rfl⟩
  | @cons k y t kvs kx r ih =>
    rw [List.lookup_cons]
    by_cases h : c = k
    · subst h
      simp only [beq_self_eq_true]
      refine ⟨fun x e => ?_, fun e => by cases e⟩
      cases e
      exact ⟨t, by simp [valueAt]⟩
    · have hb : (c == k) = false := by rw [beq_eq_false_iff_ne]; exact h
      rw [hb]
      have hv : valueAt ((k, Value.str y t) :: kvs) c = valueAt kvs c := by
        unfold valueAt
        rw [List.find?_cons]
        have : decide ((k, Value.str y t).1 = c) = false := decide_eq_false (fun e => h e.symm)
        rw [this]
      rw [hv]
      exact ih

section
variable {w : World} {c Pl : Addr} {s s₀ : Shared} {mg₀ mb : Str → Option Value} {l : List (Pos × Addr)}
noncomputable def wOf (w : World) (mg : Str → Option Value) : World' where
  prog := prg
  w := w
  fa := fun n => if allFns.contains n then (match mg n with | some (.ref a) => some a | _ => none) else none
  b1a := match mg "b1_set" with | some (.ref a) => a | _ => 0
  b3a := match mg "b3_exceptions" with | some (.ref a) => a | _ => 0
structure TopS (w : World) (mg₀ mb : Str → Option Value) (mg : Str → Option Value) (c Pl : Addr) (l : List (Pos × Addr)) (s : Shared) : Prop where
  main : s.heap.Main mg c Pl (triples l).toArray
  facts : ∀ x f, Kf x = some f → ∃ v, mg x = some v ∧ f.Is prg w s.heap Pl v
  rest : ∀ x, Kf x = none → mg x = mg₀ x
theorem fa_of {mg : Str → Option Value} (T : TopS w mg₀ mb mg c Pl l s) {n : Str} (h : n ∈ allFns) : ∃ a o pm code doc d, (wOf w mg).fa n = some a ∧ mg n = some (.ref a) ∧ s.heap.get? a = some o ∧ o.data = .func (DefRec.data d pm (.ref code) doc) ∧ s.heap.CodeRec (.ref code) d.name ∧ recOf n = some d := by
  obtain ⟨d, hd, hk⟩ := kf_fn h
  obtain ⟨v, hv, a, o, pm, code, doc, rfl, ho, hdat, hc, _, _⟩ := T.facts n _ hk
  refine ⟨a, o, pm, code, doc, d, ?_, hv, ho, hdat, hc, hd⟩
  show (if allFns.contains n then (match mg n with | some (.ref a) => some a | _ => none) else none) = some a
  rw [if_pos (List.contains_iff_mem.mpr h), hv]
theorem stt_of {mg : Str → Option Value} (T : TopS w mg₀ mb mg c Pl l s) (hb : s.heap.Ns builtinsNs mb) (hlim : s.heap.NoLimit) (ht : 0 < s.toks) : Stt (wOf w mg) mg mb s := by
  obtain ⟨v1, hv1, a1, S, k, rfl, hS, hSc, _⟩ := T.facts _ _ kf_b1
  obtain ⟨v3, hv3, a3, kvs, rfl, hd, hr, _, hne⟩ := T.facts _ _ kf_b3
  have e1 : (wOf w mg).b1a = a1 := by show (match mg "b1_set" with | some (.ref a) => a | _ => 0) = a1; rw [hv1]
  have e3 : (wOf w mg).b3a = a3 := by show (match mg "b3_exceptions" with | some (.ref a) => a | _ => 0) = a3; rw [hv3]
  refine ⟨T.main.g, hb, hlim, ht, fun n a h => ?_, ⟨S, k, by rw [e1]; exact hS, hSc⟩, ⟨valueAt kvs, by rw [e3]; exact hd.mapOf, rd_look hr⟩, by rw [hv1, e1], by rw [hv3, e3], by rw [e3, beq_eq_false_iff_ne]; exact hne⟩
  have hn : n ∈ allFns := by
    by_cases q : allFns.contains n = true
    · exact List.contains_iff_mem.mp q
    · have h : (if allFns.contains n then (match mg n with | some (.ref a) => some a | _ => none) else none) = some a := h
      rw [if_neg q] at h; cases h
  obtain ⟨a', o, pm, code, doc, d, h1, _, h3, h4, h5, h6⟩ := fa_of T hn
  rw [h1] at h; cases h
  exact ⟨o, pm, code, doc, d, h3, h4, h5, h6⟩
end
end Mine
end
section
set_option maxRecDepth 20000
namespace Mine
open PySem PySem.Calls PyProof.Rows PySem.W

section
variable {w : World} {P : Params} {c Pl : Addr} {s : Shared} {mg : Str → Option Value} {l : List (Pos × Addr)}
theorem hg_of (T : TopS w ((boot_heap P).nsMap mainGlobals) ((boot_heap P).nsMap builtinsNs) mg c Pl l s) :
    ∀ x a, gl x = some a → ∃ v, (mg x = some v ∨ (mg x = none ∧ (boot_heap P).nsMap builtinsNs x = some v)) ∧ ∀ h ok ow, Rep (wOf w mg) h ok ow v a := by
  intro x a h
  unfold gl at h
  split at h
  · rename_i hc
    cases h
    have hm : x ∈ allFns := List.mem_append_left _ (List.contains_iff_mem.mp hc)
    obtain ⟨a', o, pm, code, doc, d, h1, h2, _⟩ := fa_of T hm
    exact ⟨.ref a', .inl h2, fun _ _ _ => .fn h1⟩
  · have hm := mem_of_lookup h
    have none_of : ∀ y : String, ["len", "min", "max", "ord", "chr", "sum", "range", "list", "type", "bool"].contains y = true → mg (Str.ofString y) = none := fun y hy => by
      have h1 := List.all_eq_true.mp kf_none y (List.contains_iff_mem.mp hy)
      have h2 := T.rest _ (Option.isNone_iff_eq_none.mp h1)
      rw [h2]
      refine bt_mg P _ ?_
      refine List.any_eq_true.mpr ⟨y, ?_, by simp⟩
      have := List.contains_iff_mem.mp hy
      exact List.contains_iff_mem.mp (List.all_eq_true.mp (by decide : ((["len", "min", "max", "ord", "chr", "sum", "range", "list", "type", "bool"] : List String).all fun y => (["set", "list", "range", "len", "min", "max", "ord", "chr", "sum", "type", "bool"] : List String).contains y) = true) y this)
    have con : ∀ {y : Str} {i : Int}, Kf y = some (.int i) → ∃ v, mg y = some v ∧ ∀ h ok ow, Rep (wOf w mg) h ok ow v (.int i) := fun hk => by
      obtain ⟨v, hv, t, rfl⟩ := T.facts _ _ hk
      exact ⟨_, hv, fun _ _ _ => .int _ _⟩
    have K : ∀ p ∈ globs, ∃ v, (mg p.1 = some v ∨ (mg p.1 = none ∧ (boot_heap P).nsMap builtinsNs p.1 = some v)) ∧ ∀ h ok ow, Rep (wOf w mg) h ok ow v p.2 :=
      List.forall_mem_cons.2 ⟨by obtain ⟨v, hv, r⟩ := con kf_c1; exact ⟨v, .inl hv, r⟩,
      List.forall_mem_cons.2 ⟨by obtain ⟨v, hv, r⟩ := con kf_c2; exact ⟨v, .inl hv, r⟩,
      List.forall_mem_cons.2 ⟨by obtain ⟨v, hv, r⟩ := con kf_c3; exact ⟨v, .inl hv, r⟩,
      List.forall_mem_cons.2 ⟨by exact ⟨_, .inr ⟨none_of "len" (by decide), bt_mb6 P⟩, fun _ _ _ => .blt _⟩,
      List.forall_mem_cons.2 ⟨by exact ⟨_, .inr ⟨none_of "min" (by decide), bt_mb7 P⟩, fun _ _ _ => .blt _⟩,
      List.forall_mem_cons.2 ⟨by exact ⟨_, .inr ⟨none_of "max" (by decide), bt_mb8 P⟩, fun _ _ _ => .blt _⟩,
      List.forall_mem_cons.2 ⟨by exact ⟨_, .inr ⟨none_of "ord" (by decide), bt_mb9 P⟩, fun _ _ _ => .blt _⟩,
      List.forall_mem_cons.2 ⟨by exact ⟨_, .inr ⟨none_of "chr" (by decide), bt_mb10 P⟩, fun _ _ _ => .blt _⟩,
      List.forall_mem_cons.2 ⟨by exact ⟨_, .inr ⟨none_of "sum" (by decide), bt_mb11 P⟩, fun _ _ _ => .blt _⟩,
      List.forall_mem_cons.2 ⟨by exact ⟨_, .inr ⟨none_of "range" (by decide), bt_mb3 P⟩, fun _ _ _ => .typ _⟩,
      List.forall_mem_cons.2 ⟨by exact ⟨_, .inr ⟨none_of "list" (by decide), bt_mb2 P⟩, fun _ _ _ => .typ _⟩,
      List.forall_mem_cons.2 ⟨by exact ⟨_, .inr ⟨none_of "type" (by decide), bt_mb4 P⟩, fun _ _ _ => .typ _⟩,
      List.forall_mem_cons.2 ⟨by exact ⟨_, .inr ⟨none_of "bool" (by decide), bt_mb5 P⟩, fun _ _ _ => .typ _⟩,
      fun _ h => nomatch h⟩⟩⟩⟩⟩⟩⟩⟩⟩⟩⟩⟩⟩
    exact K _ hm
end
end Mine
end
section
set_option maxRecDepth 20000
namespace Mine
open PySem PySem.Calls PyProof.Rows PySem.W

theorem bt_bm (P : Params) : (boot_heap P).bmainOk = true := by kernel_rfl
theorem bt_size (P : Params) : (boot_heap P).objs.size = (boot_heap P).objs.size := rfl
theorem bt_toks : 0 < boot_toks := by decide +kernel
theorem bt_main_lt (P : Params) : mainGlobals < (boot_heap P).objs.size := (Heap.Ns.of_isNs (bt_main P)).lt
theorem beh_body : behindTheImports prg = body := by kernel_rfl
theorem ann_body : hasAnns body = false := by kernel_rfl
theorem doc_body : docOf body = none := by kernel_rfl

/-- what the top has left -/
structure Ran (w : World) (s₀ s : Shared) : Prop where
  ex : ∃ mg c Pl l, TopS w ((boot_heap w.params).nsMap mainGlobals) ((boot_heap w.params).nsMap builtinsNs) mg c Pl l s
  same : ∃ h tk, s = { s₀ with heap := h, toks := tk }
  old : ∀ b o, b ≠ mainGlobals → s₀.heap.get? b = some o → s.heap.get? b = some o

theorem top_runs (w : World) {s₀ : Shared} (hh : s₀.heap = boot_heap w.params) (hg : s₀.gens = #[]) :
    wpAny (model prg w) callerA (topStub prg).cur (fun fin s' => ∃ f, fin = .done f ∧ Ran w s₀ s' ∧ leftWithCleanup s'.gens = false) (fun _ _ => False) s₀ := by
  show wpAny (model prg w) callerA (do
    let code ← moduleCode prg.main
    let frame ← newBodyFrame code mainNs mainNs
    let _ ← run (.body (behindTheImports prg) { scope := prg.main.scope, locals := mainNs, globals := mainNs, cells := [], code, frame := some frame })
    ret .none) _ _ s₀
  have hns : s₀.heap.Ns mainGlobals ((boot_heap w.params).nsMap mainGlobals) := by rw [hh]; exact Heap.Ns.of_isNs (bt_main _)
  have hbs : s₀.heap.Ns builtinsNs ((boot_heap w.params).nsMap builtinsNs) := by rw [hh]; exact Heap.Ns.of_isNs (bt_blt _)
  refine wpAny_bind (wpAny_moduleCode fun c Pl h' tk hk hc hP hcode => ?_)
  have hnPl : s₀.heap.get? Pl = none := by
    cases e : s₀.heap.get? Pl with
    | none => rfl
    | some o => exact absurd (Heap.lt_size e) (Nat.not_lt.mpr hP)
  refine wpAny_bind ?_
  show wpAny _ _ (do
    let v ← nsGet mainNs "__name__"
    alloc { cls := .type "frame", slots := #[some (.ref c), some (.ref mainNs), some (.ref mainNs), none, some (v.getD .none), none, some (.ref builtinsNs)] }) _ _ _
  refine wpAny_bind (wpAny_nsGet (hns.keeps hk) (wpAny_alloc ?_))
  have hml : mainGlobals < s₀.heap.objs.size := by rw [hh]; exact bt_main_lt _
  generalize hs₂ : ({ s₀ with heap := h'.push _, toks := tk } : Shared) = s₂
  have kp : Kp s₀.heap s₂.heap := fun b o e => by rw [← hs₂]; exact Heap.get?_push_of_some _ (hk b o e)
  have hmain : s₂.heap.Main ((boot_heap w.params).nsMap mainGlobals) c Pl (triples []).toArray := by
    refine ⟨hns.keeps kp, by rw [← hs₂]; exact hcode.push _, ⟨Nat.lt_of_lt_of_le hml hc, Nat.lt_of_lt_of_le hml hP⟩, ?_⟩
    obtain ⟨bm, ob, b1, b2, b3, b4, b5, b6⟩ := Heap.bmainOk_spec (bt_bm w.params)
    have b3 : s₀.heap.get? bm = some ob := by rw [hh]; exact b3
    refine ⟨bm, ob, b1, b2, fun e => ?_, (fun e => by rw [e, hnPl] at b3; cases b3), kp _ _ b3, b4, b5, b6⟩
    subst e
    obtain ⟨o, es, ep, ho, hd, _⟩ := hns
    rw [b3] at ho; cases ho; rw [b6] at hd; cases hd
  have hB : Base s₂ ((boot_heap w.params).nsMap mainGlobals) ((boot_heap w.params).nsMap builtinsNs) := by
    refine ⟨fun e => ?_, bt_mg _ _ (by decide), bt_mg _ _ (by decide), bt_mg _ _ (by decide), bt_mb1 _, bt_mb2 _, bt_mb3 _⟩
    have := none_kp kp e
    rw [hh] at this
    exact bt_sys _ this
  have H : Hd prg w c Pl s₂ ((boot_heap w.params).nsMap mainGlobals) ((boot_heap w.params).nsMap builtinsNs) (fun _ => none) [] s₂ :=
    ⟨⟨_, hmain, fun x f e => (nomatch e), fun _ _ => rfl⟩, ⟨s₂.heap, s₂.toks, rfl⟩, fun _ _ _ _ e => e, hbs.keeps kp⟩
  rw [beh_body]
  refine wpAny_bind (wpAny_run (codeAny_body ann_body doc_body (top_run (F := h'.objs.size) ⟨rfl, ?_, ?_⟩ hB H rfl rfl rfl top_kf body_pos (by simp) fun s' l' H' => ?_)))
  · exact Nat.le_of_ble_eq_true rfl
  · exact Nat.le_of_ble_eq_true rfl
  · obtain ⟨mg, m1, m2, m3⟩ := H'.ex
    obtain ⟨h₃, t₃, e₃⟩ := H'.same
    refine wpAny_pure ⟨_, rfl, ⟨⟨mg, c, Pl, l', m1, m2, m3⟩, ⟨h₃, t₃, by rw [e₃, ← hs₂]⟩, fun b o hb e => ?_⟩, ?_⟩
    · exact H'.old b o (fun q => by rw [q, hnPl] at e; cases e) hb (kp b o e)
    · rw [e₃, ← hs₂]
      show leftWithCleanup s₀.gens = false
      rw [hg]; simp [leftWithCleanup]
end Mine
end
section
set_option maxRecDepth 20000
namespace Mine
open PySem PySem.Calls PyProof.Rows PySem.W

theorem bt_acc (P : Params) : (boot_heap P).accountedOkI (importedModules prg.main.body) = true := by kernel_rfl
theorem bt_view (P : Params) : (boot_heap P).bltView = bltViewBooted := by kernel_rfl
theorem bt_names (P : Params) : namesBound prg (boot_heap P) = true := by kernel_rfl
theorem bound_kf : kf.all (fun p => prg.boundNames.contains p.1) = true := by kernel_rfl
theorem fence_prg : ∀ s, fenceModules? prg s = some s := fun s => rfl
theorem open_prg : opening prg = plainProg prg.main.scope.names := by kernel_rfl
theorem laid_kf : laidNames.all (fun x => (Kf x).isNone) = true := by kernel_rfl
theorem foldK_mem {x : Str} {f : Fact} : ∀ {l : List (Str × Fact)} {K : Str → Option Fact}, foldK l K x = some f → (∃ p ∈ l, p.1 = x) ∨ K x = some f
  | [], K, h => .inr h
  | (y, g) :: r, K, h => by
    rcases foldK_mem (l := r) h with ⟨p, hp, e⟩ | h
    · exact .inl ⟨p, List.mem_cons_of_mem _ hp, e⟩
    · unfold updK at h
      by_cases q : x = y
      · exact .inl ⟨(y, g), by simp, q.symm⟩
      · rw [if_neg q] at h; exact .inr h
structure Stands (w : World) (s₀ s₁ : Shared) : Prop where
  ran : Ran w s₀ s₁
  top : TopRan prg w s₀ s₁
  gens : s₁.gens = #[]
  toks : s₀.toks ≤ s₁.toks
  asleep : s₁.asleep
theorem top_ran {w : World} {s₀ : Shared} (hh : s₀.heap = boot_heap w.params) (hg : s₀.gens = #[]) (hz : s₀.asleep) : ∃ s₁, Stands w s₀ s₁ := by
  obtain ⟨n, s₁, t₁, s₂, h1, h2, h3, h4, hR, hk⟩ := ends_through (p := prg) (w := w) (t := (topStub prg).cur) (s := s₀) (P := fun s' => Ran w s₀ s' ∧ s₀.toks ≤ s'.toks) hz
    (wpAny_mono (wpAny_toks_of (n := s₀.toks) (Nat.le_refl _) (top_runs w hh hg)) (fun fin s' hh => by
      obtain ⟨a, f, e, r, l⟩ := hh
      exact ⟨f, e, ⟨r, a⟩, l⟩) fun _ _ x => x.2)
  have hg₂ : s₂.gens = #[] := by obtain ⟨h, tk, e⟩ := hR.same; rw [e]; exact hg
  obtain rfl : s₁ = s₂ := Shared.eq_of_forget_eq h4 hg₂
  obtain ⟨mg, c, Pl, l, T⟩ := hR.ex
  have hos : s₁.os = s₀.os := by obtain ⟨h, tk, e⟩ := hR.same; rw [e]
  have hst : ∀ key, staticOf s₁.heap key = staticOf s₀.heap key := fun key => by
    have hi : s₀.heap.isNs cStatics = true := by rw [hh]; exact bt_sta _
    obtain ⟨o, es, ep, ho, _⟩ := Heap.Ns.of_isNs hi
    unfold staticOf
    rw [ho, hR.old cStatics o (by decide) ho]
  have hbl : ∀ x, builtinOf s₁.heap x = builtinOf s₀.heap x := fun key => by
    have hi : s₀.heap.isNs builtinsNs = true := by rw [hh]; exact bt_blt _
    obtain ⟨o, es, ep, ho, _⟩ := Heap.Ns.of_isNs hi
    unfold builtinOf
    rw [ho, hR.old builtinsNs o (by decide) ho]
  have hgl : ∀ x, globalOf s₁.heap x = mg x := fun x => PySem.Claim2Try.globalOf_of_ns T.main.g x
  have hgl₀ : ∀ x, globalOf s₀.heap x = (boot_heap w.params).nsMap mainGlobals x := fun x => by rw [hh]; exact Pin.globalOf_eq (bt_main _) x
  refine ⟨s₁, hR, ⟨⟨n, t₁, h1, h2⟩, h3, Shared.rest_eq hos, fun b o e hn => hR.old b o (fun q => hn (.inl q)) e, fun key v hv => ?_, fun key => .inl (hst key), PySem.Pin.keysAreStrs_of_ns T.main.g, fun x hx => ?_, ?_, fun g hgm => by rw [hg₂] at hgm; simp at hgm, fun x v hv => ?_, fun x hx => ?_⟩, hg₂, hk, Shared.asleep_of_life h3 hz⟩
  · rw [hst] at hv
    have := Heap.accountedI_of_ok (bt_acc w.params) key v (by rw [← hh]; exact hv)
    simpa only [hst, hh] using this
  · rw [hbl, hh]
    exact (Pin.builtinOf_eq (bt_blt _) x).trans (Heap.of_bltView (bt_blt _) (bt_view _) x hx)
  · obtain ⟨bm, o, b1, b2, b3, b4, b5, b6, b7, b8⟩ := T.main.bmod
    exact ⟨bm, o, (hgl _).trans b1, b5, b6, b7⟩
  · rw [hgl] at hv
    cases hK : Kf x with
    | some f =>
      rcases foldK_mem hK with ⟨p, hp, e⟩ | e
      · have := List.all_eq_true.mp bound_kf p hp
        rw [e] at this
        exact .inr (List.contains_iff_mem.mp this)
      · cases e
    | none =>
      rw [T.rest x hK, ← Pin.globalOf_eq (bt_main _)] at hv
      exact names_of_bound (bt_names w.params) x v hv
  · rw [hgl, hgl₀]
    exact T.rest x (Option.isNone_iff_eq_none.mp (List.all_eq_true.mp laid_kf x hx))
end Mine
end
section
set_option maxRecDepth 20000
namespace Mine
open PySem PySem.Calls PyProof.Rows PySem.W

noncomputable abbrev rwl := PySem.Challenge.rw_tc0072_01
noncomputable abbrev rwr : RowW := rwl.row.toRowW
theorem has_ints : ∀ {ds : List WData}, WShape.hasItems [] ds .int = true → ∃ xs : List Int, ds = xs.map .int
  | [], _ => ⟨[], rfl⟩
  | d :: r, h => by
    unfold WShape.hasItems at h
    obtain ⟨h1, h2⟩ := Bool.and_eq_true_iff.mp h
    obtain ⟨xs, rfl⟩ := has_ints h2
    cases d <;> first | (cases h1; done) | skip
    rename_i i
    exact ⟨i :: xs, rfl⟩
theorem pre_args {args : List WData} (h : rwr.claim.pre args = true) : ∃ xs : List Int, args = [.list (xs.map .int)] ∧ xs.length ≤ 63 := by
  have h : (WShape.hasAll [] args [.list .int] && rwl.pre.holds [] { args := args }) = true := h
  obtain ⟨h1, h2⟩ := Bool.and_eq_true_iff.mp h
  match args, h1 with
  | [d], h1 =>
    unfold WShape.hasAll at h1
    obtain ⟨h1, _⟩ := Bool.and_eq_true_iff.mp h1
    cases d with
    | list ds =>
      have h1' : (WShape.hasItems [] ds .int || false) = true := by unfold WShape.has at h1; exact h1
      rw [Bool.or_false] at h1'
      obtain ⟨xs, rfl⟩ := has_ints h1'
      refine ⟨xs, rfl, ?_⟩
      have hp : rwl.pre = .and (.not (.lt (.lit (.int 63)) (.len (.arg 0)))) (.lit (.bool true)) := rfl
      have h2 : WTm.holds [] rwl.pre { args := [.list (xs.map .int)] } = true := h2
      rw [hp] at h2
      unfold WTm.holds at h2
      by_cases hl : xs.length ≤ 63
      · exact hl
      · exfalso
        simp [WTm.value, less?] at h2
        have e : Num.less? (.int 63) (.int (xs.length : Int)) = some true := by
          show some (decide ((63 : Int) < (xs.length : Int))) = _
          rw [decide_eq_true (by omega)]
        rw [e] at h2
        simp at h2
    | _ => cases h1
  | d :: e :: r, h1 => 
    unfold WShape.hasAll at h1
    obtain ⟨_, h1⟩ := Bool.and_eq_true_iff.mp h1
    cases h1
theorem law_promised : rwr.promised := ⟨[.list []], by kernel_rfl, by kernel_rfl⟩
theorem reads_reps {W : World'} {cl : Str → Option Addr} {h : Heap} : ∀ {xs : List Int} {vs : List Value} {as : List Addr}, ReadsAllW [] cl h vs (xs.map .int) as → RepL W h Tr Fa vs (xs.map .int)
  | [], _, _, r => by cases r; exact .nil
  | x :: xs, _, _, r => by
    cases r with
    | cons a b => cases a; exact .cons (.int _ _) rfl (reads_reps b)
theorem the_law {d : DefRec} (h : recOf "law" = some d) : prg.theDef "law" = some (d.params, d.body, d.scope) ∧ d.name = "law" ∧ d.params.defaults = [] ∧ kwWritten? d.params.kwonlyargs d.params.kw_defaults = some [] ∧ (fdOf d).params.length = 1 := by
  have e : d = (recOf "law").get rfl := by simp [h]
  subst e
  exact ⟨by kernel_rfl, by kernel_rfl, by kernel_rfl, by kernel_rfl, by kernel_rfl⟩
end Mine
end
section
set_option maxRecDepth 20000
namespace Mine
open PySem PySem.Calls PyProof.Rows PySem.W

theorem pin_law {w : World} {s₀ s₁ : Shared} (S : Stands w s₀ s₁) : isTheDefsW prg s₁.heap "law" := by
  obtain ⟨mg, c, Pl, l, T⟩ := S.ran.ex
  obtain ⟨a, o, pm, code, doc, d, h1, h2, h3, h4, h5, h6⟩ := fa_of T (n := "law") (by decide +kernel)
  obtain ⟨t1, t2, t3, t4, _⟩ := the_law h6
  exact ⟨a, o, _, _, _, _, (PySem.Claim2Try.globalOf_of_ns T.main.g _).trans h2, h3, h4, t1, t2, t2, rfl, rfl, rfl, rfl, rfl, rfl, .inl ⟨t3, rfl⟩, [], t4, .inl ⟨rfl, rfl⟩⟩

theorem law_call (plain : ∀ xs : List Int, xs.length ≤ 63 → callF 6 "law" [.lst (xs.map .int)] = some (.bool true)) {w : World} {s₀ s₁ s₂ : Shared} (hh : s₀.heap = boot_heap w.params) (S : Stands w s₀ s₁) (ht : 0 < s₀.toks) (kp : Kp s₁.heap s₂.heap) (tk : s₁.toks ≤ s₂.toks)
    {xs : List Int} (hl : xs.length ≤ 63) {vs : List Value} {as : List Addr} {cl : Str → Option Addr} (hr : ReadsAllW [] cl s₂.heap vs [.list (xs.map .int)] as) {E : Value → Shared → Prop} {Q : Fin → Shared → Prop}
    (h : ∀ s', Keeps s₂ s' → Q (.done (.ret (.bool true))) s') :
    wpAny (model prg w) callerA (callStub "law" vs).cur Q E s₂ := by
  obtain ⟨mg, c, Pl, l, T⟩ := S.ran.ex
  obtain ⟨a, o, pm, code, doc, d, h1, h2, h3, h4, h5, h6⟩ := fa_of T (n := "law") (by decide +kernel)
  have hb : s₁.heap.Ns builtinsNs ((boot_heap w.params).nsMap builtinsNs) := by
    have hi : s₀.heap.Ns builtinsNs ((boot_heap w.params).nsMap builtinsNs) := by rw [hh]; exact Heap.Ns.of_isNs (bt_blt _)
    exact hi.at' fun o e => S.ran.old _ o (by decide) e
  have hlim : s₁.heap.NoLimit := by
    have hi : s₀.heap.Ns cStatics ((boot_heap w.params).nsMap cStatics) := by rw [hh]; exact Heap.Ns.of_isNs (bt_sta _)
    exact ⟨_, hi.at' fun o e => S.ran.old _ o (by decide) e, bt_lim _⟩
  have st₁ := stt_of T hb hlim (Nat.lt_of_lt_of_le ht S.toks)
  have st₂ : Stt (wOf w mg) mg _ s₂ := st₁.upH kp tk
  show wpAny (model prg w) callerA (do
    match ← nsGet mainNs "law" with
      | some f => do ret (← call f vs)
      | none => unsupported "claim.caller:no-such-global") _ _ _
  refine wpAny_bind (wpAny_nsGet (T.main.g.keeps kp) ?_)
  rw [h2]
  refine wpAny_bind ?_
  have hv : ∃ v, vs = [v] ∧ Rep (wOf w mg) s₂.heap Tr Fa v (.lst (xs.map .int)) := by
    cases hr with
    | cons r r' =>
      cases r'
      cases r with
      | list ho hc hd hr =>
        exact ⟨_, rfl, .lst (vs := _) ⟨_, ho, hc, _, by rw [hd]⟩ trivial (reads_reps hr)⟩
  obtain ⟨v, rfl, rv⟩ := hv
  refine call_ok (hg_of T) 6 "law" _ _ (plain xs hl) [v] a callerA s₂ Tr Fa ⟨rfl, Nat.le_of_ble_eq_true rfl, Nat.le_of_ble_eq_true rfl⟩ st₂ (fun _ _ => trivial) (.cons rv .nil) h1 E _ fun u s' k' r' => ?_
  have hu := rBool (r' (.inl rfl))
  subst hu
  exact wpAny_pure (h s' k'.keeps)
end Mine
end
section
set_option maxRecDepth 20000
namespace Mine
open PySem PySem.W
theorem ls_fence : (sreFenced rwl.prog.main && ((moduleNames rwl.prog.main.body).isEmpty || lookedIntoSs (moduleNames rwl.prog.main.body) rwl.prog.main.body)) = true := by kernel_rfl
theorem ls_res : namesResolve rwl.prog = true := by kernel_rfl
theorem ls_world : (rwl.prog.boundNames.all (fun n => !worldNames.contains n)) = true := by kernel_rfl
theorem ls_strict : (importedModules rwl.prog.main.body).all cThrough.contains = true := by kernel_rfl
theorem ls_vars : readsOut rwl.prog rwl.prog.main.body "vars" = false := by kernel_rfl
theorem ls_dir : readsOut rwl.prog rwl.prog.main.body "dir" = false := by kernel_rfl
theorem ls_locals : readsOut rwl.prog rwl.prog.main.body "locals" = false := by kernel_rfl
theorem ls_bare : (["vars", "dir", "locals"] : List Str).filter (readsOut rwl.prog rwl.prog.main.body) = [] := by
  rw [List.filter_cons_of_neg (by rw [ls_vars]; decide), List.filter_cons_of_neg (by rw [ls_dir]; decide), List.filter_cons_of_neg (by rw [ls_locals]; decide)]; rfl
theorem ls_road : noRoadLSs { strict := false, foot := none, bare := [] } rwl.prog.main.body = true := by kernel_rfl
theorem ls_road' : noRoadLSs { strict := !(importedModules rwl.prog.main.body).all cThrough.contains, foot := none, bare := (["vars", "dir", "locals"] : List Str).filter (readsOut rwl.prog rwl.prog.main.body) } rwl.prog.main.body = true := by
  rw [ls_bare, ls_strict]; exact ls_road
theorem ls_attr : (namesMeet rwl.prog rwl.prog.main.body fun _ n => attrL n) = true := by kernel_rfl
theorem ls_look : looksOpen rwl.row.prog = true := look_both (look_both (look_both (look_both ls_fence ls_res) ls_world) ls_road') ls_attr
theorem said_1 : rwl.footing.all footLine = true := by kernel_rfl
theorem said_2 : noClassBlock rwl.prog rwl.footing = true := by kernel_rfl
theorem said_3 : noRoadLSs { strict := true, foot := some rwl.bound', writes := rwl.writes, may := rwl.may } rwl.footing = true := by kernel_rfl
theorem said_4 : defStands rwl.about rwl.above = true := by kernel_rfl
theorem said_5 : rwl.namesIt = true := by kernel_rfl
theorem said_6 : ((["type", "isinstance", "issubclass", "getattr", "hasattr"] : List Str).all (fun n => rwl.about != [n])) = true := by kernel_rfl
theorem said_7 : (rwl.bound'.all fun n => !builtinNamed n || rwl.about == [n] || !rwl.reads n) = true := by kernel_rfl
theorem said_8 : (!rwl.writes || (List.flatMap importedNames rwl.prog.main.body).all fun n => !rwl.reads n) = true := by kernel_rfl
theorem said_9 : ((rwl.prog.main.body.flatMap importedNames).all (fun n => !rwl.reads n || (drawsOf n rwl.prog.main.body).all fun mn => mn.2 != ("attrgetter" : Str) && mn.2 != ("methodcaller" : Str))) = true := by kernel_rfl
theorem said_10 : (namesMeet rwl.prog rwl.footing (fun sc n => (!(["type", "isinstance", "issubclass", "getattr", "hasattr"] : List Str).contains n || sc.names.lookup n == some .globalImplicit) &&
    (rwl.may != some n || sc.kind == .module || sc.names.lookup n == some .globalImplicit))) = true := by kernel_rfl
theorem said_11 : rwl.own.contains rwl.name = true := by kernel_rfl
theorem said_17 : (rwl.own.eraseDups.length == rwl.own.length) = true := by kernel_rfl
theorem said_12 : (rwl.own.all (fun n => !builtinNamed n)) = true := by kernel_rfl
theorem said_13 : (namesMeet rwl.prog rwl.above (fun _ n => !rwl.own.contains n)) = true := by kernel_rfl
theorem said_14 : (namesMeet rwl.prog rwl.footing fun sc n => sc.kind == .module || sc.names.lookup n != some .globalExplicit) = true := by kernel_rfl
theorem said_15 : rwl.row.partSaid = true := by
  unfold OpenRow.partSaid
  repeat' with_reducible refine look_both ?_ ?_
  · exact ls_look
  all_goals decide +kernel
theorem said_16 : (rwl.row.prog.boundNames.contains rwl.row.name && !startupNames.contains rwl.row.name) = true := by kernel_rfl
theorem said_0 : rwl.row.wellSaid = true := by
  unfold OpenRow.wellSaid
  rw [Bool.and_assoc]
  exact look_both said_15 said_16
theorem law_said : rwl.wellSaid = true := by
  unfold OpenLaw.wellSaid
  repeat' with_reducible refine look_both ?_ ?_
  · exact said_0
  · decide +kernel
  · exact said_1
  · exact said_2
  · decide +kernel
  · decide +kernel
  · exact said_3
  · exact said_4
  · exact said_5
  · exact said_6
  · exact said_7
  · exact said_8
  · exact said_9
  · exact said_10
  · exact said_11
  · exact said_17
  · exact said_12
  · exact said_13
  · exact said_14
end Mine
end
section
set_option maxRecDepth 20000
namespace Mine
open PySem PySem.Calls PyProof.Rows PySem.W

theorem prg_bare : prg.bare := ⟨rfl, rfl, rfl, rfl, rfl, by kernel_rfl⟩
theorem prg_opens : opensWell prg = true := by kernel_rfl
theorem boot_life (w : World) : (boot_heap w.params).life = (boot_heap w.params).life := rfl

theorem all_stands (w : World) : (∃ s, AfterRun (opening prg) w s) ∧ ∀ s, AfterRun (opening prg) w s → ∃ s₀, fenceModules? prg s = some s₀ ∧ s₀.gens = #[] ∧ s₀.heap = boot_heap w.params ∧ 0 < s₀.toks ∧ ∃ s₁, Stands w s₀ s₁ := by
  have h := boot_open (p := prg) (N := 600) open_prg rfl fence_prg w
  rw [← table_eq_tree] at h
  obtain ⟨s₀, h2, e⟩ := Option.map_eq_some_iff.mp h
  obtain ⟨s, h4, h5⟩ := Option.bind_eq_some_iff.mp h2
  have A := AfterImport.of_importEnds h4
  simp only [Prod.mk.injEq] at e
  obtain ⟨e1, e2, e3, e4⟩ := e
  refine ⟨⟨s, A⟩, fun s' hs' => ?_⟩
  obtain rfl : s' = s := AfterImport.unique hs' A
  have z : s₀.asleep := Shared.asleep_of_life (fence_lifeW h5) A.life
  exact ⟨s₀, h5, e2, e1, by rw [e4]; exact bt_toks, top_ran e1 e2 z⟩

theorem post_true (args ds : List WData) : rwr.claim.post args (.bool true) ds = true := by
  show (WShape.has [] (.bool true) .bool && WTm.holds [] (.eq .res (.lit (.bool true))) { args := args, res := some (.bool true), after := ds }) = true
  have h1 : WShape.has [] (.bool true) .bool = true := by kernel_rfl
  rw [h1]
  simp [WTm.holds, WTm.value, same]
theorem lay_toks {R : WRecords} {cl : Str → Option Addr} {P : Params} {ord : List DictEntry → List DictEntry} : ∀ {xs : List Int} {s : Shared} {r : List Value × Shared}, layAllW R cl P ord (xs.map .int) s = some r → s.toks ≤ r.2.toks
  | [], s, r, h => by
    simp only [List.map_nil, layAllW] at h
    cases h; exact Nat.le_refl _
  | x :: xs, s, r, h => by
    simp only [List.map_cons, layAllW, layW] at h
    split at h <;> try (cases h; done)
    rename_i q hq
    cases h
    exact Nat.le_trans (Nat.le_succ _) (lay_toks hq)
theorem lay_toks1 {R : WRecords} {cl : Str → Option Addr} {P : Params} {ord : List DictEntry → List DictEntry} {xs : List Int} {s : Shared} {r : List Value × Shared} (h : layAllW R cl P ord [.list (xs.map .int)] s = some r) : s.toks ≤ r.2.toks := by
  simp only [layAllW, layW] at h
  cases hq : layAllW R cl P ord (xs.map .int) s with
  | none => rw [hq] at h; cases h
  | some q =>
    rw [hq] at h
    simp only at h
    cases h
    have z : s.toks ≤ q.2.toks := lay_toks hq
    exact z
theorem law_holds (plain : ∀ xs : List Int, xs.length ≤ 63 → callF 6 "law" [.lst (xs.map .int)] = some (.bool true)) : rwl.Holds := by
  refine holds_law law_said fun hs => ⟨hs, law_promised, ?_⟩
  refine ⟨⟨prg_bare, prg_opens, rfl⟩, law_promised.witness, fun w => ⟨(all_stands w).1, fun s hsr => ?_⟩⟩
  obtain ⟨s₀, hf, hg, hh, ht, s₁, S⟩ := (all_stands w).2 s hsr
  refine ⟨s₀, hf, hg, s₁, S.top, fun n hn => ?_, fun x hx => (nomatch hx), fun x hx => (nomatch hx), ?_⟩
  · have hn : n ∈ [("law" : Str)] := hn
    rw [List.mem_singleton] at hn
    subst hn
    exact pin_law S
  · refine ClaimW.callFrom_of_specG (c := rwr.claim) (tree := fun vs => (callStub "law" vs).cur) S.asleep S.gens fun args hpre hlay ord hord => ?_
    obtain ⟨xs, rfl, hl⟩ := pre_args hpre
    obtain ⟨⟨vs, s₂⟩, hlaid⟩ := Option.isSome_iff_exists.mp (layAllW_isSome (R := []) (cl := classAt s₁.heap) (P := w.params) (ord := ord) (fun c hc => (nomatch hc)) [.list (xs.map .int)] [.list .int] s₁ (by
      have : (WShape.hasAll [] [.list (xs.map .int)] [.list .int] && rwl.pre.holds [] { args := [.list (xs.map .int)] }) = true := hpre
      exact (Bool.and_eq_true_iff.mp this).1))
    have keeps := layAllW_keeps _ _ _ hlaid
    have hal := layAllW_rest _ _ _ hlaid
    obtain ⟨as, hrd, hin, hold⟩ := reads_layAllW hord _ _ _ hlaid hlay s₂.heap (fun _ _ e => e)
    have L : Laid [] w s₁ s₂ [.list (xs.map .int)] vs as := ⟨⟨ord, hord, hlaid⟩, hrd, hin, hold, keeps, hal.1.trans S.gens, hal.2.2.1⟩
    have htk : s₁.toks ≤ s₂.toks := lay_toks1 hlaid
    refine ⟨vs, s₂, hlaid, law_call plain hh S ht keeps htk hl hrd fun s' k => ⟨_, rfl, ?_⟩⟩
    obtain ⟨h', tk, e, kp⟩ := id k
    have g : GoodWG rwr.claim (classAt s₁.heap) (ExcName.means s₁.heap) [.list (xs.map .int)] s₂ (.ok (.ret (.bool true))) s' := by
      refine ⟨.inl ⟨.bool true, .bool true, [], rfl, fun cls => rfl, .bool _, post_true _ _, fun _ => ⟨.nil, fun a ha => (nomatch ha)⟩⟩, .of_keep (kKp k), by rw [e], by rw [e]; exact .of_eq L.gens⟩
    have z := g.laid (c := rwr.claim) rfl rfl (fun a b => ident_freeW (r := rwr) rfl rfl rfl a b) L
    exact ⟨z.1, z.2.1, z.2.2, fun q => (nomatch q)⟩
end Mine
end
theorem PySem.Challenge.cw_tc0072_01_holds : PySem.Challenge.rw_tc0072_01.Holds :=
  Mine.law_holds Mine.plain
