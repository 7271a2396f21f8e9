import PyProof.Rows.All
import Wide.All
import OpenK.AllK
import Wide.FinOn
import Lean
import PySem.Challenge.RW_ul0017_01
set_option Elab.async false
set_option genSizeOf false
set_option genInjectivity false
set_option backward.match.sparseCases false
set_option bootstrap.genMatcherCode false
set_option linter.all false
namespace Mine.Internal
open PySem PySem.W
inductive Ex2 {α β : Type} (P : α → β → Prop) : Prop
 | intro (a0 : α) (a1 : β) (h : P a0 a1)
inductive Ex3 {α β γ : Type} (P : α → β → γ → Prop) : Prop
 | intro (a0 : α) (a1 : β) (a2 : γ) (h : P a0 a1 a2)
inductive Ex4 {α β γ δ : Type} (P : α → β → γ → δ → Prop) : Prop
 | intro (a0 : α) (a1 : β) (a2 : γ) (a3 : δ) (h : P a0 a1 a2 a3)
inductive Ex5 {α β γ δ ε : Type} (P : α → β → γ → δ → ε → Prop) : Prop
 | intro (a0 : α) (a1 : β) (a2 : γ) (a3 : δ) (a4 : ε) (h : P a0 a1 a2 a3 a4)
inductive Ex6 {α β γ δ ε ζ : Type} (P : α → β → γ → δ → ε → ζ → Prop) : Prop
 | intro (a0 : α) (a1 : β) (a2 : γ) (a3 : δ) (a4 : ε) (a5 : ζ) (h : P a0 a1 a2 a3 a4 a5)
inductive Ex7 {α β γ δ ε ζ η : Type} (P : α → β → γ → δ → ε → ζ → η → Prop) : Prop
 | intro (a0 : α) (a1 : β) (a2 : γ) (a3 : δ) (a4 : ε) (a5 : ζ) (a6 : η) (h : P a0 a1 a2 a3 a4 a5 a6)
theorem Ex2.elim {α β : Type} {P : α → β → Prop} {q : Prop} (h : Ex2 P) (k : ∀ a b, P a b → q) : q := let ⟨a, b, h⟩ := h; k a b h
inductive V where
 | none | bool (b : Bool) | int (i : Int) | str (s : Str) | bytes (b : Array UInt8)
 | tup (xs : List V) | list (xs : List V) | lst (r : Nat)
 | typ (n : String) | blt (n : String) | glob (n : Str) | rng (lo hi st : Int)
 deriving Inhabited
abbrev Vars := List (Str × V)
abbrev Sto := List (List V)
noncomputable def M (α : Type) := Sto → Option (α × Sto)
noncomputable def M.pure {α : Type} (a : α) : M α := fun s => some (a, s)
noncomputable def M.bind {α β : Type} (m : M α) (f : α → M β) : M β := fun s => match m s with
 | Option.none => Option.none
 | some (a, s') => f a s'
noncomputable instance : Monad M where
 pure := M.pure
 bind := M.bind
noncomputable def M.fail {α : Type} : M α := fun _ => Option.none
noncomputable def M.of {α : Type} : Option α → M α
 | some a => M.pure a
 | Option.none => M.fail
noncomputable def M.look (r : Nat) : M (List V) := fun s => match s[r]? with
 | some xs => some (xs, s)
 | Option.none => Option.none
noncomputable def M.put (r : Nat) (xs : List V) : M Unit := fun s => some ((), s.set r xs)
noncomputable def M.new (xs : List V) : M V := fun s => some (.lst s.length, s ++ [xs])
inductive Fl where
 | next | ret (v : V)
 deriving Inhabited
structure Cfg where
 prog : Program
 muts : List Str
 b1 : List Int
 b3 : List (Int × Str)
 low : Str → Option Str
 ks : Bool
noncomputable def fnNamed (n : Str) (s : Stmt) : Option (Arguments × List Stmt × Scope) := match s with
 | .FunctionDef name a b _ _ _ sc _ _ _ => if name = n then some (a, b, sc) else Option.none
 | _ => Option.none
noncomputable def defOf (p : Program) (n : Str) : Option (Arguments × List Stmt × Scope) := p.main.body.findSome? (fnNamed n)
noncomputable def blts : List (Str × V) := [("len", .blt "len"), ("abs", .blt "abs"), ("divmod", .blt "divmod"), ("ord", .blt "ord"), ("chr", .blt "chr"), ("sum", .blt "sum"), ("sorted", .blt "sorted"), 
 ("isinstance", .blt "isinstance"), ("int", .typ "int"), ("range", .typ "range"), ("list", .typ "list"), ("bytes", .typ "bytes")]
noncomputable def globV (C : Cfg) (x : Str) : Option V :=
 if (defOf C.prog x).isSome || x == ("b1_set" : Str) || x == ("b3_exceptions" : Str) then some (.glob x) else blts.lookup x
structure En where
 names : List (Str × NameKind)
 vars : Vars
noncomputable def nameV (C : Cfg) (e : En) (x : Str) : Option V := if x == ("__debug__" : Str) || x == ("__classdict__" : Str) then Option.none else match e.names.lookup x with
 | some .local | some .cell | some .free => e.vars.lookup x
 | some .globalImplicit => globV C x
 | _ => Option.none
noncomputable def upd (x : Str) (v : V) : Vars → Vars
 | [] => [(x, v)]
 | (y, w) :: r => if y == x then (y, v) :: r else (y, w) :: upd x v r
noncomputable def storable (e : En) (x : Str) : Bool := match e.names.lookup x with
 | some .local | some .cell => true
 | _ => false
noncomputable def itemsOf (v : V) : M (List V) := match v with
 | .list xs => M.pure xs
 | .lst r => M.look r
 | _ => M.fail
noncomputable def one (c : Nat) : V := .str ⟨#[c]⟩
noncomputable def rangeItems (lo hi st : Int) : List V :=
 (List.range (Builtin.Range.rangeSize lo hi st).toNat).map fun (k : Nat) => V.int (lo + k * st)
noncomputable def iterOf (v : V) : M (List V × Option Nat) := match v with
 | .list xs => M.pure (xs, Option.none)
 | .lst r => do let xs ← M.look r; M.pure (xs, some r)
 | .bytes b => M.pure (b.toList.map fun u => V.int (Int.ofNat u.toNat), Option.none)
 | .rng a b c => if Builtin.Range.small a b c then M.pure (rangeItems a b c, Option.none) else M.fail
 | _ => M.fail
open Classical in
noncomputable def still (r : Option Nat) (all : List V) : M Unit := match r with
 | Option.none => M.pure ()
 | some r => do
  let xs ← M.look r
  if xs = all then M.pure () else M.fail
noncomputable def small (i : Int) : Bool := decide (i.natAbs < 2 ^ 256)
noncomputable def eqvs (f : V → V → Option Bool) : List V → List V → Option Bool
 | x :: xs, y :: ys => match f x y, eqvs f xs ys with
  | some p, some q => some (p && q)
  | _, _ => Option.none
 | _, _ => some true
noncomputable def eqA (a b : V) : Option Bool := match a with
 | .int a => (match b with | .int b => some (a == b) | _ => Option.none)
 | .str a => (match b with | .str b => some (a == b) | _ => Option.none)
 | _ => Option.none
noncomputable def eqv : Nat → V → V → Option Bool
 | 0, a, b => eqA a b
 | n + 1, a, b => match a with
  | .tup xs => (match b with | .tup ys => (eqvs (eqv n) xs ys).map (· && xs.length == ys.length) | _ => Option.none)
  | .list xs => (match b with | .list ys => (if xs.length == ys.length then eqvs (eqv n) xs ys else some false) | _ => Option.none)
  | .int i => eqA (.int i) b
  | .str i => eqA (.str i) b
  | _ => Option.none
noncomputable def frozen (v : V) : M V := match v with
 | .lst r => do let xs ← M.look r; M.pure (.list xs)
 | v => M.pure v
noncomputable def eqM (a b : V) : M Bool := do
 let a ← frozen a
 let b ← frozen b
 M.of (eqv 6 a b)
noncomputable def inList (x : V) : List V → M Bool
 | [] => M.pure false
 | y :: ys => do let p ← eqM y x; let q ← inList x ys; M.pure (p || q)
noncomputable def isM (a b : V) : Option Bool := match a with
 | .none => (match b with | .none => some true | .bool _ | .int _ => some false | _ => Option.none)
 | .bool a => (match b with | .bool b => some (a == b) | .none => some false | _ => Option.none)
 | .int _ | .str _ | .glob _ => (match b with | .none => some false | _ => Option.none)
 | _ => Option.none
noncomputable def intOf {α : Type} (v : V) (k : Int → M α) : M α := match v with
 | .int i => k i
 | _ => M.fail
noncomputable def strOf {α : Type} (v : V) (k : Str → M α) : M α := match v with
 | .str i => k i
 | _ => M.fail
noncomputable def bytesOf {α : Type} (v : V) (k : Array UInt8 → M α) : M α := match v with
 | .bytes i => k i
 | _ => M.fail
noncomputable def listOf {α : Type} (v : V) (k : List V → M α) : M α := match v with
 | .list i => k i
 | _ => M.fail
noncomputable def lstOf {α : Type} (v : V) (k : Nat → M α) : M α := match v with
 | .lst i => k i
 | _ => M.fail
noncomputable def globOf {α : Type} (v : V) (k : Str → M α) : M α := match v with
 | .glob i => k i
 | _ => M.fail
noncomputable def typOf {α : Type} (v : V) (k : String → M α) : M α := match v with
 | .typ i => k i
 | _ => M.fail
noncomputable def arg1 {α : Type} (l : List V) (k : V → M α) : M α := match l with
 | [x] => k x
 | _ => M.fail
noncomputable def arg2 {α : Type} (l : List V) (k : V → V → M α) : M α := match l with
 | [x, y] => k x y
 | _ => M.fail
noncomputable def inV (C : Cfg) (a b : V) : M Bool := match b with
 | .list xs => inList a xs
 | .lst r => do let xs ← itemsOf (.lst r); inList a xs
 | .glob n => intOf a fun i => if n == ("b1_set" : Str) then M.pure (C.b1.contains i) else M.fail
 | _ => M.fail
noncomputable def eqV (a b : V) : M Bool := match a with
 | .bytes a => bytesOf b fun b => M.pure (a.toList == b.toList)
 | a => eqM a b
noncomputable def cmpV (C : Cfg) (op : CmpOp) (a b : V) : M Bool := match op with
 | .Lt => intOf a fun a => intOf b fun b => M.pure (decide (a < b))
 | .Gt => intOf a fun a => intOf b fun b => M.pure (decide (a > b))
 | .Eq => eqV a b
 | .NotEq => do let r ← eqM a b; M.pure (!r)
 | .Is => M.of (isM a b)
 | .IsNot => do let r ← M.of (isM a b); M.pure (!r)
 | .In => inV C a b
 | .NotIn => do let r ← inV C a b; M.pure (!r)
 | _ => M.fail
noncomputable def addL (a b : V) : M V := do
  let xs ← itemsOf a
  let ys ← itemsOf b
  if xs.length + ys.length ≤ 65536 then M.pure (.list (xs ++ ys)) else M.fail
noncomputable def addV (a b : V) : M V := match a with
 | .int a => intOf b fun b => M.pure (.int (a + b))
 | .bytes a => bytesOf b fun b => if a.size + b.size ≤ 65536 then M.pure (.bytes (a ++ b)) else M.fail
 | .list xs => addL (.list xs) b
 | .lst r => addL (.lst r) b
 | _ => M.fail
noncomputable def mulV (a b : V) : M V := match a with
 | .int a => intOf b fun b => if small a && small b then M.pure (.int (a * b)) else M.fail
 | .list xs => intOf b fun n => if xs.length == 1 && 0 ≤ n && n ≤ 65536 then M.pure (.list (List.replicate n.toNat xs).flatten) else M.fail
 | _ => M.fail
noncomputable def binV (op : Operator) (a b : V) : M V := match op with
 | .Add => addV a b
 | .Sub => intOf a fun a => intOf b fun b => M.pure (.int (a - b))
 | .Mult => mulV a b
 | .FloorDiv => intOf a fun a => intOf b fun b => if small a && small b && b != 0 then M.pure (.int (a.fdiv b)) else M.fail
 | .Mod => intOf a fun a => intOf b fun b => if b != 0 then M.pure (.int (a.fmod b)) else M.fail
 | .Pow => intOf a fun a => intOf b fun b => if 0 ≤ b && b ≤ 256 && decide (a.natAbs ≤ 65536) then M.pure (.int (a ^ b.toNat)) else M.fail
 | _ => M.fail
noncomputable def unV (op : UnaryOp) (a : V) : M V := match op with
 | .USub => intOf a fun a => M.pure (.int (-a))
 | _ => M.fail
noncomputable def truthyV (v : V) : M Bool := match v with
 | .bool b => M.pure b
 | .int i => M.pure (i != 0)
 | _ => M.fail
noncomputable def cut {α : Type} (lo hi : Option Int) (xs : List α) : List α :=
 (xs.drop (lo.elim 0 (clipAt xs.length))).take (hi.elim xs.length (clipAt xs.length) - lo.elim 0 (clipAt xs.length))
noncomputable def optInt (v : V) : Option (Option Int) := match v with
 | .none => some Option.none
 | .int i => if decide (i.natAbs < 2 ^ 62) then some (some i) else Option.none
 | _ => Option.none
noncomputable def sliceN (v : V) (l h : Option Int) : M V := match v with
 | .list xs => if xs.length ≤ 65536 then M.pure (.list (cut l h xs)) else M.fail
 | .lst r => do let xs ← M.look r; if xs.length ≤ 65536 then M.pure (.list (cut l h xs)) else M.fail
 | .bytes b => if b.size ≤ 65536 then M.pure (.bytes (cut l h b.toList).toArray) else M.fail
 | _ => M.fail
noncomputable def sliceR (v : V) : M V := listOf v fun xs => if xs.length ≤ 65536 then M.pure (.list xs.reverse) else M.fail
noncomputable def sliceV (v lo hi st : V) : M V := do
 let l ← M.of (optInt lo)
 let h ← M.of (optInt hi)
 match st with
 | .none => sliceN v l h
 | .int i => if i == -1 && l.isNone && h.isNone then sliceR v else M.fail
 | _ => M.fail
noncomputable def itemAt (v : V) (i : Int) : M V := match v with
 | .list xs => M.of xs[i.toNat]?
 | .tup xs => M.of xs[i.toNat]?
 | .lst r => do let xs ← M.look r; M.of xs[i.toNat]?
 | _ => M.fail
noncomputable def indexV (v i : V) : M V := intOf i fun i => if 0 ≤ i && decide (i < 2 ^ 62) then itemAt v i else M.fail
noncomputable def putItem (v i x : V) : M Unit := lstOf v fun r => intOf i fun i => do
  let xs ← M.look r
  if 0 ≤ i && decide (i < xs.length) && xs.length ≤ 65536 then M.put r (xs.set i.toNat x) else M.fail
noncomputable def sumV : List V → Option Int
 | [] => some 0
 | .int i :: r => (sumV r).map (i + ·)
 | _ => Option.none
noncomputable def joinV : List V → Option (List Nat)
 | [] => some []
 | .str x :: r => (joinV r).map (x.cps.toList ++ ·)
 | _ => Option.none
noncomputable def insKey (k : Int) (v : V) : List (Int × V) → List (Int × V)
 | [] => [(k, v)]
 | (k', v') :: r => if k < k' then (k, v) :: (k', v') :: r else (k', v') :: insKey k v r
noncomputable def sortKeys (l : List (Int × V)) : List (Int × V) := l.foldl (fun acc p => insKey p.1 p.2 acc) []
noncomputable def lenV (v : V) : M V := match v with
  | .list xs => if xs.length ≤ 65536 then M.pure (.int xs.length) else M.fail
  | .lst r => do let xs ← itemsOf (.lst r); if xs.length ≤ 65536 then M.pure (.int xs.length) else M.fail
  | .bytes b => if b.size ≤ 65536 then M.pure (.int b.size) else M.fail
  | _ => M.fail
noncomputable def callB (n : String) (args : List V) : M V :=
 if n == "len" then arg1 args lenV
 else if n == "abs" then arg1 args fun v => intOf v fun i => M.pure (.int i.natAbs)
 else if n == "divmod" then arg2 args fun v w => intOf v fun a => intOf w fun b => if small a && small b && b != 0 then M.pure (.tup [.int (a.fdiv b), .int (a.fmod b)]) else M.fail
 else if n == "ord" then arg1 args fun v => strOf v fun x => if x.cps.size == 1 then M.pure (.int (x.cps.getD 0 0)) else M.fail
 else if n == "chr" then arg1 args fun v => intOf v fun i => if 0 ≤ i && i < 1114112 && !Str.isSurrogate i.toNat then M.pure (one i.toNat) else M.fail
 else if n == "sum" then arg1 args fun v => do let xs ← itemsOf v; let i ← M.of (sumV xs); M.pure (.int i)
 else if n == "isinstance" then arg2 args fun v w => typOf w fun t => bytesOf v fun _ => if t == "bytes" then M.pure (.bool true) else M.fail
 else M.fail
noncomputable def rngV (args : List V) : M V := match args with
 | [a] => intOf a fun h => M.pure (.rng 0 h 1)
 | [a, b] => intOf a fun l => intOf b fun h => M.pure (.rng l h 1)
 | [a, b, c] => intOf a fun l => intOf b fun h => intOf c fun st => if 0 < st && st < 1024 then M.pure (.rng l h st) else M.fail
 | _ => M.fail
noncomputable def rngOf {α : Type} (v : V) (k : Int → Int → Int → M α) : M α := match v with
 | .rng a b c => k a b c
 | _ => M.fail
noncomputable def callT (n : String) (args : List V) : M V :=
 if n == "int" then arg1 args fun v => intOf v fun i => M.pure (.int i)
 else if n == "range" then rngV args
 else if n == "list" then arg1 args fun v => rngOf v fun a b c => if c == 1 && decide ((b - a).toNat < 4096) && Builtin.Range.small a b c then M.pure (.list (rangeItems a b c)) else M.fail
 else M.fail
noncomputable def insertAt (i : Nat) (x : V) (xs : List V) : List V := xs.take i ++ x :: xs.drop i
noncomputable def mAppend (o : V) (args : List V) : M V := lstOf o fun r => arg1 args fun x => do
   let xs ← M.look r
   if xs.length < 65536 then do
    M.put r (xs ++ [x])
    M.pure .none
   else M.fail
noncomputable def mInsert (o : V) (args : List V) : M V := lstOf o fun r => arg2 args fun i x => intOf i fun i => do
   let xs ← M.look r
   if 0 ≤ i && decide (i ≤ xs.length) && xs.length < 65536 then do
    M.put r (insertAt i.toNat x xs)
    M.pure .none
   else M.fail
noncomputable def mPop (o : V) (args : List V) : M V := lstOf o fun r => arg1 args fun i => intOf i fun i => do
   let xs ← M.look r
   if 0 ≤ i && xs.length ≤ 65536 then do
    let v ← M.of xs[i.toNat]?
    M.put r (xs.eraseIdx i.toNat)
    M.pure v
   else M.fail
noncomputable def optStr (o : Option Str) : V := match o with | some x => .str x | Option.none => .none
noncomputable def eqN (n : Nat) (b : Int) : Bool := match b with | .ofNat m => Nat.beq m n | .negSucc _ => false
noncomputable def lookN (n : Nat) : List (Int × Str) → Option Str
 | [] => Option.none
 | p :: l => cond (eqN n p.1) (some p.2) (lookN n l)
noncomputable def lookI (l : List (Int × Str)) (i : Int) : Option Str := match i with | .ofNat n => lookN n l | .negSucc _ => l.lookup i
noncomputable def mGet (C : Cfg) (o : V) (args : List V) : M V := globOf o fun g => arg1 args fun i => intOf i fun i => if g == ("b3_exceptions" : Str) then M.pure (optStr (lookI C.b3 i)) else M.fail
noncomputable def isNil {α : Type} (l : List α) : Bool := match l with | [] => true | _ => false
noncomputable def mLower (C : Cfg) (o : V) (args : List V) : M V := strOf o fun x => if isNil args then do let y ← M.of (C.low x); M.pure (.str y) else M.fail
noncomputable def mJoin (o : V) (args : List V) : M V := strOf o fun x => arg1 args fun l => listOf l fun xs => if x.cps.size == 0 then do let y ← M.of (joinV xs); if y.length ≤ 65536 then M.pure (.str ⟨y.toArray⟩) else M.fail else M.fail
noncomputable def callMth (C : Cfg) (o : V) (n : Str) (args : List V) : M V :=
 if n == ("append" : Str) then mAppend o args
 else if n == ("insert" : Str) then mInsert o args
 else if n == ("pop" : Str) then mPop o args
 else if n == ("get" : Str) then mGet C o args
 else if n == ("lower" : Str) then mLower C o args
 else if n == ("join" : Str) then mJoin o args
 else M.fail
noncomputable def argNames (a : Arguments) : List Str := a.args.map (·.arg)
noncomputable def plainArgs (a : Arguments) : Bool := a.posonlyargs.isEmpty && a.vararg.isNone && a.kwonlyargs.isEmpty && a.kw_defaults.isEmpty && a.kwarg.isNone && a.defaults.isEmpty
noncomputable def isConst (c : Const) : Expr → Bool
 | .Constant c' _ _ => c == c'
 | _ => false
noncomputable def bisectArgs (a : Arguments) : Bool := a.posonlyargs.isEmpty && a.vararg.isNone && a.kwarg.isNone && argNames a == (["a", "x", "lo", "hi"] : List Str) && a.kwonlyargs.map (·.arg) == (["key"] : List Str) &&
 (match a.defaults with | [d, e] => isConst (.int 0) d && isConst .none e | _ => false) && (match a.kw_defaults with | [some d] => isConst .none d | _ => false)
noncomputable def binds5 (x y l h k : V) : Vars := [("a", x), ("x", y), ("lo", l), ("hi", h), ("key", k)]
noncomputable def bindK (x y : V) (n : Str) (v : V) : Option Vars := if n == ("key" : Str) then some (binds5 x y (.int 0) .none v) else if n == ("hi" : Str) then some (binds5 x y (.int 0) v .none) else Option.none
noncomputable def bindB (pos : List V) (kw : List (Str × V)) : Option Vars := match kw with
 | [] => (match pos with
  | [x, y] => some (binds5 x y (.int 0) .none .none)
  | [x, y, l] => some (binds5 x y l .none .none)
  | [x, y, l, h] => some (binds5 x y l h .none)
  | _ => Option.none)
 | [p] => (match pos with
  | [x, y] => bindK x y p.1 p.2
  | [x, y, l, h] => if p.1 == ("key" : Str) then some (binds5 x y l h p.2) else Option.none
  | _ => Option.none)
 | _ => Option.none
noncomputable def bindV (a : Arguments) (pos : List V) (kw : List (Str × V)) : Option Vars :=
 if plainArgs a then (if isNil kw && pos.length == (argNames a).length then some ((argNames a).zip pos) else Option.none)
 else if bisectArgs a then bindB pos kw
 else Option.none
structure Rec where
 ev : En → Expr → M V
 ts : En → Expr → M Bool
 ex : En → List Stmt → M (Fl × Vars)
 call : Str → List V → List (Str × V) → M V
 comp : En → Expr → List Comprehension → List V → Vars → List V → M (Vars × List V)
variable (C : Cfg) (r : Rec)
noncomputable def evs (e : En) : List Expr → M (List V)
 | [] => M.pure []
 | x :: xs => do let v ← r.ev e x; let vs ← evs e xs; M.pure (v :: vs)
noncomputable def evKw (e : En) : List Keyword → M (List (Str × V))
 | [] => M.pure []
 | ⟨some n, x, _⟩ :: xs => do let v ← r.ev e x; let vs ← evKw e xs; M.pure ((n, v) :: vs)
 | _ => M.fail
noncomputable def evO (e : En) : Option Expr → M V
 | Option.none => M.pure .none
 | some x => r.ev e x
noncomputable def stops (op : BoolOp) (b : Bool) : Bool := match op with | .And => !b | .Or => b
noncomputable def allT (e : En) (op : BoolOp) : List Expr → M Bool
 | [] => M.pure (op == .And)
 | x :: xs => do
  let b ← r.ts e x
  if stops op b then M.pure b else allT e op xs
noncomputable def isNotOp (op : UnaryOp) : Bool := match op with | .Not => true | _ => false
noncomputable def plainT (e : En) (x : Expr) : M Bool := do let v ← r.ev e x; truthyV v
noncomputable def only1 {α β : Type} (l : List α) (k : α → M β) : M β := match l with | [x] => k x | _ => M.fail
noncomputable def tsStep (e : En) (x : Expr) : M Bool := match x with
 | .UnaryOp op y p => if isNotOp op then (do let b ← r.ts e y; M.pure (!b)) else plainT r e (.UnaryOp op y p)
 | .BoolOp op vs _ => allT r e op vs
 | .IfExp .. => M.fail
 | .Compare l ops cs _ => only1 ops fun op => only1 cs fun c => do let a ← r.ev e l; let b ← r.ev e c; cmpV C op a b
 | x => plainT r e x
noncomputable def orElse (e : En) (op : BoolOp) : List Expr → M V
 | [] => M.fail
 | x :: xs => match xs with
  | [] => r.ev e x
  | y :: ys => do
   let v ← r.ev e x
   let b ← truthyV v
   if stops op b then M.pure v else orElse e op (y :: ys)
noncomputable def tests (e : En) : List Expr → M Bool
 | [] => M.pure true
 | x :: xs => do if ← r.ts e x then tests e xs else M.pure false
noncomputable def keysOf (f : Str) : List V → M (List (Int × V))
 | [] => M.pure []
 | v :: vs => do
  let k ← r.call f [v] []
  let ks ← keysOf f vs
  match k with
  | .int i => M.pure ((i, v) :: ks)
  | _ => M.fail
noncomputable def sortK (n : Str) (w : V) (b : String) (pos : List V) : M V :=
 if b == "sorted" && n == ("key" : Str) then globOf w fun f => arg1 pos fun l => listOf l fun xs => if xs.length < 64 then do let ks ← keysOf r f xs; M.pure (.list ((sortKeys ks).map (·.2))) else M.fail else M.fail
noncomputable def callV (f : V) (pos : List V) (kw : List (Str × V)) : M V := match f with
 | .glob n => if (defOf C.prog n).isSome then r.call n pos kw else M.fail
 | .blt b => match kw with
  | [] => callB b pos
  | [p] => sortK r p.1 p.2 b pos
  | _ => M.fail
 | .typ b => if isNil kw then callT b pos else M.fail
 | _ => M.fail
noncomputable def setName (e : En) (x : Str) (v : V) : M Vars := if storable e x then M.pure (upd x v e.vars) else M.fail
noncomputable def nameOfE : Expr → Option Str
 | .Name x _ => some x
 | _ => Option.none
noncomputable def setNames (names : List (Str × NameKind)) : List Expr → List V → Vars → M Vars
 | [], vs, vars => if isNil vs then M.pure vars else M.fail
 | t :: ts, vs, vars => match vs with
  | v :: vs => do let x ← M.of (nameOfE t); let vars ← setName ⟨names, vars⟩ x v; setNames names ts vs vars
  | [] => M.fail
noncomputable def unpackV (v : V) : M (List V) := match v with
 | .tup xs => M.pure xs
 | _ => M.fail
noncomputable def nodup : List Str → Bool
 | [] => true
 | x :: xs => !xs.contains x && nodup xs
noncomputable def setTo (e : En) (t : Expr) (v : V) : M Vars := match t with
 | .Name x _ => setName e x v
 | .Tuple ts _ _ => do
  if nodup (ts.filterMap nameOfE) then
   let vs ← unpackV v
   setNames e.names ts vs e.vars
  else M.fail
 | .Subscript o i _ => do
  let ov ← r.ev e o
  let iv ← r.ev e i
  putItem ov iv v
  M.pure e.vars
 | _ => M.fail
noncomputable def freshForm : Expr → Bool
 | .List .. | .ListComp .. => true
 | .BinOp _ .Add _ _ | .BinOp _ .Mult _ _ => true
 | .Subscript _ (.Slice ..) _ => true
 | _ => false
noncomputable def thawN (x : Str) (value : Expr) (v : V) : M V := match v with
 | .list xs => if C.muts.contains x && freshForm value then M.new xs else M.pure v
 | _ => M.pure v
noncomputable def thaw (t value : Expr) (v : V) : M V := match t with
 | .Name x _ => thawN C x value v
 | _ => M.pure v
noncomputable def compNames (sc : Scope) : List (Str × NameKind) := sc.names
noncomputable def compVars (e : En) (sc : Scope) : Vars := e.vars.filter fun p => sc.names.lookup p.1 == some .free
noncomputable def compItems (names : List (Str × NameKind)) (elt tgt : Expr) (ifs : List Expr) (gs : List Comprehension) (chk : Option Nat) (all : List V) : List V → Vars → List V → M (Vars × List V)
 | [], vars, acc => do still chk all; M.pure (vars, acc)
 | x :: xs, vars, acc => do
  still chk all
  let vars ← setTo r ⟨names, vars⟩ tgt x
  if ← tests r ⟨names, vars⟩ ifs then
   match gs with
   | [] => do
    let v ← r.ev ⟨names, vars⟩ elt
    if acc.length < 65536 then compItems names elt tgt ifs gs chk all xs vars (acc ++ [v]) else M.fail
   | g :: gs' => do
    if g.is_async == 0 then
     let it ← r.ev ⟨names, vars⟩ g.iter
     let _ ← iterOf it
     let (vars, acc) ← r.comp ⟨names, vars⟩ elt (g :: gs') [it] vars acc
     compItems names elt tgt ifs gs chk all xs vars acc
    else M.fail
  else compItems names elt tgt ifs gs chk all xs vars acc
noncomputable def compStep (e : En) (elt : Expr) (gs : List Comprehension) (it : List V) (vars : Vars) (acc : List V) : M (Vars × List V) := match gs, it with
 | g :: gs', [v] => do
  if g.is_async == 0 then
   let (xs, chk) ← iterOf v
   compItems r e.names elt g.target g.ifs gs' chk xs xs vars acc
  else M.fail
 | _, _ => M.fail
noncomputable def noDup (sc : Scope) : Bool := nodup (sc.names.map (·.1))
noncomputable def freeOk (e : En) (sc : Scope) : Bool := sc.names.all fun p => p.2 != .free || (match e.names.lookup p.1 with
 | some .cell | some .free => true
 | _ => false)
noncomputable def plainBase : Expr → Bool
 | .Name .. | .Constant .. => true
 | _ => false
noncomputable def constV (c : Const) : M V := match c with
 | .none => M.pure .none
 | .bool b => M.pure (.bool b)
 | .int i => M.pure (.int i)
 | .str s => M.pure (.str s)
 | .bytes b => M.pure (.bytes b.toArray)
 | _ => M.fail
noncomputable def unE (e : En) (op : UnaryOp) (y : Expr) : M V := do let v ← r.ev e y; unV op v
noncomputable def compE (e : En) (elt : Expr) (sc : Scope) (gs : List Comprehension) : M V := match gs with
  | g :: _ => do
   if noDup sc && sc.kind == .function && freeOk e sc && g.is_async == 0 then
    let it ← r.ev e g.iter
    let _ ← iterOf it
    let (_, acc) ← r.comp ⟨compNames sc, compVars e sc⟩ elt gs [it] (compVars e sc) []
    M.pure (.list acc)
   else M.fail
  | [] => M.fail
noncomputable def sliceParts (x : Expr) : Option (Option Expr × Option Expr × Option Expr) := match x with
 | .Slice lo hi st _ => some (lo, hi, st)
 | _ => Option.none
noncomputable def subE (e : En) (v i : Expr) (o : Option (Option Expr × Option Expr × Option Expr)) : M V := match o with
 | some p => do
  let o ← r.ev e v
  let l ← evO r e p.1
  let h ← evO r e p.2.1
  let s ← evO r e p.2.2
  sliceV o l h s
 | Option.none => do let o ← r.ev e v; let j ← r.ev e i; indexV o j
noncomputable def callE (e : En) (f : Expr) (args : List Expr) (kws : List Keyword) (p : Pos) : M V := match f with
 | .Attribute o n ap => if isNil kws && plainBase o && ap.endLine == p.line && args.length ≤ 8 then do
   let ov ← r.ev e o
   let vs ← evs r e args
   callMth C ov n vs
  else M.fail
 | .Name f fp => if args.length ≤ 8 && kws.length ≤ 2 then do
   let fv ← r.ev e (.Name f fp)
   let vs ← evs r e args
   let ks ← evKw r e kws
   callV C r fv vs ks
  else M.fail
 | _ => M.fail
noncomputable def evStep (e : En) (x : Expr) : M V := match x with
 | .Constant c _ _ => constV c
 | .Name x _ => M.of (nameV C e x)
 | .BoolOp op vs _ => orElse r e op vs
 | .BinOp l op rr _ => do let a ← r.ev e l; let b ← r.ev e rr; binV op a b
 | .UnaryOp op y _ => unE r e op y
 | .IfExp t a b _ => do if ← r.ts e t then r.ev e a else r.ev e b
 | .List es _ => do let vs ← evs r e es; if vs.length ≤ 65536 then M.pure (.list vs) else M.fail
 | .Tuple es _ _ => do let vs ← evs r e es; if vs.length ≤ 65536 then M.pure (.tup vs) else M.fail
 | .Compare l ops cs _ => only1 ops fun op => only1 cs fun c => do let a ← r.ev e l; let b ← r.ev e c; let t ← cmpV C op a b; M.pure (.bool t)
 | .ListComp elt gs sc _ => compE r e elt sc gs
 | .Subscript v i _ => subE r e v i (sliceParts i)
 | .Call f args kws p => callE C r e f args kws p
 | _ => M.fail
noncomputable def forItems (e : En) (tgt : Expr) (body : List Stmt) (chk : Option Nat) (all : List V) : List V → Vars → M (Fl × Vars)
 | [], vars => do still chk all; M.pure (.next, vars)
 | x :: xs, vars => do
  still chk all
  let vars ← setTo r ⟨e.names, vars⟩ tgt x
  let (f, vars) ← r.ex ⟨e.names, vars⟩ body
  match f with
  | .next => forItems e tgt body chk all xs vars
  | .ret v => M.pure (.ret v, vars)
noncomputable def whileN (e : En) (test : Expr) (body : List Stmt) : Nat → Vars → M (Fl × Vars)
 | 0, _ => M.fail
 | n + 1, vars => do
  if ← r.ts ⟨e.names, vars⟩ test then
   let (f, vars) ← r.ex ⟨e.names, vars⟩ body
   match f with
   | .next => whileN e test body n vars
   | .ret v => M.pure (.ret v, vars)
  else M.pure (.next, vars)
noncomputable def tupOf (x : Expr) : Option (List Expr) := match x with
 | .Tuple vs _ _ => some vs
 | _ => Option.none
noncomputable def otherComp (x : Expr) : Bool := match x with
 | .SetComp .. | .DictComp .. => true
 | _ => false
noncomputable def consOk (o : Option (List Expr)) : Bool := match o with
 | some vs => vs.all (foldedForSure 8) || !vs.all (constantsAlone 8)
 | Option.none => true
noncomputable def orderOk (t value : Expr) : Bool := !otherComp value && ((tupOf t).isNone || consOk (tupOf value))
noncomputable def isLC (x : Expr) : Bool := match x with
 | .ListComp .. => true
 | _ => false
noncomputable def isCallE (x : Expr) : Bool := match x with
 | .Call .. => true
 | _ => false
noncomputable def evV (e : En) (x : Expr) : M V := if isLC x then evStep C r e x else r.ev e x
noncomputable def exStep (e : En) (s : Stmt) : M (Fl × Vars) := match s with
 | .Expr v _ => if isCallE v then do let _ ← r.ev e v; M.pure (.next, e.vars) else M.fail
 | .Assign ts value _ => only1 ts fun t => if orderOk t value then do
   let v ← evV C r e value
   let v ← thaw C t value v
   let vars ← setTo r e t v
   M.pure (.next, vars)
  else M.fail
 | .Return o _ => match o with
  | some x => do let v ← r.ev e x; M.pure (.ret v, e.vars)
  | Option.none => M.fail
 | .If t a b _ => do if ← r.ts e t then r.ex e a else r.ex e b
 | .While t a b _ => if isNil b then whileN r e t a 4096 e.vars else M.fail
 | .For tgt it body b _ => if isNil b then do
  let v ← r.ev e it
  let (xs, chk) ← iterOf v
  forItems r e tgt body chk xs xs e.vars
  else M.fail
 | _ => M.fail
noncomputable def exAll (e : En) : List Stmt → M (Fl × Vars)
 | [] => M.pure (.next, e.vars)
 | s :: ss => do
  let (f, vars) ← exStep C r e s
  match f with
  | .next => exAll ⟨e.names, vars⟩ ss
  | .ret v => M.pure (.ret v, vars)
noncomputable def callStep (n : Str) (pos : List V) (kw : List (Str × V)) : M V := do
 let (a, body, sc) ← M.of (defOf C.prog n)
 if noDup sc && sc.kind == .function then
  let vars ← M.of (bindV a pos kw)
  if nodup (vars.map (·.1)) && vars.all (fun p => storable ⟨sc.names, []⟩ p.1) then
   let (f, _) ← r.ex ⟨sc.names, vars⟩ body
   match f with
   | .ret v => M.pure v
   | .next => M.pure .none
  else M.fail
 else M.fail
noncomputable def Rec.step : Rec := { ev := evStep C r, ts := tsStep C r, ex := exAll C r, call := callStep C r, comp := compStep r }
noncomputable def Rec.none : Rec := { ev := fun _ _ => M.fail, ts := fun _ _ => M.fail, ex := fun _ _ => M.fail, call := fun _ _ _ => M.fail, comp := fun _ _ _ _ _ _ => M.fail }
noncomputable def tie : Nat → Rec
 | 0 => Rec.none
 | n + 1 => (tie n).step C
noncomputable def Le {α : Type} (m m' : M α) : Prop := ∀ σ y, m σ = some y → m' σ = some y
theorem Le.refl {α : Type} (m : M α) : Le m m := fun _ _ h => h
theorem Le.bind {α β : Type} {m m' : M α} {f f' : α → M β} (h : Le m m') (hf : ∀ a, Le (f a) (f' a)) : Le (m >>= f) (m' >>= f') := by
 intro σ y e
 show M.bind m' f' σ = some y
 have e : M.bind m f σ = some y := e
 unfold M.bind at e ⊢
 cases h1 : m σ with
 | none => rw [h1] at e; cases e
 | some p =>
  rw [h1] at e
  rw [h σ p h1]
  exact hf _ _ _ e
theorem Le.ite {α : Type} {c : Prop} [Decidable c] {a a' b b' : M α} (h : Le a a') (k : Le b b') : Le (if c then a else b) (if c then a' else b') := by by_cases q : c <;> simp only [q, if_true, if_false] <;> assumption
theorem Le.only1 {α β : Type} {l : List α} {k k' : α → M β} (h : ∀ x, Le (k x) (k' x)) : Le (only1 l k) (only1 l k') := match l with
 | [] => .refl _
 | [x] => h x
 | _ :: _ :: _ => .refl _
structure RLe (r r' : Rec) : Prop where
 ev : ∀ e x, Le (r.ev e x) (r'.ev e x)
 ts : ∀ e x, Le (r.ts e x) (r'.ts e x)
 ex : ∀ e x, Le (r.ex e x) (r'.ex e x)
 call : ∀ f p k, Le (r.call f p k) (r'.call f p k)
 comp : ∀ e x g i v a, Le (r.comp e x g i v a) (r'.comp e x g i v a)
section
variable {C : Cfg} {r r' : Rec} (L : RLe r r')
include L
theorem evs_le (e : En) : ∀ xs, Le (evs r e xs) (evs r' e xs)
 | [] => .refl _
 | x :: xs => .bind (L.ev e x) fun v => .bind (evs_le e xs) fun vs => .refl _
theorem evKw_le (e : En) : ∀ xs, Le (evKw r e xs) (evKw r' e xs)
 | [] => .refl _
 | ⟨some n, x, _⟩ :: xs => .bind (L.ev e x) fun v => .bind (evKw_le e xs) fun vs => .refl _
 | ⟨none, x, _⟩ :: xs => .refl _
theorem evO_le (e : En) : ∀ x, Le (evO r e x) (evO r' e x)
 | none => .refl _
 | some x => L.ev e x
theorem allT_le (e : En) (op : BoolOp) : ∀ xs, Le (allT r e op xs) (allT r' e op xs)
 | [] => .refl _
 | x :: xs => .bind (L.ts e x) fun b => .ite (.refl _) (allT_le e op xs)
theorem plainT_le (e : En) (x : Expr) : Le (plainT r e x) (plainT r' e x) := .bind (L.ev _ _) fun _ => .refl _
theorem tsStep_le (e : En) (x : Expr) : Le (tsStep C r e x) (tsStep C r' e x) := by
 cases x with
 | UnaryOp => exact .ite (.bind (L.ts _ _) fun _ => .refl _) (plainT_le L _ _)
 | BoolOp => exact allT_le L e _ _
 | IfExp => exact .refl _
 | Compare => exact .only1 fun _ => .only1 fun _ => .bind (L.ev _ _) fun _ => .bind (L.ev _ _) fun _ => .refl _
 | _ => exact plainT_le L _ _
theorem orElse_le (e : En) (op : BoolOp) : ∀ xs, Le (orElse r e op xs) (orElse r' e op xs)
 | [] => .refl _
 | [x] => L.ev e x
 | x :: y :: xs => .bind (L.ev e x) fun v => .bind (.refl _) fun b => .ite (.refl _) (orElse_le e op (y :: xs))
theorem tests_le (e : En) : ∀ xs, Le (tests r e xs) (tests r' e xs)
 | [] => .refl _
 | x :: xs => .bind (L.ts e x) fun b => .ite (tests_le e xs) (.refl _)
theorem keysOf_le (f : Str) : ∀ xs, Le (keysOf r f xs) (keysOf r' f xs)
 | [] => .refl _
 | x :: xs => .bind (L.call _ _ _) fun _ => .bind (keysOf_le f xs) fun _ => .refl _
end
section
variable {C : Cfg} {r r' : Rec} (L : RLe r r')
include L
theorem sortK_le (n : Str) (w : V) (b : String) (pos : List V) : Le (sortK r n w b pos) (sortK r' n w b pos) := by
 refine .ite ?_ (.refl _)
 cases w with
 | glob f => match pos with
  | [] => exact .refl _
  | [l] => cases l with
   | list xs => exact .ite (.bind (keysOf_le L _ _) fun _ => .refl _) (.refl _)
   | _ => exact .refl _
  | _ :: _ :: _ => exact .refl _
 | _ => exact .refl _
theorem callV_le (f : V) (pos : List V) (kw : List (Str × V)) : Le (callV C r f pos kw) (callV C r' f pos kw) := by
 cases f with
 | glob => exact .ite (L.call _ _ _) (.refl _)
 | blt => cases kw with
  | nil => exact .refl _
  | cons p l => cases l with
   | nil => exact sortK_le L _ _ _ _
   | cons => exact .refl _
 | _ => exact .refl _
theorem setTo_le (e : En) (t : Expr) (v : V) : Le (setTo r e t v) (setTo r' e t v) := by
 cases t with
 | Subscript => exact .bind (L.ev _ _) fun _ => .bind (L.ev _ _) fun _ => .refl _
 | _ => exact .refl _
theorem compItems_le (names : List (Str × NameKind)) (elt tgt : Expr) (ifs : List Expr) (gs : List Comprehension) (chk : Option Nat) (all : List V) : ∀ xs vars acc, Le (compItems r names elt tgt ifs gs chk all xs vars acc) (compItems r' names elt tgt ifs gs chk all xs vars acc)
 | [], _, _ => .refl _
 | x :: xs, vars, acc => by
  refine .bind (.refl _) fun _ => .bind (setTo_le L _ _ _) fun vars => .bind (tests_le L _ _) fun b => .ite ?_ (compItems_le names elt tgt ifs gs chk all xs _ _)
  cases gs with
  | nil => exact .bind (L.ev _ _) fun v => .ite (compItems_le names elt tgt ifs [] chk all xs _ _) (.refl _)
  | cons g gs => exact .ite (.bind (L.ev _ _) fun _ => .bind (.refl _) fun _ => .bind (L.comp _ _ _ _ _ _) fun p => compItems_le names elt tgt ifs (g :: gs) chk all xs _ _) (.refl _)
end
section
variable {C : Cfg} {r r' : Rec} (L : RLe r r')
include L
theorem compStep_le (e : En) (elt : Expr) (gs : List Comprehension) (it : List V) (vars : Vars) (acc : List V) : Le (compStep r e elt gs it vars acc) (compStep r' e elt gs it vars acc) := by
 match gs, it with
 | [], _ => exact .refl _
 | _ :: _, [] => exact .refl _
 | _ :: _, [v] => exact .ite (.bind (.refl _) fun p => compItems_le L _ _ _ _ _ _ _ _ _ _) (.refl _)
 | _ :: _, _ :: _ :: _ => exact .refl _
theorem compE_le (e : En) (elt : Expr) (sc : Scope) (gs : List Comprehension) : Le (compE r e elt sc gs) (compE r' e elt sc gs) := by
 cases gs with
 | nil => exact .refl _
 | cons => exact .ite (.bind (L.ev _ _) fun _ => .bind (.refl _) fun _ => .bind (L.comp _ _ _ _ _ _) fun _ => .refl _) (.refl _)
theorem subE_le (e : En) (v i : Expr) (o : Option (Option Expr × Option Expr × Option Expr)) : Le (subE r e v i o) (subE r' e v i o) := by
 cases o with
 | none => exact .bind (L.ev _ _) fun _ => .bind (L.ev _ _) fun _ => .refl _
 | some => exact .bind (L.ev _ _) fun _ => .bind (evO_le L _ _) fun _ => .bind (evO_le L _ _) fun _ => .bind (evO_le L _ _) fun _ => .refl _
theorem callE_le (e : En) (f : Expr) (args : List Expr) (kws : List Keyword) (p : Pos) : Le (callE C r e f args kws p) (callE C r' e f args kws p) := by
 cases f with
 | Attribute => exact .ite (.bind (L.ev _ _) fun _ => .bind (evs_le L _ _) fun _ => .refl _) (.refl _)
 | Name => exact .ite (.bind (L.ev _ _) fun _ => .bind (evs_le L _ _) fun _ => .bind (evKw_le L _ _) fun _ => callV_le L _ _ _) (.refl _)
 | _ => exact .refl _
theorem evStep_le (e : En) (x : Expr) : Le (evStep C r e x) (evStep C r' e x) := by
 cases x with
 | BoolOp => exact orElse_le L _ _ _
 | IfExp => exact .bind (L.ts _ _) fun b => .ite (L.ev _ _) (L.ev _ _)
 | BinOp => exact .bind (L.ev _ _) fun _ => .bind (L.ev _ _) fun _ => .refl _
 | UnaryOp => exact .bind (L.ev _ _) fun _ => .refl _
 | List => exact .bind (evs_le L _ _) fun _ => .refl _
 | Tuple => exact .bind (evs_le L _ _) fun _ => .refl _
 | Compare => exact .only1 fun _ => .only1 fun _ => .bind (L.ev _ _) fun _ => .bind (L.ev _ _) fun _ => .refl _
 | ListComp => exact compE_le L _ _ _ _
 | Subscript => exact subE_le L _ _ _ _
 | Call => exact callE_le L _ _ _ _ _
 | _ => exact .refl _
end
section
variable {C : Cfg} {r r' : Rec} (L : RLe r r')
include L
theorem forItems_le (e : En) (tgt : Expr) (body : List Stmt) (chk : Option Nat) (all : List V) : ∀ xs vars, Le (forItems r e tgt body chk all xs vars) (forItems r' e tgt body chk all xs vars)
 | [], _ => .refl _
 | x :: xs, vars => .bind (.refl _) fun _ => .bind (setTo_le L _ _ _) fun vars => .bind (L.ex _ _) fun (f, vars) => match f with
  | .next => forItems_le e tgt body chk all xs _
  | .ret _ => .refl _
theorem whileN_le (e : En) (test : Expr) (body : List Stmt) : ∀ n vars, Le (whileN r e test body n vars) (whileN r' e test body n vars)
 | 0, _ => .refl _
 | n + 1, vars => .bind (L.ts _ _) fun b => .ite (.bind (L.ex _ _) fun (f, vars) => match f with
  | .next => whileN_le e test body n _
  | .ret _ => .refl _) (.refl _)
theorem evV_le (e : En) (x : Expr) : Le (evV C r e x) (evV C r' e x) := .ite (evStep_le L _ _) (L.ev _ _)
theorem exStep_le (e : En) (s : Stmt) : Le (exStep C r e s) (exStep C r' e s) := by
 cases s with
 | Expr => exact .ite (.bind (L.ev _ _) fun _ => .refl _) (.refl _)
 | Assign => exact .only1 fun _ => .ite (.bind (evV_le L _ _) fun _ => .bind (.refl _) fun _ => .bind (setTo_le L _ _ _) fun _ => .refl _) (.refl _)
 | Return o => cases o with
  | none => exact .refl _
  | some => exact .bind (L.ev _ _) fun _ => .refl _
 | If => exact .bind (L.ts _ _) fun b => .ite (L.ex _ _) (L.ex _ _)
 | While => exact .ite (whileN_le L _ _ _ _ _) (.refl _)
 | For => exact .ite (.bind (L.ev _ _) fun _ => .bind (.refl _) fun p => forItems_le L _ _ _ _ _ _ _) (.refl _)
 | _ => exact .refl _
theorem exAll_le : ∀ (ss : List Stmt) (e : En), Le (exAll C r e ss) (exAll C r' e ss)
 | [], _ => .refl _
 | s :: ss, e => .bind (exStep_le L _ _) fun (f, vars) => match f with
  | .next => exAll_le ss _
  | .ret _ => .refl _
theorem callStep_le (n : Str) (pos : List V) (kw : List (Str × V)) : Le (callStep C r n pos kw) (callStep C r' n pos kw) :=
 .bind (.refl _) fun (_, _, _) => .ite (.bind (.refl _) fun vars => .ite (.bind (L.ex _ _) fun p => .refl _) (.refl _)) (.refl _)
theorem step_le : RLe (r.step C) (r'.step C) := ⟨fun _ _ => evStep_le L _ _, fun _ _ => tsStep_le L _ _, fun _ _ => exAll_le L _ _, fun _ _ _ => callStep_le L _ _ _, fun _ _ _ _ _ _ => compStep_le L _ _ _ _ _ _⟩
end
theorem Le.trans {α : Type} {a b c : M α} (h : Le a b) (k : Le b c) : Le a c := fun σ y e => k σ y (h σ y e)
theorem RLe.trans {a b c : Rec} (h : RLe a b) (k : RLe b c) : RLe a c :=
 ⟨fun e x => (h.ev e x).trans (k.ev e x), fun e x => (h.ts e x).trans (k.ts e x), fun e x => (h.ex e x).trans (k.ex e x), fun f p q => (h.call f p q).trans (k.call f p q), fun e x g i v y => (h.comp e x g i v y).trans (k.comp e x g i v y)⟩
theorem RLe.refl (r : Rec) : RLe r r := ⟨fun _ _ => .refl _, fun _ _ => .refl _, fun _ _ => .refl _, fun _ _ _ => .refl _, fun _ _ _ _ _ _ => .refl _⟩
theorem none_le (r : Rec) : RLe Rec.none r := ⟨fun _ _ _ _ h => (nomatch h), fun _ _ _ _ h => (nomatch h), fun _ _ _ _ h => (nomatch h), fun _ _ _ _ _ h => (nomatch h), fun _ _ _ _ _ _ _ _ h => (nomatch h)⟩
theorem tie_le (C : Cfg) : ∀ n, RLe (tie C n) (tie C (n + 1))
 | 0 => none_le _
 | n + 1 => step_le (tie_le C n)
theorem tie_mono (C : Cfg) {n m : Nat} (h : n ≤ m) : RLe (tie C n) (tie C m) := by
 induction h with
 | refl => exact .refl _
 | step _ ih => exact ih.trans (tie_le C _)
end Mine.Internal
namespace Mine.Internal
open PySem PyProof.Rows
structure Cx where
 cfg : Cfg
 w : World
 h₀ : Heap
 mg : Str → Option Value
 mb : Str → Option Value
 os : OsState
 hid : Addr → Prop
noncomputable def PL (h : Heap) (a : Addr) (vs : List Value) : Prop := ∃ n, h.get? a = some { cls := .type "list", dict := none, data := .seq vs.toArray n, slots := #[] }
noncomputable def PT (h : Heap) (a : Addr) (vs : List Value) : Prop := ∃ n, h.get? a = some { cls := .type "tuple", dict := none, data := .seq vs.toArray n, slots := #[] }
theorem PL.isList {h : Heap} {a : Addr} {vs : List Value} (p : PL h a vs) : h.IsList a vs.toArray := let ⟨n, e⟩ := p; ⟨_, e, rfl, n, rfl⟩
theorem PT.isTuple {h : Heap} {a : Addr} {vs : List Value} (p : PT h a vs) : h.IsTuple a vs.toArray := let ⟨n, e⟩ := p; ⟨_, e, rfl, n, rfl⟩
noncomputable def Off (C : Cx) (ρ : List Addr) (a : Addr) : Prop := a ∉ ρ ∧ ¬ C.hid a
mutual
noncomputable def R (C : Cx) (ρ : List Addr) (h : Heap) : V → Value → Prop
 | .none, v => v = .none
 | .bool b, v => v = .bool b
 | .int i, v => ∃ t, v = .int i t
 | .str x, v => ∃ t, v = .str x t
 | .bytes b, v => ∃ t, v = .bytes b t
 | .tup xs, v => Ex2 fun a vs => v = .ref a ∧ PT h a vs ∧ Off C ρ a ∧ Rs C ρ h xs vs
 | .list xs, v => Ex2 fun a vs => v = .ref a ∧ PL h a vs ∧ Off C ρ a ∧ Rs C ρ h xs vs
 | .lst r, v => ∃ a, v = .ref a ∧ ρ[r]? = some a
 | .typ n, v => v = .type n
 | .blt n, v => v = .builtin n
 | .glob n, v => ∃ a, v = .ref a ∧ C.mg n = some (.ref a)
 | .rng lo hi st, v => Ex4 fun a t u w => v = .ref a ∧ IsRange h a lo hi st t u w ∧ Off C ρ a
noncomputable def Rs (C : Cx) (ρ : List Addr) (h : Heap) : List V → List Value → Prop
 | [], vs => vs = []
 | x :: xs, vs => Ex2 fun v vs' => vs = v :: vs' ∧ R C ρ h x v ∧ Rs C ρ h xs vs'
end
noncomputable def Solid (o : Obj) : Prop := (match o.data with
 | .dict .. | .cell .. => False
 | _ => True) ∧ (o.cls = .type "list" ∨ o.cls = .type "tuple" ∨ o.cls = .type "range")
structure Grow (C : Cx) (ρ ρ' : List Addr) (h h' : Heap) : Prop where
 grow : ∃ new, ρ' = ρ ++ new ∧ ∀ a ∈ new, h.get? a = none
 keep : ∀ b o, Off C ρ b → Solid o → h.get? b = some o → h'.get? b = some o
theorem notIn_grow {ρ ρ' : List Addr} {h : Heap} (g : ∃ new, ρ' = ρ ++ new ∧ ∀ a ∈ new, h.get? a = none) {a : Addr} {o : Obj} (ha : a ∉ ρ) (ho : h.get? a = some o) : a ∉ ρ' := by
 obtain ⟨new, rfl, hn⟩ := g
 intro hm
 rcases List.mem_append.mp hm with hm | hm
 ·exact ha hm
 ·rw [hn a hm] at ho; cases ho
theorem Grow.notIn {C : Cx} {ρ ρ' : List Addr} {h h' : Heap} (g : Grow C ρ ρ' h h') {a : Addr} {o : Obj} (ha : a ∉ ρ) (ho : h.get? a = some o) : a ∉ ρ' := notIn_grow g.grow ha ho
theorem Grow.off {C : Cx} {ρ ρ' : List Addr} {h h' : Heap} (g : Grow C ρ ρ' h h') {a : Addr} {o : Obj} (ha : Off C ρ a) (ho : h.get? a = some o) : Off C ρ' a := ⟨g.notIn ha.1 ho, ha.2⟩
mutual
theorem R.mono {C : Cx} {ρ ρ' : List Addr} {h h' : Heap} (g : Grow C ρ ρ' h h') : ∀ {x : V} {v : Value}, R C ρ h x v → R C ρ' h' x v
 | .none, _, r => r
 | .bool _, _, r => r
 | .int _, _, r => r
 | .str _, _, r => r
 | .bytes _, _, r => r
 | .typ _, _, r => r
 | .blt _, _, r => r
 | .glob _, _, r => r
 | .tup xs, v, r => by
  show Ex2 fun _ _ => _
  obtain ⟨a, vs, rfl, ⟨n, ho⟩, hn, hr⟩ := r
  exact ⟨a, vs, rfl, ⟨n, g.keep a _ hn (by simp [Solid]) ho⟩, g.off hn ho, Rs.mono g hr⟩
 | .list xs, v, r => by
  show Ex2 fun _ _ => _
  obtain ⟨a, vs, rfl, ⟨n, ho⟩, hn, hr⟩ := r
  exact ⟨a, vs, rfl, ⟨n, g.keep a _ hn (by simp [Solid]) ho⟩, g.off hn ho, Rs.mono g hr⟩
 | .lst r, v, hr => by
  show ∃ _, _
  obtain ⟨a, rfl, ha⟩ := hr
  obtain ⟨new, rfl, _⟩ := g.grow
  refine ⟨a, rfl, ?_⟩
  have := (List.getElem?_eq_some_iff.mp ha).1
  rw [List.getElem?_append_left this]; exact ha
 | .rng lo hi st, v, r => by
  show Ex4 fun _ _ _ _ => _
  obtain ⟨a, t, u, w, rfl, hr, hn⟩ := r
  exact ⟨a, t, u, w, rfl, g.keep a _ hn (by simp [Solid]) hr, g.off hn hr⟩
theorem Rs.mono {C : Cx} {ρ ρ' : List Addr} {h h' : Heap} (g : Grow C ρ ρ' h h') : ∀ {xs : List V} {vs : List Value}, Rs C ρ h xs vs → Rs C ρ' h' xs vs
 | [], _, r => r
 | x :: xs, vs, r => by
  show Ex2 fun _ _ => _
  obtain ⟨v, vs', rfl, h1, h2⟩ := r
  exact ⟨v, vs', rfl, R.mono g h1, Rs.mono g h2⟩
end
structure Rel (C : Cx) (ρ : List Addr) (σ : Sto) (h : Heap) : Prop where
 len : ρ.length = σ.length
 nodup : ρ.Nodup
 new : ∀ a ∈ ρ, C.h₀.get? a = none
 at_ : ∀ (i : Nat) (a : Addr) (xs : List V), ρ[i]? = some a → σ[i]? = some xs → ∃ vs, PL h a vs ∧ Rs C ρ h xs vs
 base : ∀ b o, C.h₀.get? b = some o → h.get? b = some o
 hid : ∀ a, C.hid a → ∃ o, h.get? a = some o
theorem Rel.alive {C : Cx} {ρ : List Addr} {σ : Sto} {h : Heap} (r : Rel C ρ σ h) {a : Addr} (ha : a ∈ ρ) : ∃ o, h.get? a = some o := by
 obtain ⟨i, hi, rfl⟩ := List.getElem_of_mem ha
 have hi' : i < σ.length := r.len ▸ hi
 obtain ⟨vs, ⟨n, ho⟩, _⟩ := r.at_ i _ σ[i] (List.getElem?_eq_getElem hi) (List.getElem?_eq_getElem hi')
 exact ⟨_, ho⟩
structure St (C : Cx) (ρ : List Addr) (σ : Sto) (s : Shared) : Prop where
 rel : Rel C ρ σ s.heap
 gens : s.gens = #[]
 os : s.os = C.os
structure Tr (X : Addr → Prop) (ρ ρ' : List Addr) (h h' : Heap) : Prop where
 grow : ∃ new, ρ' = ρ ++ new ∧ ∀ a ∈ new, h.get? a = none
 keep : ∀ b o, ¬ X b → b ∉ ρ → h.get? b = some o → h'.get? b = some o
noncomputable def Nox : Addr → Prop := fun _ => False
theorem Tr.refl (X : Addr → Prop) (ρ : List Addr) (h : Heap) : Tr X ρ ρ h h := ⟨⟨[], by simp, by simp⟩, fun _ _ _ _ e => e⟩
theorem Tr.toGrow {C : Cx} {ρ ρ' : List Addr} {h h' : Heap} {X : Addr → Prop} (t : Tr X ρ ρ' h h') (hX : ∀ b o, X b → ¬ C.hid b → h.get? b = some o → ¬ Solid o) : Grow C ρ ρ' h h' :=
 ⟨t.grow, fun b o hb hs ho => t.keep b o (fun x => hX b o x hb.2 ho hs) hb.1 ho⟩
theorem Tr.toGrow0 {C : Cx} {ρ ρ' : List Addr} {h h' : Heap} (t : Tr Nox ρ ρ' h h') : Grow C ρ ρ' h h' := t.toGrow fun _ _ x => x.elim
theorem Tr.weak {X Y : Addr → Prop} {ρ ρ' : List Addr} {h h' : Heap} (t : Tr X ρ ρ' h h') (hXY : ∀ a, X a → Y a) : Tr Y ρ ρ' h h' :=
 ⟨t.grow, fun b o hb => t.keep b o (fun x => hb (hXY b x))⟩
theorem Tr.trans {X : Addr → Prop} {ρ ρ₁ ρ₂ : List Addr} {h h₁ h₂ : Heap} (t₁ : Tr X ρ ρ₁ h h₁) (t₂ : Tr X ρ₁ ρ₂ h₁ h₂)
  (hX : ∀ b, X b → ∃ o, h₁.get? b = some o) (hρ : ∀ b ∈ ρ, ∃ o, h₁.get? b = some o) : Tr X ρ ρ₂ h h₂ := by
 obtain ⟨n1, rfl, f1⟩ := t₁.grow
 obtain ⟨n2, rfl, f2⟩ := t₂.grow
 refine ⟨⟨n1 ++ n2, by rw [List.append_assoc], fun a ha => ?_⟩, fun b o hb hρb e => t₂.keep b o hb ?_ (t₁.keep b o hb hρb e)⟩
 ·rcases List.mem_append.mp ha with ha | ha
  ·exact f1 a ha
  ·cases e : h.get? a with
   | none => rfl
   | some o =>
    have e2 := f2 a ha
    by_cases hx : X a
    ·obtain ⟨o', e'⟩ := hX a hx; rw [e2] at e'; cases e'
    ·by_cases hr : a ∈ ρ
     ·obtain ⟨o', e'⟩ := hρ a hr; rw [e2] at e'; cases e'
     ·rw [t₁.keep a o hx hr e] at e2; cases e2
 ·intro hm
  rcases List.mem_append.mp hm with hm | hm
  ·exact hρb hm
  ·rw [f1 b hm] at e; cases e
theorem St.aliveOf {C : Cx} {ρ ρ₁ : List Addr} {σ : Sto} {s : Shared} {h : Heap} {X : Addr → Prop} (x : St C ρ₁ σ s) (t : Tr X ρ ρ₁ h s.heap) : ∀ b ∈ ρ, ∃ o, s.heap.get? b = some o := fun b hb => by
 obtain ⟨n, rfl, _⟩ := t.grow
 exact x.rel.alive (List.mem_append_left _ hb)
theorem Tr.then {C : Cx} {ρ ρ₁ ρ₂ : List Addr} {σ : Sto} {h h₂ : Heap} {s : Shared} (t₁ : Tr Nox ρ ρ₁ h s.heap) (x : St C ρ₁ σ s) (t₂ : Tr Nox ρ₁ ρ₂ s.heap h₂) : Tr Nox ρ ρ₂ h h₂ :=
 t₁.trans t₂ (fun _ x => x.elim) (x.aliveOf t₁)
theorem Rel.keeps {C : Cx} {ρ : List Addr} {σ : Sto} {h h' : Heap} (r : Rel C ρ σ h) (hk : ∀ b o, h.get? b = some o → h'.get? b = some o) : Rel C ρ σ h' := by
 have g : Grow C ρ ρ h h' := ⟨⟨[], by simp, by simp⟩, fun b o _ _ e => hk b o e⟩
 exact ⟨r.len, r.nodup, r.new, fun i a xs ha hx => let ⟨vs, ⟨n, ho⟩, hr⟩ := r.at_ i a xs ha hx; ⟨vs, ⟨n, hk a _ ho⟩, hr.mono g⟩, fun b o e => hk b o (r.base b o e), fun a ha => let ⟨o, e⟩ := r.hid a ha; ⟨o, hk a o e⟩⟩
theorem Tr.ofKeeps {X : Addr → Prop} {ρ : List Addr} {h h' : Heap} (hk : ∀ b o, h.get? b = some o → h'.get? b = some o) : Tr X ρ ρ h h' := ⟨⟨[], by simp, by simp⟩, fun b o _ _ e => hk b o e⟩
theorem Grow.sameBut {C : Cx} {ρ : List Addr} {h h' : Heap} {a : Addr} (hk : ∀ b o, b ≠ a → h.get? b = some o → h'.get? b = some o) (hs : ∀ o, ¬ C.hid a → h.get? a = some o → ¬ Solid o) : Grow C ρ ρ h h' :=
 ⟨⟨[], by simp, by simp⟩, fun b o hb hS e => hk b o (fun q => by subst q; exact hs o hb.2 e hS) e⟩
theorem Rel.sameBut {C : Cx} {ρ : List Addr} {σ : Sto} {h h' : Heap} {a : Addr} (r : Rel C ρ σ h) (hk : ∀ b o, b ≠ a → h.get? b = some o → h'.get? b = some o) (ha : a ∉ ρ) (hs : ∀ o, ¬ C.hid a → h.get? a = some o → ¬ Solid o)
  (h0 : C.h₀.get? a = none) (hal : C.hid a → ∃ o, h'.get? a = some o) : Rel C ρ σ h' := by
 have g : Grow C ρ ρ h h' := Grow.sameBut hk hs
 refine ⟨r.len, r.nodup, r.new, fun i b xs hb hx => ?_, fun b o e => hk b o (fun q => by subst q; rw [h0] at e; cases e) (r.base b o e), fun b hb => ?_⟩
 ·obtain ⟨vs, ⟨n, ho⟩, hr⟩ := r.at_ i b xs hb hx
  exact ⟨vs, ⟨n, hk b _ (fun q => ha (q ▸ List.mem_of_getElem? hb)) ho⟩, hr.mono g⟩
 ·by_cases q : b = a
  ·subst q; exact hal hb
  ·obtain ⟨o, e⟩ := r.hid b hb; exact ⟨o, hk b o q e⟩
noncomputable def NoE : Value → Shared → Prop := fun _ _ => False
noncomputable def Out (C : Cx) (X : Addr → Prop) (ρ : List Addr) (h : Heap) (σ' : Sto) (P : List Addr → Heap → Prop) (s' : Shared) : Prop :=
 ∃ ρ', Tr X ρ ρ' h s'.heap ∧ St C ρ' σ' s' ∧ P ρ' s'.heap
structure Room (n : Nat) (A : Around) : Prop where
 depth : A.depth + n ≤ 900
 units : A.units + 12 * n ≤ 9000
 handled : A.handled = none
theorem Room.le {n m : Nat} {A : Around} (r : Room n A) (h : m ≤ n) : Room m A := ⟨Nat.le_trans (Nat.add_le_add_left h _) r.depth, Nat.le_trans (Nat.add_le_add_left (Nat.mul_le_mul_left _ h) _) r.units, r.handled⟩
theorem Room.deeper {n : Nat} {A : Around} {env : Env} (r : Room (n + 1) A) : Room n (A.deeper env) := ⟨by have := r.depth; simp [Around.deeper]; lia, by have := r.units; simp [Around.deeper]; lia, r.handled⟩
theorem Room.lim {n : Nat} {A : Around} (r : Room n A) : A.depth < recursionLimit := by have := r.depth; simp [recursionLimit]; lia
theorem Room.line {n : Nat} {A : Around} (r : Room n A) : A.units + 64 < cLine := by have := r.units; simp [cLine]; lia
noncomputable def RO (C : Cx) (ρ : List Addr) (h : Heap) : Option V → Option Value → Prop
 | none, v => v = none
 | some x, v => ∃ u, v = some u ∧ R C ρ h x u
theorem RO.mono {C : Cx} {ρ ρ' : List Addr} {h h' : Heap} (g : Grow C ρ ρ' h h') {x : Option V} {v : Option Value} (r : RO C ρ h x v) : RO C ρ' h' x v := by
 cases x with
 | none => exact r
 | some x => obtain ⟨u, rfl, hu⟩ := r; exact ⟨u, rfl, hu.mono g⟩
noncomputable def KindOk : Option NameKind → Option NameKind → Prop
 | some .local, k => k = some .local
 | some .cell, k => k = some .cell
 | some .free, k => k = some .cell ∨ k = some .free
 | some .globalImplicit, k => k = some .globalImplicit
 | _, _ => True
noncomputable def isBoxed : Option NameKind → Prop
 | some .cell | some .free => True
 | _ => False
structure Frm (C : Cx) (ρ : List Addr) (e : En) (env : Env) (h : Heap) : Prop where
 kind : env.scope.kind = .function
 glob : env.globals = mainGlobals
 blt : env.builtins = builtinsNs
 kinds : ∀ x, KindOk (e.names.lookup x) (env.kindOf x)
 loc : ∃ m, h.Ns env.locals m ∧ ∀ x, e.names.lookup x = some .local → RO C ρ h (e.vars.lookup x) (m x)
 cel : ∀ x, isBoxed (e.names.lookup x) → Ex2 fun c ov => env.cells.lookup x = some c ∧ h.IsCell c ov ∧ RO C ρ h (e.vars.lookup x) ov
 boxed : ∀ x c, env.cells.lookup x = some c → isBoxed (e.names.lookup x)
 apart : ∀ x y c, env.cells.lookup x = some c → env.cells.lookup y = some c → x = y
 apartL : ∀ x c, env.cells.lookup x = some c → c ≠ env.locals
 offL : env.locals ∉ ρ
 offC : ∀ x c, env.cells.lookup x = some c → c ∉ ρ
 newL : C.h₀.get? env.locals = none
 newC : ∀ x c, env.cells.lookup x = some c → C.h₀.get? c = none
 hidL : ¬ C.hid env.locals
 hidC : ∀ x c, env.cells.lookup x = some c → ¬ C.hid c
noncomputable def Own (e : En) (env : Env) : Addr → Prop := fun a => a = env.locals ∨ ∃ x, e.names.lookup x = some .cell ∧ env.cells.lookup x = some a
theorem not_solid_ns {h : Heap} {a : Addr} {m : Str → Option Value} (n : h.Ns a m) {o : Obj} (ho : h.get? a = some o) : ¬ Solid o := by
 obtain ⟨o', es, ep, ho', hd, _⟩ := n
 rw [ho] at ho'; cases ho'
 simp [Solid, hd]
theorem not_solid_cell {h : Heap} {a : Addr} {v : Option Value} (n : h.IsCell a v) {o : Obj} (ho : h.get? a = some o) : ¬ Solid o := by
 obtain ⟨o', ho', hd⟩ := n
 rw [ho] at ho'; cases ho'
 simp [Solid, hd]
theorem Frm.own_not_solid {C : Cx} {ρ : List Addr} {e : En} {env : Env} {h : Heap} (f : Frm C ρ e env h) {b : Addr} {o : Obj} (hb : Own e env b) (ho : h.get? b = some o) : ¬ Solid o := by
 rcases hb with rfl | ⟨x, hx, hc⟩
 ·obtain ⟨m, n, _⟩ := f.loc; exact not_solid_ns n ho
 ·obtain ⟨c, ov, hc', hi, _⟩ := f.cel x (by rw [hx]; trivial)
  rw [hc] at hc'; cases hc'
  exact not_solid_cell hi ho
theorem Frm.own_alive {C : Cx} {ρ : List Addr} {e : En} {env : Env} {h : Heap} (f : Frm C ρ e env h) {b : Addr} (hb : Own e env b) : ∃ o, h.get? b = some o := by
 rcases hb with rfl | ⟨x, hx, hc⟩
 ·obtain ⟨m, ⟨o, _, _, ho, _⟩, _⟩ := f.loc; exact ⟨o, ho⟩
 ·obtain ⟨c, ov, hc', ⟨o, ho, _⟩, _⟩ := f.cel x (by rw [hx]; trivial)
  rw [hc] at hc'; cases hc'
  exact ⟨o, ho⟩
theorem Frm.alive {C : Cx} {ρ : List Addr} {e : En} {env : Env} {h : Heap} (f : Frm C ρ e env h) : ∃ o, h.get? env.locals = some o := f.own_alive (.inl rfl)
theorem Frm.aliveC {C : Cx} {ρ : List Addr} {e : En} {env : Env} {h : Heap} (f : Frm C ρ e env h) {x : Str} {c : Addr} (hc : env.cells.lookup x = some c) : ∃ o, h.get? c = some o := by
 obtain ⟨c', ov, hc', ⟨o, ho, _⟩, _⟩ := f.cel x (f.boxed x c hc)
 rw [hc] at hc'; cases hc'
 exact ⟨o, ho⟩
theorem Frm.step {C : Cx} {ρ ρ' : List Addr} {e : En} {env : Env} {h h' : Heap} (f : Frm C ρ e env h) (t : Tr Nox ρ ρ' h h') : Frm C ρ' e env h' := by
 have g := t.toGrow0 (C := C)
 have off : ∀ a, a ∉ ρ → (∃ o, h.get? a = some o) → a ∉ ρ' := fun a ha ⟨o, ho⟩ => g.notIn ha ho
 obtain ⟨m, ns, hm⟩ := f.loc
 refine ⟨f.kind, f.glob, f.blt, f.kinds, ⟨m, ?_, fun x hx => (hm x hx).mono g⟩, fun x hx => ?_, f.boxed, f.apart, f.apartL, off _ f.offL f.alive, fun x c hc => off _ (f.offC x c hc) (f.aliveC hc), f.newL, f.newC, f.hidL, f.hidC⟩
 ·obtain ⟨o, es, ep, ho, r⟩ := ns
  exact ⟨o, es, ep, t.keep _ o (fun q => q) f.offL ho, r⟩
 ·obtain ⟨c, ov, hc, ⟨o, ho, hd⟩, hr⟩ := f.cel x hx
  exact ⟨c, ov, hc, ⟨o, t.keep _ o (fun q => q) (f.offC x c hc) ho, hd⟩, hr.mono g⟩
theorem M.pure_iff {α : Type} {a b : α} {σ σ' : Sto} : (M.pure a : M α) σ = some (b, σ') ↔ a = b ∧ σ = σ' := by
 unfold M.pure; constructor
 ·intro h; cases h; exact ⟨rfl, rfl⟩
 ·rintro ⟨rfl, rfl⟩; rfl
theorem M.fail_iff {α : Type} {b : α} {σ σ' : Sto} : (M.fail : M α) σ = some (b, σ') ↔ False := by unfold M.fail; simp
theorem M.bind_iff {α β : Type} {m : M α} {f : α → M β} {σ : Sto} {r : β × Sto} : (m >>= f) σ = some r ↔ Ex2 fun a σ₁ => m σ = some (a, σ₁) ∧ f a σ₁ = some r := by
 show M.bind m f σ = _ ↔ _
 unfold M.bind
 cases h : m σ with
 | none => exact ⟨fun e => (nomatch e), fun ⟨_, _, e, _⟩ => (nomatch e)⟩
 | some p =>
  obtain ⟨a, s'⟩ := p
  exact ⟨fun e => ⟨a, s', rfl, e⟩, fun ⟨_, _, e, e'⟩ => by cases e; exact e'⟩
theorem M.bindE {α β : Type} {m : M α} {f : α → M β} {σ : Sto} {r : β × Sto} {P : Prop} (h : (m >>= f) σ = some r) (k : ∀ a σ₁, m σ = some (a, σ₁) → f a σ₁ = some r → P) : P := let ⟨a, s, h1, h2⟩ := M.bind_iff.mp h; k a s h1 h2
theorem M.bindE2 {α α' β : Type} {m : M (α × α')} {f : α × α' → M β} {σ : Sto} {r : β × Sto} {P : Prop} (h : (m >>= f) σ = some r) (k : ∀ a a' σ₁, m σ = some ((a, a'), σ₁) → f (a, a') σ₁ = some r → P) : P := M.bindE h fun (_, _) s h1 h2 => k _ _ s h1 h2
theorem M.bindE3 {α α' α₂ β : Type} {m : M (α × α' × α₂)} {f : α × α' × α₂ → M β} {σ : Sto} {r : β × Sto} {P : Prop} (h : (m >>= f) σ = some r) (k : ∀ a a' a₂ σ₁, m σ = some ((a, a', a₂), σ₁) → f (a, a', a₂) σ₁ = some r → P) : P := M.bindE h fun (_, _, _) s h1 h2 => k _ _ _ s h1 h2
theorem M.of_iff {α : Type} {o : Option α} {a : α} {σ σ' : Sto} : M.of o σ = some (a, σ') ↔ o = some a ∧ σ = σ' := by
 cases o with
 | none => simp [M.of, M.fail]
 | some b => simp [M.of, M.pure]
@[elab_as_elim] theorem M.pureE {α : Type} {a b : α} {σ σ' : Sto} {motive : α → Sto → Prop} (h : (M.pure a : M α) σ = some (b, σ')) (k : motive a σ) : motive b σ' := by cases h; exact k
theorem M.iteE {α : Type} {c : Prop} [Decidable c] {m : M α} {σ : Sto} {r : α × Sto} {P : Prop} (h : (if c then m else M.fail) σ = some r) (k : c → m σ = some r → P) : P := by
 by_cases q : c
 ·rw [if_pos q] at h; exact k q h
 ·rw [if_neg q] at h; exact nomatch h
theorem M.ite2 {α : Type} {c : Prop} [Decidable c] {m m' : M α} {σ : Sto} {r : α × Sto} {P : Prop} (h : (if c then m else m') σ = some r) (k : c → m σ = some r → P) (k' : ¬ c → m' σ = some r → P) : P := by
 by_cases q : c
 ·rw [if_pos q] at h; exact k q h
 ·rw [if_neg q] at h; exact k' q h
theorem M.failE {α : Type} {r : α} {P : Prop} (h : (none : Option α) = some r) : P := nomatch h
theorem no_none {α : Type} {a : α} {P : Prop} (h : none = some a) : P := nomatch h
theorem intOfE {α : Type} {v : V} {k : Int → M α} {σ : Sto} {r : α × Sto} {P : Prop} (h : intOf v k σ = some r) (q : ∀ i, v = .int i → k i σ = some r → P) : P := by
 cases v <;> first | exact M.failE h | exact q _ rfl h
theorem strOfE {α : Type} {v : V} {k : Str → M α} {σ : Sto} {r : α × Sto} {P : Prop} (h : strOf v k σ = some r) (q : ∀ i, v = .str i → k i σ = some r → P) : P := by
 cases v <;> first | exact M.failE h | exact q _ rfl h
theorem bytesOfE {α : Type} {v : V} {k : Array UInt8 → M α} {σ : Sto} {r : α × Sto} {P : Prop} (h : bytesOf v k σ = some r) (q : ∀ i, v = .bytes i → k i σ = some r → P) : P := by
 cases v <;> first | exact M.failE h | exact q _ rfl h
theorem listOfE {α : Type} {v : V} {k : List V → M α} {σ : Sto} {r : α × Sto} {P : Prop} (h : listOf v k σ = some r) (q : ∀ i, v = .list i → k i σ = some r → P) : P := by
 cases v <;> first | exact M.failE h | exact q _ rfl h
theorem lstOfE {α : Type} {v : V} {k : Nat → M α} {σ : Sto} {r : α × Sto} {P : Prop} (h : lstOf v k σ = some r) (q : ∀ i, v = .lst i → k i σ = some r → P) : P := by
 cases v <;> first | exact M.failE h | exact q _ rfl h
theorem globOfE {α : Type} {v : V} {k : Str → M α} {σ : Sto} {r : α × Sto} {P : Prop} (h : globOf v k σ = some r) (q : ∀ i, v = .glob i → k i σ = some r → P) : P := by
 cases v <;> first | exact M.failE h | exact q _ rfl h
theorem typOfE {α : Type} {v : V} {k : String → M α} {σ : Sto} {r : α × Sto} {P : Prop} (h : typOf v k σ = some r) (q : ∀ i, v = .typ i → k i σ = some r → P) : P := by
 cases v <;> first | exact M.failE h | exact q _ rfl h
theorem arg1E {α : Type} {l : List V} {k : V → M α} {σ : Sto} {r : α × Sto} {P : Prop} (h : arg1 l k σ = some r) (q : ∀ x, l = [x] → k x σ = some r → P) : P :=
 match l, h with
 | [], h => M.failE h
 | [_], h => q _ rfl h
 | _ :: _ :: _, h => M.failE h
theorem arg2E {α : Type} {l : List V} {k : V → V → M α} {σ : Sto} {r : α × Sto} {P : Prop} (h : arg2 l k σ = some r) (q : ∀ x y, l = [x, y] → k x y σ = some r → P) : P :=
 match l, h with
 | [], h => M.failE h
 | [_], h => M.failE h
 | [_, _], h => q _ _ rfl h
 | _ :: _ :: _ :: _, h => M.failE h
theorem only1E {α β : Type} {l : List α} {k : α → M β} {σ : Sto} {r : β × Sto} {P : Prop} (h : only1 l k σ = some r) (q : ∀ x, l = [x] → k x σ = some r → P) : P :=
 match l, h with
 | [], h => M.failE h
 | [_], h => q _ rfl h
 | _ :: _ :: _, h => M.failE h
theorem isNil_eq {α : Type} {l : List α} (h : isNil l = true) : l = [] := by cases l <;> first | rfl | exact nomatch h
theorem M.look_iff {r : Nat} {xs : List V} {σ σ' : Sto} : M.look r σ = some (xs, σ') ↔ σ[r]? = some xs ∧ σ = σ' := by
 unfold M.look
 cases h : σ[r]? <;> simp
theorem M.put_iff {r : Nat} {xs : List V} {u : Unit} {σ σ' : Sto} : M.put r xs σ = some (u, σ') ↔ σ' = σ.set r xs := by
 unfold M.put; simp [eq_comm]
theorem M.new_iff {xs : List V} {v : V} {σ σ' : Sto} : M.new xs σ = some (v, σ') ↔ v = .lst σ.length ∧ σ' = σ ++ [xs] := by
 unfold M.new; simp [eq_comm]
theorem itemsOf_iff {v : V} {xs : List V} {σ σ' : Sto} (h : itemsOf v σ = some (xs, σ')) : σ = σ' ∧ (v = .list xs ∨ ∃ r, v = .lst r ∧ σ[r]? = some xs) := by
 cases v <;> first
  | exact M.failE h
  | exact M.pureE h ⟨rfl, .inl rfl⟩
  | (obtain ⟨h1, h2⟩ := M.look_iff.mp h; exact ⟨h2, .inr ⟨_, rfl, h1⟩⟩)
abbrev Mdl (C : Cx) : Model := model C.cfg.prog C.w
theorem Heap.get?_size (h : Heap) : h.get? h.objs.size = none := by
 cases e : h.get? h.objs.size with
 | none => rfl
 | some o => exact absurd (Heap.lt_size e) (Nat.lt_irrefl _)
section
variable {C : Cx} {ρ : List Addr} {σ σ' : Sto} {s : Shared} {A : Around}
theorem R.mkNone {h : Heap} : R C ρ h .none .none := show _ = _ from rfl
theorem R.mkBool {h : Heap} {b : Bool} : R C ρ h (.bool b) (.bool b) := show _ = _ from rfl
theorem R.mkInt {h : Heap} {i : Int} {t : Tok} : R C ρ h (.int i) (.int i t) := show ∃ _, _ = _ from ⟨_, rfl⟩
theorem R.mkStr {h : Heap} {i : Str} {t : Tok} : R C ρ h (.str i) (.str i t) := show ∃ _, _ = _ from ⟨_, rfl⟩
theorem R.mkBytes {h : Heap} {i : Array UInt8} {t : Tok} : R C ρ h (.bytes i) (.bytes i t) := show ∃ _, _ = _ from ⟨_, rfl⟩
theorem R.mkList {h : Heap} {xs : List V} {a : Addr} {vs : List Value} (p : PL h a vs) (o : Off C ρ a) (q : Rs C ρ h xs vs) : R C ρ h (.list xs) (.ref a) := show Ex2 fun _ _ => _ from ⟨a, vs, rfl, p, o, q⟩
theorem R.mkTup {h : Heap} {xs : List V} {a : Addr} {vs : List Value} (p : PT h a vs) (o : Off C ρ a) (q : Rs C ρ h xs vs) : R C ρ h (.tup xs) (.ref a) := show Ex2 fun _ _ => _ from ⟨a, vs, rfl, p, o, q⟩
theorem R.mkLst {h : Heap} {r : Nat} {a : Addr} (e : ρ[r]? = some a) : R C ρ h (.lst r) (.ref a) := show ∃ _, _ from ⟨a, rfl, e⟩
@[elab_as_elim] theorem R.noneE {h : Heap} {u : Value} {motive : Value → Prop} (r : R C ρ h .none u) (k : motive .none) : motive u := by have r : u = _ := r; subst r; exact k
@[elab_as_elim] theorem R.boolE {h : Heap} {b : Bool} {u : Value} {motive : Value → Prop} (r : R C ρ h (.bool b) u) (k : motive (.bool b)) : motive u := by have r : u = _ := r; subst r; exact k
@[elab_as_elim] theorem R.typE {h : Heap} {b : String} {u : Value} {motive : Value → Prop} (r : R C ρ h (.typ b) u) (k : motive (.type b)) : motive u := by have r : u = _ := r; subst r; exact k
@[elab_as_elim] theorem R.bltE {h : Heap} {b : String} {u : Value} {motive : Value → Prop} (r : R C ρ h (.blt b) u) (k : motive (.builtin b)) : motive u := by have r : u = _ := r; subst r; exact k
@[elab_as_elim] theorem R.intE {h : Heap} {i : Int} {u : Value} {motive : Value → Prop} (r : R C ρ h (.int i) u) (k : ∀ t, motive (.int i t)) : motive u := by obtain ⟨t, rfl⟩ : ∃ t, u = .int i t := r; exact k t
@[elab_as_elim] theorem R.strE {h : Heap} {i : Str} {u : Value} {motive : Value → Prop} (r : R C ρ h (.str i) u) (k : ∀ t, motive (.str i t)) : motive u := by obtain ⟨t, rfl⟩ : ∃ t, u = .str i t := r; exact k t
@[elab_as_elim] theorem R.bytesE {h : Heap} {i : Array UInt8} {u : Value} {motive : Value → Prop} (r : R C ρ h (.bytes i) u) (k : ∀ t, motive (.bytes i t)) : motive u := by obtain ⟨t, rfl⟩ : ∃ t, u = .bytes i t := r; exact k t
@[elab_as_elim] theorem R.listE {h : Heap} {xs : List V} {u : Value} {motive : Value → Prop} (r : R C ρ h (.list xs) u) (k : ∀ a vs, PL h a vs → Off C ρ a → Rs C ρ h xs vs → motive (.ref a)) : motive u := by
 obtain ⟨a, vs, rfl, p, o, q⟩ : Ex2 fun a vs => u = .ref a ∧ PL h a vs ∧ Off C ρ a ∧ Rs C ρ h xs vs := r; exact k a vs p o q
@[elab_as_elim] theorem R.tupE {h : Heap} {xs : List V} {u : Value} {motive : Value → Prop} (r : R C ρ h (.tup xs) u) (k : ∀ a vs, PT h a vs → Off C ρ a → Rs C ρ h xs vs → motive (.ref a)) : motive u := by
 obtain ⟨a, vs, rfl, p, o, q⟩ : Ex2 fun a vs => u = .ref a ∧ PT h a vs ∧ Off C ρ a ∧ Rs C ρ h xs vs := r; exact k a vs p o q
@[elab_as_elim] theorem R.lstE {h : Heap} {r : Nat} {u : Value} {motive : Value → Prop} (e : R C ρ h (.lst r) u) (k : ∀ a, ρ[r]? = some a → motive (.ref a)) : motive u := by
 obtain ⟨a, rfl, q⟩ : ∃ a, u = .ref a ∧ ρ[r]? = some a := e; exact k a q
@[elab_as_elim] theorem R.globE {h : Heap} {n : Str} {u : Value} {motive : Value → Prop} (e : R C ρ h (.glob n) u) (k : ∀ a, C.mg n = some (.ref a) → motive (.ref a)) : motive u := by
 obtain ⟨a, rfl, q⟩ : ∃ a, u = .ref a ∧ C.mg n = some (.ref a) := e; exact k a q
@[elab_as_elim] theorem R.rngE {h : Heap} {lo hi st : Int} {u : Value} {motive : Value → Prop} (e : R C ρ h (.rng lo hi st) u) (k : ∀ a t t' t'', IsRange h a lo hi st t t' t'' → Off C ρ a → motive (.ref a)) : motive u := by
 obtain ⟨a, t, t', t'', rfl, q, o⟩ : Ex4 fun a t t' t'' => u = .ref a ∧ IsRange h a lo hi st t t' t'' ∧ Off C ρ a := e; exact k a t t' t'' q o
@[elab_as_elim] theorem intOf_R {h : Heap} {α : Type} {v : V} {u : Value} {k : Int → M α} {σ : Sto} {r : α × Sto} {motive : Value → Prop} (rv : R C ρ h v u) (e : intOf v k σ = some r) (q : ∀ i t, k i σ = some r → motive (.int i t)) : motive u :=
 intOfE e fun i ev e => by subst ev; exact rv.intE fun t => q i t e
@[elab_as_elim] theorem strOf_R {h : Heap} {α : Type} {v : V} {u : Value} {k : Str → M α} {σ : Sto} {r : α × Sto} {motive : Value → Prop} (rv : R C ρ h v u) (e : strOf v k σ = some r) (q : ∀ i t, k i σ = some r → motive (.str i t)) : motive u :=
 strOfE e fun i ev e => by subst ev; exact rv.strE fun t => q i t e
@[elab_as_elim] theorem bytesOf_R {h : Heap} {α : Type} {v : V} {u : Value} {k : Array UInt8 → M α} {σ : Sto} {r : α × Sto} {motive : Value → Prop} (rv : R C ρ h v u) (e : bytesOf v k σ = some r) (q : ∀ i t, k i σ = some r → motive (.bytes i t)) : motive u :=
 bytesOfE e fun i ev e => by subst ev; exact rv.bytesE fun t => q i t e
@[elab_as_elim] theorem typOf_R {h : Heap} {α : Type} {v : V} {u : Value} {k : String → M α} {σ : Sto} {r : α × Sto} {motive : Value → Prop} (rv : R C ρ h v u) (e : typOf v k σ = some r) (q : ∀ i, k i σ = some r → motive (.type i)) : motive u :=
 typOfE e fun i ev e => by subst ev; exact rv.typE (q i e)
@[elab_as_elim] theorem listOf_R {h : Heap} {α : Type} {v : V} {u : Value} {k : List V → M α} {σ : Sto} {r : α × Sto} {motive : Value → Prop} (rv : R C ρ h v u) (e : listOf v k σ = some r) (q : ∀ xs a vs, PL h a vs → Rs C ρ h xs vs → k xs σ = some r → motive (.ref a)) : motive u :=
 listOfE e fun i ev e => by subst ev; exact rv.listE fun a vs p _ c => q i a vs p c e
@[elab_as_elim] theorem globOf_R {h : Heap} {α : Type} {v : V} {u : Value} {k : Str → M α} {σ : Sto} {r : α × Sto} {motive : Value → Prop} (rv : R C ρ h v u) (e : globOf v k σ = some r) (q : ∀ n a, C.mg n = some (.ref a) → k n σ = some r → motive (.ref a)) : motive u :=
 globOfE e fun i ev e => by subst ev; exact rv.globE fun a c => q i a c e
theorem St.keeps {h' : Heap} {t : Nat} (st : St C ρ σ s) (hk : ∀ b o, s.heap.get? b = some o → h'.get? b = some o) : St C ρ σ { s with heap := h', toks := t } :=
 ⟨st.rel.keeps hk, st.gens, st.os⟩
theorem Out.here {X : Addr → Prop} {P : List Addr → Heap → Prop} {t : Nat} (st : St C ρ σ s) (h : P ρ s.heap) : Out C X ρ s.heap σ P { s with toks := t } :=
 ⟨ρ, Tr.refl _ _ _, ⟨st.rel, st.gens, st.os⟩, h⟩
theorem Out.here' {X : Addr → Prop} {P : List Addr → Heap → Prop} (st : St C ρ σ s) (h : P ρ s.heap) : Out C X ρ s.heap σ P s := ⟨ρ, Tr.refl _ _ _, st, h⟩
theorem Out.keeps {X : Addr → Prop} {P : List Addr → Heap → Prop} {h' : Heap} {t : Nat} (st : St C ρ σ s) (hk : ∀ b o, s.heap.get? b = some o → h'.get? b = some o) (h : P ρ h') :
  Out C X ρ s.heap σ P { s with heap := h', toks := t } := ⟨ρ, Tr.ofKeeps hk, st.keeps hk, h⟩
theorem Out.mono {X : Addr → Prop} {P P' : List Addr → Heap → Prop} {h : Heap} {s' : Shared} (o : Out C X ρ h σ P s') (hP : ∀ ρ' h', P ρ' h' → P' ρ' h') : Out C X ρ h σ P' s' :=
 let ⟨ρ', t, st, p⟩ := o; ⟨ρ', t, st, hP _ _ p⟩
theorem out_val {x : V} {u : Value} {t : Nat} (st : St C ρ σ s) (r : R C ρ s.heap x u) : Out C Nox ρ s.heap σ (fun ρ' h' => R C ρ' h' x u) { s with toks := t } := Out.here st r
theorem push_keeps (h : Heap) (o : Obj) : ∀ b o', h.get? b = some o' → (h.push o).get? b = some o' := fun b _ e => Heap.get?_push_of_some _ e
theorem Grow.ofKeeps {h h' : Heap} (hk : ∀ b o, h.get? b = some o → h'.get? b = some o) : Grow C ρ ρ h h' := ⟨⟨[], by simp, by simp⟩, fun b o _ _ e => hk b o e⟩
theorem St.offNew (st : St C ρ σ s) {a : Addr} (ha : s.heap.get? a = none) : Off C ρ a := by
 refine ⟨fun hm => ?_, fun hm => ?_⟩
 ·obtain ⟨o, ho⟩ := st.rel.alive hm
  rw [ha] at ho; cases ho
 ·obtain ⟨o, ho⟩ := st.rel.hid _ hm
  rw [ha] at ho; cases ho
theorem St.off (st : St C ρ σ s) : Off C ρ s.heap.objs.size := st.offNew (Heap.get?_size _)
theorem out_tup {xs : List V} {vs : List Value} {t k : Nat} (st : St C ρ σ s) (r : Rs C ρ s.heap xs vs) :
  Out C Nox ρ s.heap σ (fun ρ' h' => R C ρ' h' (.tup xs) (.ref s.heap.objs.size))
   { s with heap := s.heap.push { cls := .type "tuple", data := .seq vs.toArray k }, toks := t } :=
 Out.keeps st (push_keeps _ _) (by
  exact R.mkTup ⟨k, Heap.get?_push_size _ rfl⟩ st.off (r.mono (Grow.ofKeeps (push_keeps _ _))))
theorem Rs.length {h : Heap} : ∀ {xs : List V} {vs : List Value}, Rs C ρ h xs vs → vs.length = xs.length
 | [], _, r => by cases (show _ = [] from r); rfl
 | x :: xs, vs, r => by obtain ⟨v, vs', rfl, _, r'⟩ := r; simp [r'.length]
theorem Rs.append {h : Heap} : ∀ {xs ys : List V} {vs us : List Value}, Rs C ρ h xs vs → Rs C ρ h ys us → Rs C ρ h (xs ++ ys) (vs ++ us)
 | [], _, _, _, r, q => by cases (show _ = [] from r); exact q
 | x :: xs, ys, vs, us, r, q => by
  obtain ⟨v, vs', rfl, a, r'⟩ := r
  exact (show Ex2 fun _ _ => _ from ⟨v, vs' ++ us, rfl, a, r'.append q⟩)
theorem Rs.get {h : Heap} : ∀ {xs : List V} {vs : List Value} {i : Nat} {x : V}, Rs C ρ h xs vs → xs[i]? = some x → ∃ v, vs[i]? = some v ∧ R C ρ h x v
 | [], _, _, _, _, e => by simp at e
 | y :: xs, vs, i, x, r, e => by
  obtain ⟨v, vs', rfl, a, r'⟩ := r
  cases i with
  | zero => simp at e; subst e; exact ⟨v, rfl, a⟩
  | succ i => simp at e; obtain ⟨u, hu, ru⟩ := r'.get e; exact ⟨u, by simpa using hu, ru⟩
theorem Rs.drop {h : Heap} : ∀ {xs : List V} {vs : List Value} (i : Nat), Rs C ρ h xs vs → Rs C ρ h (xs.drop i) (vs.drop i)
 | xs, vs, 0, r => r
 | [], vs, i + 1, r => by cases (show _ = [] from r); rfl
 | x :: xs, vs, i + 1, r => by
  obtain ⟨v, vs', rfl, a, r'⟩ := r
  simpa using r'.drop i
theorem Rs.take {h : Heap} : ∀ {xs : List V} {vs : List Value} (i : Nat), Rs C ρ h xs vs → Rs C ρ h (xs.take i) (vs.take i)
 | xs, vs, 0, r => rfl
 | [], vs, i + 1, r => by cases (show _ = [] from r); rfl
 | x :: xs, vs, i + 1, r => by
  obtain ⟨v, vs', rfl, a, r'⟩ := r
  exact (show Ex2 fun _ _ => _ from ⟨v, _, rfl, a, r'.take i⟩)
theorem Rs.reverse {h : Heap} : ∀ {xs : List V} {vs : List Value}, Rs C ρ h xs vs → Rs C ρ h xs.reverse vs.reverse
 | [], _, r => by cases (show _ = [] from r); rfl
 | x :: xs, vs, r => by
  obtain ⟨v, vs', rfl, a, r'⟩ := r
  simp only [List.reverse_cons]
  exact r'.reverse.append (show Ex2 fun _ _ => _ from ⟨v, [], rfl, a, rfl⟩)
theorem Rs.set {h : Heap} : ∀ {xs : List V} {vs : List Value} {i : Nat} {x : V} {v : Value}, Rs C ρ h xs vs → R C ρ h x v → Rs C ρ h (xs.set i x) (vs.set i v)
 | [], _, _, _, _, r, _ => by cases (show _ = [] from r); rfl
 | y :: xs, vs, i, x, v, r, hx => by
  obtain ⟨u, vs', rfl, a, r'⟩ := r
  cases i with
  | zero => exact (show Ex2 fun _ _ => _ from ⟨v, vs', rfl, hx, r'⟩)
  | succ i => exact (show Ex2 fun _ _ => _ from ⟨u, _, rfl, a, r'.set hx⟩)
theorem Rs.eraseIdx {h : Heap} : ∀ {xs : List V} {vs : List Value} (i : Nat), Rs C ρ h xs vs → Rs C ρ h (xs.eraseIdx i) (vs.eraseIdx i)
 | [], _, _, r => by cases (show _ = [] from r); rfl
 | y :: xs, vs, i, r => by
  obtain ⟨u, vs', rfl, a, r'⟩ := r
  cases i with
  | zero => exact r'
  | succ i => exact (show Ex2 fun _ _ => _ from ⟨u, _, rfl, a, r'.eraseIdx i⟩)
theorem Rs.replicate {h : Heap} {xs : List V} {vs : List Value} (r : Rs C ρ h xs vs) : ∀ n : Nat, Rs C ρ h (List.replicate n xs).flatten (List.replicate n vs).flatten
 | 0 => rfl
 | n + 1 => by simp only [List.replicate_succ, List.flatten_cons]; exact r.append (r.replicate n)
theorem Rs.one {h : Heap} {x : V} {v : Value} (r : R C ρ h x v) : Rs C ρ h [x] [v] := show Ex2 fun _ _ => _ from ⟨v, [], rfl, r, rfl⟩
noncomputable def Cx.hide (C : Cx) (a : Addr) : Cx := { C with hid := fun b => C.hid b ∨ b = a }
mutual
theorem R.hide {h : Heap} {a : Addr} (ha : h.get? a = none) : ∀ {x : V} {v : Value}, R C ρ h x v → R (C.hide a) ρ h x v
 | .none, _, r => r
 | .bool _, _, r => r
 | .int _, _, r => r
 | .str _, _, r => r
 | .bytes _, _, r => r
 | .typ _, _, r => r
 | .blt _, _, r => r
 | .glob _, _, r => r
 | .lst _, _, r => r
 | .tup xs, v, r => by
  show Ex2 fun _ _ => _
  obtain ⟨b, vs, rfl, ⟨n, ho⟩, hn, hr⟩ := r
  exact ⟨b, vs, rfl, ⟨n, ho⟩, ⟨hn.1, fun q => q.elim hn.2 fun q => by rw [← q, ho] at ha; cases ha⟩, Rs.hide ha hr⟩
 | .list xs, v, r => by
  show Ex2 fun _ _ => _
  obtain ⟨b, vs, rfl, ⟨n, ho⟩, hn, hr⟩ := r
  exact ⟨b, vs, rfl, ⟨n, ho⟩, ⟨hn.1, fun q => q.elim hn.2 fun q => by rw [← q, ho] at ha; cases ha⟩, Rs.hide ha hr⟩
 | .rng lo hi st, v, r => by
  show Ex4 fun _ _ _ _ => _
  obtain ⟨b, t, u, w, rfl, ho, hn⟩ := r
  exact ⟨b, t, u, w, rfl, ho, ⟨hn.1, fun q => q.elim hn.2 fun q => by rw [← q, ho] at ha; cases ha⟩⟩
theorem Rs.hide {h : Heap} {a : Addr} (ha : h.get? a = none) : ∀ {xs : List V} {vs : List Value}, Rs C ρ h xs vs → Rs (C.hide a) ρ h xs vs
 | [], _, r => r
 | x :: xs, vs, r => by
  show Ex2 fun _ _ => _
  obtain ⟨v, vs', rfl, h1, h2⟩ := r
  exact ⟨v, vs', rfl, R.hide ha h1, Rs.hide ha h2⟩
end
mutual
theorem R.unhide {h : Heap} {a : Addr} : ∀ {x : V} {v : Value}, R (C.hide a) ρ h x v → R C ρ h x v ∧ R C (ρ ++ [a]) h x v
 | .none, _, r => ⟨r, r⟩
 | .bool _, _, r => ⟨r, r⟩
 | .int _, _, r => ⟨r, r⟩
 | .str _, _, r => ⟨r, r⟩
 | .bytes _, _, r => ⟨r, r⟩
 | .typ _, _, r => ⟨r, r⟩
 | .blt _, _, r => ⟨r, r⟩
 | .glob _, _, r => ⟨r, r⟩
 | .lst _, _, r => by
  refine ⟨r, ?_⟩
  show ∃ _, _
  obtain ⟨b, rfl, hb⟩ := r
  exact ⟨b, rfl, by rw [List.getElem?_append_left (List.getElem?_eq_some_iff.mp hb).1]; exact hb⟩
 | .tup xs, v, r => by
  show (Ex2 fun _ _ => _) ∧ Ex2 fun _ _ => _
  obtain ⟨b, vs, rfl, ho, hn, hr⟩ := r
  have hr := Rs.unhide hr
  exact ⟨⟨b, vs, rfl, ho, ⟨hn.1, fun q => hn.2 (.inl q)⟩, hr.1⟩, ⟨b, vs, rfl, ho, ⟨fun q => (List.mem_append.mp q).elim hn.1 fun q => hn.2 (.inr (by simpa using q)), fun q => hn.2 (.inl q)⟩, hr.2⟩⟩
 | .list xs, v, r => by
  show (Ex2 fun _ _ => _) ∧ Ex2 fun _ _ => _
  obtain ⟨b, vs, rfl, ho, hn, hr⟩ := r
  have hr := Rs.unhide hr
  exact ⟨⟨b, vs, rfl, ho, ⟨hn.1, fun q => hn.2 (.inl q)⟩, hr.1⟩, ⟨b, vs, rfl, ho, ⟨fun q => (List.mem_append.mp q).elim hn.1 fun q => hn.2 (.inr (by simpa using q)), fun q => hn.2 (.inl q)⟩, hr.2⟩⟩
 | .rng lo hi st, v, r => by
  show (Ex4 fun _ _ _ _ => _) ∧ Ex4 fun _ _ _ _ => _
  obtain ⟨b, t, u, w, rfl, ho, hn⟩ := r
  exact ⟨⟨b, t, u, w, rfl, ho, ⟨hn.1, fun q => hn.2 (.inl q)⟩⟩, ⟨b, t, u, w, rfl, ho, ⟨fun q => (List.mem_append.mp q).elim hn.1 fun q => hn.2 (.inr (by simpa using q)), fun q => hn.2 (.inl q)⟩⟩⟩
theorem Rs.unhide {h : Heap} {a : Addr} : ∀ {xs : List V} {vs : List Value}, Rs (C.hide a) ρ h xs vs → Rs C ρ h xs vs ∧ Rs C (ρ ++ [a]) h xs vs
 | [], _, r => ⟨r, r⟩
 | x :: xs, vs, r => by
  show (Ex2 fun _ _ => _) ∧ Ex2 fun _ _ => _
  obtain ⟨v, vs', rfl, h1, h2⟩ := r
  have h1 := R.unhide h1
  have h2 := Rs.unhide h2
  exact ⟨⟨v, vs', rfl, h1.1, h2.1⟩, ⟨v, vs', rfl, h1.2, h2.2⟩⟩
end
theorem Rel.hide {h h' : Heap} {a : Addr} (r : Rel C ρ σ h) (ha : h.get? a = none) (hk : ∀ b o, h.get? b = some o → h'.get? b = some o) (ha' : ∃ o, h'.get? a = some o) : Rel (C.hide a) ρ σ h' := by
 have g : Grow (C.hide a) ρ ρ h h' := ⟨⟨[], by simp, by simp⟩, fun b o _ _ e => hk b o e⟩
 refine ⟨r.len, r.nodup, r.new, fun i b xs hb hx => ?_, fun b o e => hk b o (r.base b o e), fun b hb => ?_⟩
 ·obtain ⟨vs, ⟨n, ho⟩, hr⟩ := r.at_ i b xs hb hx
  exact ⟨vs, ⟨n, hk b _ ho⟩, (hr.hide ha).mono g⟩
 ·rcases hb with hb | rfl
  ·obtain ⟨o, e⟩ := r.hid b hb; exact ⟨o, hk b o e⟩
  ·exact ha'
theorem Rel.unhide {h : Heap} {a : Addr} (r : Rel (C.hide a) ρ σ h) : Rel C ρ σ h :=
 ⟨r.len, r.nodup, r.new, fun i b xs hb hx => let ⟨vs, p, hr⟩ := r.at_ i b xs hb hx; ⟨vs, p, hr.unhide.1⟩, r.base, fun b hb => r.hid b (.inl hb)⟩
theorem Rel.keepList {h : Heap} {a : Addr} {xs : List V} {vs : List Value} (r : Rel (C.hide a) ρ σ h) (ha : a ∉ ρ) (h0 : C.h₀.get? a = none) (p : PL h a vs) (q : Rs (C.hide a) ρ h xs vs) : Rel C (ρ ++ [a]) (σ ++ [xs]) h := by
 refine ⟨by simp [r.len], ?_, fun b hb => ?_, fun i b ys hb hy => ?_, r.base, fun b hb => r.hid b (.inl hb)⟩
 ·rw [List.nodup_append]
  exact ⟨r.nodup, by simp, fun x hx y hy e => by simp at hy; subst hy; subst e; exact ha hx⟩
 ·rcases List.mem_append.mp hb with hb | hb
  ·exact r.new b hb
  ·simp at hb; subst hb; exact h0
 ·by_cases hi : i < ρ.length
  ·rw [List.getElem?_append_left hi] at hb
   rw [List.getElem?_append_left (r.len ▸ hi)] at hy
   obtain ⟨ws, p', q'⟩ := r.at_ i b ys hb hy
   exact ⟨ws, p', q'.unhide.2⟩
  ·rw [List.getElem?_append_right (by lia)] at hb
   rw [List.getElem?_append_right (by have := r.len; lia), ← r.len] at hy
   cases hk : i - ρ.length with
   | zero => rw [hk] at hb hy; simp at hb hy; subst hb; subst hy; exact ⟨vs, p, q.unhide.2⟩
   | succ k => rw [hk] at hb; simp at hb
theorem items_of {v : V} {u : Value} {xs : List V} (st : St C ρ σ s) (h : itemsOf v σ = some (xs, σ')) (r : R C ρ s.heap v u) : σ = σ' ∧ Ex2 fun a vs => u = .ref a ∧ PL s.heap a vs ∧ Rs C ρ s.heap xs vs := by
 obtain ⟨e, h⟩ := itemsOf_iff h
 refine ⟨e, ?_⟩
 rcases h with rfl | ⟨k, rfl, hk⟩
 ·obtain ⟨a, vs, rfl, p, _, q⟩ := r
  exact ⟨a, vs, rfl, p, q⟩
 ·obtain ⟨a, rfl, ha⟩ := r
  obtain ⟨vs, p, q⟩ := st.rel.at_ k a xs ha hk
  exact ⟨a, vs, rfl, p, q⟩
end
end Mine.Internal
namespace Mine.Internal
open PySem PyProof.Rows PySem.W
theorem log2_small {n : Nat} (h : n < 2 ^ 256) : n.log2 < 256 := by
 rcases Nat.eq_zero_or_pos n with h0 | hp
 ·rw [h0]; decide
 ·exact (Nat.log2_lt (Nat.ne_of_gt hp)).mpr h
theorem bits_small {i : Int} (h : small i = true) : Builtin.Int.intBits i ≤ 2 ^ 20 := by
 unfold small at h
 have := log2_small (of_decide_eq_true h)
 unfold Builtin.Int.intBits
 split
 ·exact Nat.zero_le _
 ·have : (256 : Nat) ≤ 2 ^ 20 := by decide
  lia
theorem mul_small {a b : Int} (ha : small a = true) (hb : small b = true) : IntMulOk a b := .of_bits (bits_small ha) (bits_small hb)
theorem div_small {a b : Int} (hb : small b = true) : Builtin.divisionGoesByPylong a b = false := by
 unfold small at hb
 exact PyProof.noPylong_of_log2 (by have := log2_small (of_decide_eq_true hb); lia)
theorem bits_base {a : Int} (h : a.natAbs ≤ 65536) : Builtin.Int.intBits a ≤ 17 := by
 unfold Builtin.Int.intBits
 split
 ·exact Nat.zero_le _
 ·rename_i h0
  have e : (2 : Nat) ^ 17 = 131072 := by decide
  have : a.natAbs.log2 < 17 := (Nat.log2_lt (by simp at h0; lia)).mpr (by lia)
  lia
noncomputable def FreshAt (C : Cx) (ρ' : List Addr) (σ' : Sto) (h h' : Heap) (x : V) (u : Value) : Prop :=
 ∀ xs, x = .list xs → ∃ a, u = .ref a ∧ h.get? a = none ∧ Rel (C.hide a) ρ' σ' h' ∧ ∃ vs, PL h' a vs ∧ Rs (C.hide a) ρ' h' xs vs
noncomputable def LOut (C : Cx) (ρ : List Addr) (h : Heap) (σ' : Sto) (x : V) (u : Value) : Shared → Prop :=
 Out C Nox ρ h σ' (fun ρ' h' => R C ρ' h' x u ∧ FreshAt C ρ' σ' h h' x u)
section
variable {C : Cx} {ρ : List Addr} {σ σ' : Sto} {s : Shared} {A : Around}
theorem lout_val {x : V} {u : Value} {t : Nat} (st : St C ρ σ s) (r : R C ρ s.heap x u) (hx : ∀ xs, x ≠ .list xs) : LOut C ρ s.heap σ x u { s with toks := t } :=
 Out.here st ⟨r, fun xs e => absurd e (hx xs)⟩
theorem lout_list {xs : List V} {vs : List Value} {t k : Nat} (st : St C ρ σ s) (r : Rs C ρ s.heap xs vs) :
  LOut C ρ s.heap σ (.list xs) (.ref s.heap.objs.size) { s with heap := s.heap.push { cls := .type "list", data := .seq vs.toArray k }, toks := t } := by
 have hn := Heap.get?_size s.heap
 have hk := push_keeps s.heap { cls := .type "list", data := .seq vs.toArray k }
 have p : PL (s.heap.push { cls := .type "list", data := .seq vs.toArray k }) s.heap.objs.size vs := ⟨k, Heap.get?_push_size _ rfl⟩
 refine Out.keeps st hk ⟨?_, fun ys e => ?_⟩
 ·exact R.mkList p st.off (r.mono (Grow.ofKeeps hk))
 ·cases e
  exact ⟨_, rfl, hn, st.rel.hide hn hk ⟨_, Heap.get?_push_size _ rfl⟩, vs, p, (r.hide hn).mono (Grow.ofKeeps hk)⟩
theorem add_raw {l b : Addr} {vs ws : List Value} {Q : Value → Shared → Prop} (hl : PL s.heap l vs) (hb : PL s.heap b ws) (hsz : vs.length + ws.length ≤ sizeLine)
  (h : Q (.ref s.heap.objs.size) { s with heap := s.heap.push { cls := .type "list", data := .seq (vs ++ ws).toArray } }) :
  wpAny (Mdl C) A (binaryOp .Add (.ref l) (.ref b)) Q NoE s := by
 obtain ⟨n, ho⟩ := hl
 obtain ⟨n2, ho2⟩ := hb
 have e : vs.toArray ++ ws.toArray = (vs ++ ws).toArray := by simp
 refine concat_meets ⟨_, ho, rfl⟩ ⟨_, ho2, rfl⟩ noFill_list_add seq_list_add F.slot_list_add F.entry_list_add (F.args_list_add_2 _ _)
  (list_addW l b vs.toArray ws.toArray n n2 none none #[] #[] (by simpa using hsz)) ⟨ho, ho2, ?_⟩
 rw [e]; exact h
theorem foldl_app (vs : List Value) : ∀ (n : Nat) (acc : List Value), (List.replicate n vs.toArray).foldl (fun x1 x2 => x1 ++ x2) acc.toArray = (acc ++ (List.replicate n vs).flatten).toArray
 | 0, acc => by simp
 | n + 1, acc => by
  rw [List.replicate_succ, List.foldl_cons, List.append_toArray, foldl_app vs n (acc ++ vs)]
  simp [List.replicate_succ]
theorem mul_raw {l : Addr} {vs : List Value} {x : Int} {u : Tok} {Q : Value → Shared → Prop} (hl : PL s.heap l vs) (h0 : 0 ≤ x) (h1 : x ≤ 65536) (hne : vs ≠ []) (hsz : vs.length ≤ 16)
  (h : Q (.ref s.heap.objs.size) { s with heap := s.heap.push { cls := .type "list", data := .seq (List.replicate x.toNat vs).flatten.toArray } }) :
  wpAny (Mdl C) A (binaryOp .Mult (.ref l) (.int x u)) Q NoE s := by
 obtain ⟨k, hl⟩ := hl
 have e : List.foldl (fun x1 x2 => x1 ++ x2) #[] (List.replicate (if vs.toArray.isEmpty = true then 0 else x.toNat) vs.toArray) = (List.replicate x.toNat vs).flatten.toArray := by
  have hb : vs.toArray.isEmpty = false := by cases vs with
   | nil => exact absurd rfl hne
   | cons => rfl
  rw [hb]
  simpa using foldl_app vs x.toNat []
 have hz : vs.toArray.size * x.toNat ≤ 2 ^ 24 := by
  rw [List.size_toArray]
  have : x.toNat ≤ 65536 := by lia
  calc vs.length * x.toNat ≤ 16 * 65536 := Nat.mul_le_mul hsz this
   _ ≤ 2 ^ 24 := by decide
 refine wpAny_binaryOp_repeat_ref (T := "list") (U := "int") (by decide) ⟨_, hl, rfl⟩ (fun s' => typeIs_int s' x u) noFill_list_mul F.fills_int_mul F.slot_int_rmul repeat_list F.slot_int_index.lookup
  (call_meets F.slot_int_rmul (typeIs_int s x u) F.entry_int_rmul (F.args_int_rmul_2 _ _) (int___rmul___int_list x u l vs.toArray k)
   ⟨hl, rfl, ⟨_, hl, rfl⟩, call_meets F.slot_list_mul ⟨_, hl, rfl⟩ F.entry_list_mul (F.args_list_mul_2 _ _)
    (AutoListH.list___mul___list_int_3 l vs.toArray k x u (by simp [Builtin.List.listFitsIndex]; lia) (by lia) (by simp [Builtin.List.listTooLong, sizeLine]; simp at hz; lia))
    ⟨hl, ?_⟩⟩)
 rw [e]; exact h
theorem lout_int {i : Int} {t : Tok} {k : Nat} (st : St C ρ σ s) : LOut C ρ s.heap σ (.int i) (.int i t) { s with toks := k } := lout_val st R.mkInt (fun _ e => nomatch e)
theorem lout_bytes {i : Array UInt8} {t : Tok} {k : Nat} (st : St C ρ σ s) : LOut C ρ s.heap σ (.bytes i) (.bytes i t) { s with toks := k } := lout_val st R.mkBytes (fun _ e => nomatch e)
theorem addL_sound {a b v : V} {u u' : Value} (h : addL a b σ = some (v, σ')) (st : St C ρ σ s) (ra : R C ρ s.heap a u) (rb : R C ρ s.heap b u') :
  wpAny (Mdl C) A (binaryOp .Add u u') (fun x s' => LOut C ρ s.heap σ' v x s') NoE s := by
 refine M.bindE h fun xs σ₁ h1 h => M.bindE h fun ys σ₂ h2 h => M.iteE h fun hs h => M.pureE h ?_
 obtain ⟨rfl, a, vs, rfl, p1, q1⟩ := items_of st h1 ra
 obtain ⟨rfl, b, ws, rfl, p2, q2⟩ := items_of st h2 rb
 exact add_raw p1 p2 (by rw [q1.length, q2.length, sizeLine_eq]; lia) (lout_list st (q1.append q2))
theorem addV_sound {a b v : V} {u u' : Value} (h : addV a b σ = some (v, σ')) (st : St C ρ σ s) (ra : R C ρ s.heap a u) (rb : R C ρ s.heap b u') :
  wpAny (Mdl C) A (binaryOp .Add u u') (fun x s' => LOut C ρ s.heap σ' v x s') NoE s := by
 cases a with
 | int i => exact ra.intE fun t => intOf_R rb h fun j t' h => M.pureE h (P.add_int (lout_int st))
 | bytes i => exact ra.bytesE fun t => bytesOf_R rb h fun j t' h => M.iteE h fun hs h => M.pureE h (KBy.add_bytes (by lia) fun t' k => lout_bytes st)
 | list => exact addL_sound h st ra rb
 | lst => exact addL_sound h st ra rb
 | _ => exact M.failE h
theorem mulV_sound {a b v : V} {u u' : Value} (h : mulV a b σ = some (v, σ')) (st : St C ρ σ s) (ra : R C ρ s.heap a u) (rb : R C ρ s.heap b u') :
  wpAny (Mdl C) A (binaryOp .Mult u u') (fun x s' => LOut C ρ s.heap σ' v x s') NoE s := by
 cases a with
 | int i => exact ra.intE fun t => intOf_R rb h fun j t' h => M.iteE h fun hs h => M.pureE h (P.mul_int (lout_int st) (mul_small (Bool.and_eq_true_iff.mp hs).1 (Bool.and_eq_true_iff.mp hs).2))
 | list xs =>
  refine ra.listE fun a vs p _ q => intOf_R rb h fun j t' h => M.iteE h fun hs h => M.pureE h ?_
  simp only [Bool.and_eq_true, decide_eq_true_eq, beq_iff_eq] at hs
  exact mul_raw p hs.1.2 hs.2 (by intro e; have hl := q.length; rw [e, hs.1.1] at hl; simp at hl) (by rw [q.length, hs.1.1]; decide) (lout_list st (q.replicate _))
 | _ => exact M.failE h
theorem binV_sound {op : Operator} {a b v : V} {u u' : Value} (h : binV op a b σ = some (v, σ')) (st : St C ρ σ s) (ra : R C ρ s.heap a u) (rb : R C ρ s.heap b u') :
  wpAny (Mdl C) A (binaryOp op u u') (fun x s' => LOut C ρ s.heap σ' v x s') NoE s := by
 cases op with
 | Add => exact addV_sound h st ra rb
 | Sub => exact intOf_R ra h fun i t h => intOf_R rb h fun j t' h => M.pureE h (P.sub_int (lout_int st))
 | Mult => exact mulV_sound h st ra rb
 | FloorDiv =>
  refine intOf_R ra h fun i t h => intOf_R rb h fun j t' h => M.iteE h fun hs h => M.pureE h ?_
  obtain ⟨hs, h3⟩ := Bool.and_eq_true_iff.mp hs
  exact floordiv_int (by simpa using h3) (lout_int st) (.inl (div_small (Bool.and_eq_true_iff.mp hs).2))
 | Mod => exact intOf_R ra h fun i t h => intOf_R rb h fun j t' h => M.iteE h fun hs h => M.pureE h (mod_int' (by simpa using hs) (lout_int st))
 | Pow =>
  refine intOf_R ra h fun i t h => intOf_R rb h fun j t' h => M.iteE h fun hs h => M.pureE h ?_
  simp only [Bool.and_eq_true, decide_eq_true_eq] at hs
  refine pow_int hs.1.1 ?_ (lout_int st)
  have := bits_base hs.2
  calc ((Builtin.Int.intBits _ : Nat) : Int) * _ ≤ 17 * 256 := Int.mul_le_mul (by lia) hs.1.2 hs.1.1 (by decide)
   _ ≤ 2 ^ 27 := by decide
 | _ => exact M.failE h
end
end Mine.Internal
namespace Mine.Internal
open PySem PyProof.Rows PySem.W PySem.SeqAt
mutual
noncomputable def Rw (h : Heap) : V → Value → Prop
 | .none, v => v = .none
 | .bool b, v => v = .bool b
 | .int i, v => ∃ t, v = .int i t
 | .str x, v => ∃ t, v = .str x t
 | .bytes b, v => ∃ t, v = .bytes b t
 | .tup xs, v => Ex2 fun a vs => v = .ref a ∧ PT h a vs ∧ Rsw h xs vs
 | .list xs, v => Ex2 fun a vs => v = .ref a ∧ PL h a vs ∧ Rsw h xs vs
 | _, _ => True
noncomputable def Rsw (h : Heap) : List V → List Value → Prop
 | [], vs => vs = []
 | x :: xs, vs => Ex2 fun v vs' => vs = v :: vs' ∧ Rw h x v ∧ Rsw h xs vs'
end
mutual
theorem R.weak {C : Cx} {ρ : List Addr} {h : Heap} : ∀ {x : V} {v : Value}, R C ρ h x v → Rw h x v
 | .none, _, r => r
 | .bool _, _, r => r
 | .int _, _, r => r
 | .str _, _, r => r
 | .bytes _, _, r => r
 | .typ _, _, _ => trivial
 | .blt _, _, _ => trivial
 | .glob _, _, _ => trivial
 | .lst _, _, _ => trivial
 | .rng _ _ _, _, _ => trivial
 | .tup xs, v, r => by
  show Ex2 fun _ _ => _
  obtain ⟨a, vs, rfl, p, _, hr⟩ := r
  exact ⟨a, vs, rfl, p, Rs.weak hr⟩
 | .list xs, v, r => by
  show Ex2 fun _ _ => _
  obtain ⟨a, vs, rfl, p, _, hr⟩ := r
  exact ⟨a, vs, rfl, p, Rs.weak hr⟩
theorem Rs.weak {C : Cx} {ρ : List Addr} {h : Heap} : ∀ {xs : List V} {vs : List Value}, Rs C ρ h xs vs → Rsw h xs vs
 | [], _, r => r
 | x :: xs, vs, r => by
  show Ex2 fun _ _ => _
  obtain ⟨v, vs', rfl, h1, h2⟩ := r
  exact ⟨v, vs', rfl, R.weak h1, Rs.weak h2⟩
end
theorem Rsw.length {h : Heap} : ∀ {xs : List V} {vs : List Value}, Rsw h xs vs → vs.length = xs.length
 | [], _, r => by cases (show _ = [] from r); rfl
 | x :: xs, vs, r => by obtain ⟨v, vs', rfl, _, r'⟩ := r; simp [r'.length]
theorem Rsw.get {h : Heap} : ∀ {xs : List V} {vs : List Value} {i : Nat} {x : V}, Rsw h xs vs → xs[i]? = some x → ∃ v, vs[i]? = some v ∧ Rw h x v
 | [], _, _, _, _, e => by simp at e
 | y :: xs, vs, i, x, r, e => by
  obtain ⟨v, vs', rfl, a, r'⟩ := r
  cases i with
  | zero => simp at e; subst e; exact ⟨v, rfl, a⟩
  | succ i => simp at e; obtain ⟨u, hu, ru⟩ := r'.get e; exact ⟨u, by simpa using hu, ru⟩
section
variable {s : Shared}
noncomputable def pairs (f : V → V → Option Bool) : List V → List V → List Bool
 | x :: xs, y :: ys => (f x y).getD false :: pairs f xs ys
 | _, _ => []
theorem eqvsE {f : V → V → Option Bool} {x y : V} {xs ys : List V} {t : Bool} {P : Prop} (h : eqvs f (x :: xs) (y :: ys) = some t) (k : ∀ p q, f x y = some p → eqvs f xs ys = some q → (p && q) = t → P) : P := by
 unfold eqvs at h
 cases h1 : f x y with
 | none => rw [h1] at h; exact nomatch h
 | some p =>
  cases h2 : eqvs f xs ys with
  | none => rw [h1, h2] at h; exact nomatch h
  | some q => rw [h1, h2] at h; exact k p q h1 h2 (Option.some.inj h)
theorem eqvs_pairs {f : V → V → Option Bool} : ∀ {xs ys : List V} {t : Bool}, eqvs f xs ys = some t → t = (pairs f xs ys).all id
 | [], _, t, h => (Option.some.inj h).symm
 | _ :: _, [], t, h => (Option.some.inj h).symm
 | x :: xs, y :: ys, t, h => eqvsE h fun p q h1 h2 e => by
  rw [← e, eqvs_pairs h2, show pairs f (x :: xs) (y :: ys) = (f x y).getD false :: pairs f xs ys from rfl, h1]; rfl
theorem pairs_length {f : V → V → Option Bool} : ∀ {xs ys : List V}, (pairs f xs ys).length = min xs.length ys.length
 | [], _ => (Nat.zero_min _).symm
 | _ :: _, [] => (Nat.min_zero _).symm
 | x :: xs, y :: ys => (congrArg Nat.succ pairs_length).trans (Nat.succ_min_succ ..).symm
theorem pairs_get {f : V → V → Option Bool} : ∀ {xs ys : List V} {t : Bool} {j : Nat} {x y : V}, eqvs f xs ys = some t → xs[j]? = some x → ys[j]? = some y → ∃ p, f x y = some p ∧ (pairs f xs ys)[j]? = some p
 | [], _, _, _, _, _, _, h, _ => nomatch h
 | _ :: _, [], _, _, _, _, _, _, h => nomatch h
 | a :: xs, b :: ys, t, j, x, y, h, hx, hy => eqvsE h fun p q h1 h2 e => by
  cases j with
  | zero => cases (Option.some.inj hx); cases (Option.some.inj hy); exact ⟨p, h1, by rw [show pairs f (a :: xs) (b :: ys) = (f a b).getD false :: pairs f xs ys from rfl, h1]; rfl⟩
  | succ j => exact (pairs_get (xs := xs) (ys := ys) (j := j) h2 hx hy)
theorem range_all (l : List Bool) : (List.range l.length).all (fun j => (l[j]?).getD false) = l.all id := by
 rw [Bool.eq_iff_iff, List.all_eq_true, List.all_eq_true]
 constructor
 ·intro h b hb
  obtain ⟨i, hi, rfl⟩ := List.getElem_of_mem hb
  have := h i (List.mem_range.mpr hi)
  simpa [List.getElem?_eq_getElem hi] using this
 ·intro h i hi
  have hi := List.mem_range.mp hi
  have := h l[i] (List.getElem_mem hi)
  simpa [List.getElem?_eq_getElem hi] using this
theorem PL.inj {h : Heap} {a : Addr} {vs us : List Value} (p : PL h a vs) (q : PL h a us) : vs = us := by
 obtain ⟨n, e⟩ := p; obtain ⟨m, e'⟩ := q
 rw [e] at e'; simp at e'; exact e'.1
theorem PT.inj {h : Heap} {a : Addr} {vs us : List Value} (p : PT h a vs) (q : PT h a us) : vs = us := by
 obtain ⟨n, e⟩ := p; obtain ⟨m, e'⟩ := q
 rw [e] at e'; simp at e'; exact e'.1
theorem Option.mapE {α β : Type} {f : α → β} {o : Option α} {b : β} {P : Prop} (h : o.map f = some b) (k : ∀ a, o = some a → f a = b → P) : P := by cases o with
 | none => exact no_none h
 | some a => exact k a rfl (Option.some.inj h)
theorem eqvs_same {h : Heap} {f : V → V → Option Bool} (hf : ∀ {x y : V} {v : Value} {t : Bool}, f x y = some t → Rw h x v → Rw h y v → t = true) :
  ∀ {xs ys : List V} {vs : List Value} {t : Bool}, eqvs f xs ys = some t → Rsw h xs vs → Rsw h ys vs → t = true
 | [], _, _, _, e, _, _ => (Option.some.inj e).symm
 | _ :: _, [], _, _, e, _, _ => (Option.some.inj e).symm
 | x :: xs, y :: ys, vs, t, e, r, q => by
  refine eqvsE e fun p p' h1 h2 e => ?_
  obtain ⟨v, vs', rfl, r1, r2⟩ : Ex2 fun v vs' => vs = v :: vs' ∧ Rw h x v ∧ Rsw h xs vs' := r
  obtain ⟨v', vs'', e', q1, q2⟩ : Ex2 fun v' vs'' => v :: vs' = v' :: vs'' ∧ Rw h y v' ∧ Rsw h ys vs'' := q
  cases e'
  rw [← e, hf h1 r1 q1, eqvs_same hf h2 r2 q2]; rfl
theorem eqA_cases {h : Heap} {x y : V} {u v : Value} {t : Bool} {P : Value → Value → Bool → Prop} (e : eqA x y = some t) (r : Rw h x u) (q : Rw h y v) (k2 : ∀ a b s t, P (.int a s) (.int b t) (a == b))
  (k3 : ∀ a b s t, P (.str a s) (.str b t) (a == b)) : P u v t := by
 cases x with
 | int a => cases y with
  | int b => obtain ⟨_, rfl⟩ : ∃ t, u = .int a t := r; obtain ⟨_, rfl⟩ : ∃ t, v = .int b t := q; cases Option.some.inj e; exact k2 a b _ _
  | _ => exact no_none e
 | str a => cases y with
  | str b => obtain ⟨_, rfl⟩ : ∃ t, u = .str a t := r; obtain ⟨_, rfl⟩ : ∃ t, v = .str b t := q; cases Option.some.inj e; exact k3 a b _ _
  | _ => exact no_none e
 | _ => exact no_none e
theorem eqv_cases {n : Nat} {x y : V} {t : Bool} {P : Prop} (e : eqv n x y = some t) (k0 : eqA x y = some t → P) (k1 : ∀ m xs ys p, n = m + 1 → x = .tup xs → y = .tup ys → eqvs (eqv m) xs ys = some p → (p && xs.length == ys.length) = t → P)
  (k2 : ∀ m xs ys, n = m + 1 → x = .list xs → y = .list ys → (if (xs.length == ys.length) = true then eqvs (eqv m) xs ys else some false) = some t → P) : P := by
 cases n with
 | zero => exact k0 e
 | succ m =>
  cases x with
  | tup xs => cases y with
   | tup ys => exact Option.mapE e fun p hp e => k1 m xs ys p rfl rfl rfl hp e
   | _ => exact no_none e
  | list xs => cases y with
   | list ys => exact k2 m xs ys rfl rfl rfl e
   | _ => exact no_none e
  | int => exact k0 e
  | str => exact k0 e
  | _ => exact no_none e
theorem eqv_same {h : Heap} : ∀ (n : Nat) {x y : V} {v : Value} {t : Bool}, eqv n x y = some t → Rw h x v → Rw h y v → t = true := by
 intro n
 induction n using Nat.strongRecOn with
 | ind n ih =>
  intro x y v t e r q
  refine eqv_cases e (fun e => ?_) (fun m xs ys p hn hx hy hp e2 => ?_) fun m xs ys hn hx hy e2 => ?_
  ·have := eqA_cases (P := fun u v t => u = v → t = true) e r q (fun a b s t e => by cases e; exact beq_self_eq_true _) (fun a b s t e => by cases e; exact beq_self_eq_true _)
   exact this rfl
  ·subst hn hx hy
   obtain ⟨a, vs, rfl, p1, r1⟩ : Ex2 fun a vs => v = .ref a ∧ PT h a vs ∧ Rsw h xs vs := r
   obtain ⟨b, us, e1, p2, r2⟩ : Ex2 fun b us => Value.ref a = .ref b ∧ PT h b us ∧ Rsw h ys us := q
   cases e1
   cases p1.inj p2
   rw [eqvs_same (ih m (Nat.lt_succ_self m)) hp r1 r2] at e2
   rw [← e2, ← r1.length, ← r2.length]; simp
  ·subst hn hx hy
   obtain ⟨a, vs, rfl, p1, r1⟩ : Ex2 fun a vs => v = .ref a ∧ PL h a vs ∧ Rsw h xs vs := r
   obtain ⟨b, us, e1, p2, r2⟩ : Ex2 fun b us => Value.ref a = .ref b ∧ PL h b us ∧ Rsw h ys us := q
   cases e1
   cases p1.inj p2
   rw [← r1.length, ← r2.length, if_pos (beq_self_eq_true _)] at e2
   exact eqvs_same (ih m (Nat.lt_succ_self m)) e2 r1 r2
theorem items_at {n : Nat} {A : Around} {xs ys : List V} {vs us : List Value} {p : Bool} (ih : ∀ {a b : V} {u v : Value} {t : Bool}, eqv n a b = some t → Rw s.heap a u → Rw s.heap b v → EqAt A s u v t) (hp : eqvs (eqv n) xs ys = some p) (r1 : Rsw s.heap xs vs) (r2 : Rsw s.heap ys us) :
  ∀ j (h1 : j < vs.toArray.size) (h2 : j < us.toArray.size), EqAt A s vs.toArray[j] us.toArray[j] (((pairs (eqv n) xs ys)[j]?).getD false) := by
 intro j h1 h2
 simp only [List.size_toArray] at h1 h2
 have g1 : xs[j]? = some (xs[j]'(r1.length ▸ h1)) := List.getElem?_eq_getElem _
 have g2 : ys[j]? = some (ys[j]'(r2.length ▸ h2)) := List.getElem?_eq_getElem _
 obtain ⟨k, hk, hg⟩ := pairs_get hp g1 g2
 obtain ⟨w1, e1, q1⟩ := r1.get g1
 obtain ⟨w2, e2, q2⟩ := r2.get g2
 have e1' : vs[j] = w1 := by rw [List.getElem?_eq_getElem h1] at e1; exact Option.some.inj e1
 have e2' : us[j] = w2 := by rw [List.getElem?_eq_getElem h2] at e2; exact Option.some.inj e2
 rw [hg, List.getElem_toArray, List.getElem_toArray, e1', e2']
 exact ih hk q1 q2
theorem tup_all {n : Nat} {xs ys : List V} {vs us : List Value} {p t : Bool} (hp : eqvs (eqv n) xs ys = some p) (e : (p && xs.length == ys.length) = t) (r1 : Rsw s.heap xs vs) (r2 : Rsw s.heap ys us) :
  ((List.range (min vs.toArray.size us.toArray.size)).all (fun j => ((pairs (eqv n) xs ys)[j]?).getD false) && vs.toArray.size == us.toArray.size) = t := by
 rw [← e, List.size_toArray, List.size_toArray, r1.length, r2.length, ← pairs_length (f := eqv n), range_all, ← eqvs_pairs hp]
theorem list_all {n : Nat} {xs ys : List V} {vs : List Value} {t : Bool} (hp : eqvs (eqv n) xs ys = some t) (hl : xs.length = ys.length) (r1 : Rsw s.heap xs vs) :
  (List.range vs.toArray.size).all (fun j => ((pairs (eqv n) xs ys)[j]?).getD false) = t := by
 rw [eqvs_pairs hp, List.size_toArray, r1.length, ← range_all, pairs_length, hl, Nat.min_self]
theorem eqAt_refs {A : Around} {a b : Addr} {t : Bool} (hs : a = b → t = true) (k : RcAt A s (.ref a) (.ref b) t) : EqAt A s (.ref a) (.ref b) t := by
 by_cases hab : a = b
 ·rw [hs hab, hab]; exact .same _
 ·exact .of_refs hab k
theorem rc_sound : ∀ (n : Nat) {A : Around} {a b : V} {u v : Value} {t : Bool}, A.units + n < cLine → eqv n a b = some t → Rw s.heap a u → Rw s.heap b v → RcAt A s u v t ∧ EqAt A s u v t := by
 intro n
 induction n using Nat.strongRecOn with
 | ind n ih =>
  intro A x y u v t hu e r q
  have same : u = v → t = true := fun q' => eqv_same n e r (by rw [q']; exact q)
  refine eqv_cases e (fun e => ?_) (fun m xs ys p hn hx hy hp e2 => ?_) fun m xs ys hn hx hy e2 => ?_
  ·exact eqA_cases (P := fun u v t => RcAt A s u v t ∧ EqAt A s u v t) e r q (fun a b s t => ⟨.int_int _ _ _ _, .int_int _ _ _ _⟩) (fun a b s t => ⟨.str_str _ _ _ _, .str_str _ _ _ _⟩)
  ·subst hn hx hy
   obtain ⟨a, vs, rfl, p1, r1⟩ : Ex2 fun a vs => u = .ref a ∧ PT s.heap a vs ∧ Rsw s.heap xs vs := r
   obtain ⟨b, us, rfl, p2, r2⟩ : Ex2 fun a vs => v = .ref a ∧ PT s.heap a vs ∧ Rsw s.heap ys vs := q
   have key : RcAt A s (.ref a) (.ref b) t := tup_all hp e2 r1 r2 ▸ RcAt.tuples p1.isTuple p2.isTuple (by lia) (items_at (fun h1 h2 h3 => (ih m (Nat.lt_succ_self m) (by simp; lia) h1 h2 h3).2) hp r1 r2)
   exact ⟨key, eqAt_refs (fun q => same (congrArg _ q)) key⟩
  ·subst hn hx hy
   obtain ⟨a, vs, rfl, p1, r1⟩ : Ex2 fun a vs => u = .ref a ∧ PL s.heap a vs ∧ Rsw s.heap xs vs := r
   obtain ⟨b, us, rfl, p2, r2⟩ : Ex2 fun a vs => v = .ref a ∧ PL s.heap a vs ∧ Rsw s.heap ys vs := q
   have key : RcAt A s (.ref a) (.ref b) t := by
    by_cases hl : xs.length = ys.length
    ·rw [if_pos (beq_iff_eq.mpr hl)] at e2
     exact list_all e2 hl r1 ▸ RcAt.lists p1.isList p2.isList (by simp [r1.length, r2.length, hl]) (by lia) (items_at (fun h1 h2 h3 => (ih m (Nat.lt_succ_self m) (by simp; lia) h1 h2 h3).2) e2 r1 r2)
    ·rw [if_neg (fun q => hl (beq_iff_eq.mp q))] at e2
     cases e2
     exact RcAt.lists_lengths p1.isList p2.isList (by simpa [r1.length, r2.length] using hl) (by lia)
   exact ⟨key, eqAt_refs (fun q => same (congrArg _ q)) key⟩
theorem ne_sound : ∀ (n : Nat) {A : Around} {a b : V} {u v : Value} {t : Bool}, A.units + n < cLine → eqv n a b = some t → Rw s.heap a u → Rw s.heap b v → RcNeAt A s u v (!t) := by
 intro n A x y u v t hu e r q
 refine eqv_cases e (fun e => ?_) (fun m xs ys p hn hx hy hp e2 => ?_) fun m xs ys hn hx hy e2 => ?_
 ·exact eqA_cases (P := fun u v t => RcNeAt A s u v (!t)) e r q (fun a b s t => .int_int _ _ _ _) (fun a b s t => .str_str _ _ _ _)
 ·subst hn hx hy
  obtain ⟨a, vs, rfl, p1, r1⟩ : Ex2 fun a vs => u = .ref a ∧ PT s.heap a vs ∧ Rsw s.heap xs vs := r
  obtain ⟨b, us, rfl, p2, r2⟩ : Ex2 fun a vs => v = .ref a ∧ PT s.heap a vs ∧ Rsw s.heap ys vs := q
  exact tup_all hp e2 r1 r2 ▸ RcNeAt.tuples p1.isTuple p2.isTuple (by lia) (items_at (fun h1 h2 h3 => (rc_sound m (by simp; lia) h1 h2 h3).2) hp r1 r2)
 ·subst hn hx hy
  obtain ⟨a, vs, rfl, p1, r1⟩ : Ex2 fun a vs => u = .ref a ∧ PL s.heap a vs ∧ Rsw s.heap xs vs := r
  obtain ⟨b, us, rfl, p2, r2⟩ : Ex2 fun a vs => v = .ref a ∧ PL s.heap a vs ∧ Rsw s.heap ys vs := q
  by_cases hl : xs.length = ys.length
  ·rw [if_pos (beq_iff_eq.mpr hl)] at e2
   exact list_all e2 hl r1 ▸ RcNeAt.lists p1.isList p2.isList (by simp [r1.length, r2.length, hl]) (by lia) (items_at (fun h1 h2 h3 => (rc_sound m (by simp; lia) h1 h2 h3).2) e2 r1 r2)
  ·rw [if_neg (fun q => hl (beq_iff_eq.mp q))] at e2
   cases e2
   exact RcNeAt.lists_lengths p1.isList p2.isList (by simpa [r1.length, r2.length] using hl) (by lia)
end
section
variable {C : Cx} {ρ : List Addr} {σ σ' : Sto} {s : Shared} {A : Around}
theorem frozen_sound {a b : V} {u : Value} (h : frozen a σ = some (b, σ')) (st : St C ρ σ s) (r : R C ρ s.heap a u) : σ = σ' ∧ Rw s.heap b u := by
 cases a with
 | lst k =>
  refine M.bindE h fun xs σ₁ h1 h => M.pureE h ?_
  obtain ⟨h1', rfl⟩ := M.look_iff.mp h1
  refine r.lstE fun a ha => ?_
  obtain ⟨vs, p, q⟩ := st.rel.at_ _ _ _ ha h1'
  exact ⟨rfl, ⟨a, vs, rfl, p, q.weak⟩⟩
 | _ => exact M.pureE h ⟨rfl, r.weak⟩
theorem eqM_sound {a b : V} {u v : Value} {t : Bool} (hu : A.units + 64 < cLine) (h : eqM a b σ = some (t, σ')) (st : St C ρ σ s) (ra : R C ρ s.heap a u) (rb : R C ρ s.heap b v) :
  σ = σ' ∧ RcAt A s u v t ∧ EqAt A s u v t ∧ EqAt A.in1 s u v t ∧ RcNeAt A s u v (!t) := by
 unfold eqM at h
 refine M.bindE h fun a' σ₁ h1 h => ?_
 refine M.bindE h fun b' σ₂ h2 h => ?_
 obtain ⟨rfl, wa⟩ := frozen_sound h1 st ra
 obtain ⟨rfl, wb⟩ := frozen_sound h2 st rb
 obtain ⟨h3, rfl⟩ := M.of_iff.mp h
 have := rc_sound (A := A) 6 (by lia) h3 wa wb
 exact ⟨rfl, this.1, this.2, (rc_sound (A := A.in1) 6 (by simp; lia) h3 wa wb).2, ne_sound 6 (by lia) h3 wa wb⟩
end
end Mine.Internal
namespace Mine.Internal
open PySem PyProof.Rows PySem.W PySem.SeqAt PySem.Calls
noncomputable def DfltAt (h : Heap) (a : Arguments) (dV kV : Value) : Prop :=
 (plainArgs a = true ∧ dV = .none ∧ kV = .none) ∨
 (bisectArgs a = true ∧ Ex4 fun T o n t => dV = .ref T ∧ h.get? T = some o ∧ o.cls = .type "tuple" ∧ o.data = .seq #[.int 0 t, .none] n ∧
  ∃ K, kV = .ref K ∧ h.Ns K (fun x => if x = ("key" : Str) then some .none else none))
structure FnW where
 ad : Addr
 o : Obj
 fd : FuncData
structure FnIs (M : Str → Option Value) (h : Heap) (x : Str) (a : Arguments) (body : List Stmt) (sc : Scope) (W : FnW) : Prop where
 mg : M x = some (.ref W.ad)
 at_ : h.get? W.ad = some W.o
 cls : W.o.cls = .type "function"
 data : W.o.data = .func W.fd
 params : W.fd.params = a
 body_ : W.fd.body = .stmts body
 scope : W.fd.scope = sc
 globals : W.fd.globals = mainGlobals
 closure : W.fd.closure = []
 builtins : W.fd.builtins = builtinsNs
 code : h.CodeRec W.fd.code W.fd.qualname
 noCo : sc.isCoroutine = false
 noGen : sc.isGenerator = false
 noFree : ∀ y ∈ sc.names, y.2 ≠ .free
 dflt : DfltAt h a W.fd.defaults W.fd.kwdefaults
noncomputable def FnAt (C : Cx) (x : Str) (a : Arguments) (body : List Stmt) (sc : Scope) : Prop := ∃ W, FnIs C.mg C.h₀ x a body sc W
noncomputable def GR (mg : Str → Option Value) : V → Value → Prop
 | .typ n, u => u = .type n
 | .blt n, u => u = .builtin n
 | .glob n, u => ∃ a, u = .ref a ∧ mg n = some (.ref a)
 | _, _ => False
theorem R.ofGlob {C : Cx} {v : V} {u : Value} (h : GR C.mg v u) (ρ : List Addr) (k : Heap) : R C ρ k v u := by
 cases v <;> first | exact h | exact (show False from h).elim
structure Good (C : Cx) : Prop where
 g : C.h₀.Ns mainGlobals C.mg
 b : C.h₀.Ns builtinsNs C.mb
 nolimit : C.h₀.NoLimit
 glob : ∀ x v, globV C.cfg x = some v → ∃ u, (C.mg x = some u ∨ (C.mg x = none ∧ C.mb x = some u)) ∧ GR C.mg v u
 b1 : Ex2 fun a n => C.mg "b1_set" = some (.ref a) ∧ C.h₀.SetOf (intKind C.cfg.prog C.w) a (fun i => C.cfg.b1.contains i) n
 b3 : Ex2 fun a f => C.mg "b3_exceptions" = some (.ref a) ∧ (a == sysModules) = false ∧ C.h₀.MapOf (intKind C.cfg.prog C.w) a f ∧
  ∀ i, (C.cfg.b3.lookup i = none → f i = none) ∧ ∀ x, C.cfg.b3.lookup i = some x → ∃ t, f i = some (.str x t)
 fns : ∀ x a body sc, defOf C.cfg.prog x = some (a, body, sc) → FnAt C x a body sc
 low : ∀ x y, C.cfg.low x = some y → Txt.lower x = y ∧ y.length ≤ 65536
section
variable {C : Cx} {ρ : List Addr} {σ σ' : Sto} {s : Shared} {A : Around}
theorem Good.hid {C : Cx} (G : Good C) (H : Addr → Prop) : Good { C with hid := H } := ⟨G.g, G.b, G.nolimit, G.glob, G.b1, G.b3, G.fns, G.low⟩
theorem in_items {xs : List V} {x : V} {u : Value} {l : Addr} {vs : List Value} {t : Bool} (hu : A.units + 64 < cLine) (st : St C ρ σ s) (p : PL s.heap l vs) (q : Rs C ρ s.heap xs vs) (rx : R C ρ s.heap x u)
  (h : inList x xs σ = some (t, σ')) : σ = σ' ∧ ∃ e : Value → Bool, (∀ y, y ∈ vs.toArray → EqAt A.in1 s y u (e y)) ∧ vs.toArray.any e = t := by
 have key : ∀ (xs : List V) (vs : List Value) (σ' : Sto) (t : Bool), Rs C ρ s.heap xs vs → inList x xs σ = some (t, σ') →
   σ = σ' ∧ (∀ y, y ∈ vs → ∃ b, EqAt A.in1 s y u b) ∧ ∃ bs : List Bool, bs.length = vs.length ∧ (∀ (j : Nat) (y : Value) (b : Bool), vs[j]? = some y → bs[j]? = some b → EqAt A.in1 s y u b) ∧ bs.any id = t := by
  intro xs
  induction xs with
  | nil =>
   intro vs σ' t q h
   simp only [Rs] at q
   subst q
   unfold inList at h
   obtain ⟨rfl, rfl⟩ := M.pure_iff.mp h
   exact ⟨rfl, by simp, [], by simp⟩
  | cons y ys ih =>
   intro vs σ' t q h
   simp only [Rs] at q
   obtain ⟨v, vs', rfl, r1, r2⟩ := q
   unfold inList at h
   refine M.bindE h fun b σ₁ h1 h => ?_
   refine M.bindE h fun c σ₂ h2 h => ?_
   obtain ⟨rfl, rfl⟩ := M.pure_iff.mp h
   obtain ⟨rfl, _, _, e1, _⟩ := eqM_sound hu h1 st r1 rx
   obtain ⟨rfl, i1, bs, l1, i2, i3⟩ := ih vs' σ₂ c r2 h2
   refine ⟨rfl, fun z hz => ?_, b :: bs, by simp [l1], fun j z b' hz hb => ?_, by simp [i3]⟩
   ·rcases List.mem_cons.mp hz with rfl | hz
    ·exact ⟨b, e1⟩
    ·exact i1 z hz
   ·cases j with
    | zero => simp at hz hb; subst hz hb; exact e1
    | succ j => simp at hz hb; exact i2 j z b' hz hb
 obtain ⟨e, k1, bs, hl, k2, k3⟩ := key xs vs σ' t q h
 refine ⟨e, fun y => (vs.zip bs).any fun p => p.1 == y && p.2, fun y hy => ?_, ?_⟩
 ·have hy : y ∈ vs := by simpa using hy
  obtain ⟨j, hj, rfl⟩ := List.getElem_of_mem hy
  have hj' : j < bs.length := hl ▸ hj
  show EqAt A.in1 s vs[j] u ((vs.zip bs).any fun p => p.1 == vs[j] && p.2)
  cases hb : (vs.zip bs).any fun p => p.1 == vs[j] && p.2 with
  | true =>
   obtain ⟨⟨a, b⟩, hm, hab⟩ := List.any_eq_true.mp hb
   simp only [Bool.and_eq_true, beq_iff_eq] at hab
   obtain ⟨rfl, rfl⟩ := hab
   obtain ⟨i, hi, he⟩ := List.getElem_of_mem hm
   have h1 : vs[i]? = some vs[j] := by
    have := congrArg Prod.fst he
    simp at this hi
    rw [List.getElem?_eq_getElem (by lia), this]
   have h2 : bs[i]? = some true := by
    have := congrArg Prod.snd he
    simp at this hi
    rw [List.getElem?_eq_getElem (by lia), this]
   exact k2 i _ _ h1 h2
  | false =>
   have h1 : vs[j]? = some vs[j] := List.getElem?_eq_getElem hj
   have h2 : bs[j]? = some bs[j] := List.getElem?_eq_getElem hj'
   have := k2 j _ _ h1 h2
   cases hbj : bs[j] with
   | false => rw [hbj] at this; exact this
   | true =>
    exfalso
    rw [List.any_eq_false] at hb
    have hm : (vs[j], bs[j]) ∈ vs.zip bs := by
     refine List.mem_iff_getElem.mpr ⟨j, by simp; lia, by simp⟩
    exact hb _ hm (by simp [hbj])
 ·rw [← k3, Bool.eq_iff_iff]
  simp only [Array.any_eq_true, List.any_eq_true, id]
  constructor
  ·rintro ⟨i, hi, ⟨a, b⟩, hm, hab⟩
   simp only [Bool.and_eq_true, beq_iff_eq] at hab
   exact ⟨b, (List.of_mem_zip hm).2, hab.2⟩
  ·rintro ⟨b, hb, hbt⟩
   obtain ⟨j, hj, rfl⟩ := List.getElem_of_mem hb
   have hj' : j < vs.length := hl ▸ hj
   exact ⟨j, by simpa using hj', (vs[j], bs[j]), List.mem_iff_getElem.mpr ⟨j, by simp; lia, by simp⟩, by simp [hbt]⟩
theorem Good.set {C : Cx} (G : Good C) (st : St C ρ σ s) : Ex2 fun a n => C.mg "b1_set" = some (.ref a) ∧ s.heap.SetOf (intKind C.cfg.prog C.w) a (fun i => C.cfg.b1.contains i) n := by
 obtain ⟨a, n, hm, o, es, ep, t, ho, r⟩ := G.b1
 exact ⟨a, n, hm, o, es, ep, t, st.rel.base _ _ ho, r⟩
theorem int_is {p : Program} {w : World} (i : Int) (t : Tok) : (intKind p w).is i (.int i t) = true := beq_self_eq_true i
noncomputable def BOut (C : Cx) (ρ : List Addr) (h : Heap) (σ' : Sto) (t : Bool) (u : Value) : Shared → Prop :=
 Out C Nox ρ h σ' (fun _ _ => u = .bool t)
theorem bout {t : Bool} {k : Nat} (st : St C ρ σ s) : BOut C ρ s.heap σ t (.bool t) { s with toks := k } := Out.here st rfl
theorem bout' {t : Bool} (st : St C ρ σ s) : BOut C ρ s.heap σ t (.bool t) s := Out.here' st rfl
theorem isM_sound {a b : V} {u v : Value} {t : Bool} (h : isM a b = some t) (ra : R C ρ s.heap a u) (rb : R C ρ s.heap b v) : PySem.plainIs u v = true ∧ (u == v) = t := by
 cases a with
 | none =>
  refine ra.noneE ?_
  cases b with
  | none => exact rb.noneE ⟨rfl, Option.some.inj h⟩
  | bool => exact rb.boolE ⟨rfl, Option.some.inj h⟩
  | int => exact rb.intE fun t => ⟨rfl, Option.some.inj h⟩
  | _ => exact no_none h
 | bool x =>
  refine ra.boolE ?_
  cases b with
  | none => exact rb.noneE ⟨rfl, Option.some.inj h⟩
  | bool y => exact rb.boolE ⟨rfl, by cases Option.some.inj h; cases x <;> cases y <;> rfl⟩
  | _ => exact no_none h
 | int =>
  refine ra.intE fun t => ?_
  cases b with
  | none => exact rb.noneE ⟨rfl, Option.some.inj h⟩
  | _ => exact no_none h
 | str =>
  refine ra.strE fun t => ?_
  cases b with
  | none => exact rb.noneE ⟨rfl, Option.some.inj h⟩
  | _ => exact no_none h
 | glob =>
  refine ra.globE fun a e => ?_
  cases b with
  | none => exact rb.noneE ⟨rfl, Option.some.inj h⟩
  | _ => exact no_none h
 | _ => exact no_none h
theorem inV_sound (G : Good C) {a b : V} {u v : Value} {t : Bool} (hu : A.units + 64 < cLine) (h : inV C.cfg a b σ = some (t, σ')) (st : St C ρ σ s) (ra : R C ρ s.heap a u) (rb : R C ρ s.heap b v) :
  wpAny (Mdl C) A (compareOp .In u v) (fun x s' => BOut C ρ s.heap σ' t x s') NoE s ∧ wpAny (Mdl C) A (compareOp .NotIn u v) (fun x s' => BOut C ρ s.heap σ' (!t) x s') NoE s := by
 cases b with
 | list xs =>
  refine rb.listE fun l vs p _ q => ?_
  obtain ⟨rfl, e, h1, h2⟩ := in_items hu st p q ra h
  exact ⟨in_listAt e p.isList h1 (h2 ▸ bout' st), notIn_listAt e p.isList h1 (h2 ▸ bout' st)⟩
 | lst r =>
  refine M.bindE h fun xs σ₁ h1 h2 => ?_
  obtain ⟨rfl, l, vs, rfl, p, q⟩ := items_of st h1 rb
  obtain ⟨rfl, e, h3, h4⟩ := in_items hu st p q ra h2
  exact ⟨in_listAt e p.isList h3 (h4 ▸ bout' st), notIn_listAt e p.isList h3 (h4 ▸ bout' st)⟩
 | glob n =>
  refine rb.globE fun l hl => intOf_R ra h fun i t'' h => M.iteE h fun hn h => M.pureE h ?_
  rw [beq_iff_eq.mp hn] at hl
  obtain ⟨a, n, hm, hs⟩ := G.set st
  rw [hm] at hl; cases hl
  exact ⟨wpAny_inSet_of (knd := intKind C.cfg.prog C.w) (int_is _ _) rfl hs (bout st), wpAny_notInSet_of (knd := intKind C.cfg.prog C.w) (int_is _ _) rfl hs (bout st)⟩
 | _ => exact M.failE h
theorem eqV_sound {a b : V} {u v : Value} {t : Bool} (hu : A.units + 64 < cLine) (h : eqV a b σ = some (t, σ')) (st : St C ρ σ s) (ra : R C ρ s.heap a u) (rb : R C ρ s.heap b v) :
  wpAny (Mdl C) A (compareOp .Eq u v) (fun x s' => BOut C ρ s.heap σ' t x s') NoE s := by
 have go : eqM a b σ = some (t, σ') → wpAny (Mdl C) A (compareOp .Eq u v) (fun x s' => BOut C ρ s.heap σ' t x s') NoE s := fun h => by
  obtain ⟨rfl, h1, _⟩ := eqM_sound hu h st ra rb
  exact cmp_ofEq (h1 _ _ _ _ (bout' st))
 cases a with
 | bytes i => exact ra.bytesE fun t => bytesOf_R rb h fun j t' h => M.pureE h (eq_bytes (bout' st))
 | _ => exact go h
theorem cmpV_sound (G : Good C) {op : CmpOp} {a b : V} {u v : Value} {t : Bool} (hu : A.units + 64 < cLine) (h : cmpV C.cfg op a b σ = some (t, σ')) (st : St C ρ σ s) (ra : R C ρ s.heap a u) (rb : R C ρ s.heap b v) :
  wpAny (Mdl C) A (compareOp op u v) (fun x s' => BOut C ρ s.heap σ' t x s') NoE s := by
 cases op with
 | Lt => exact intOf_R ra h fun i t h => intOf_R rb h fun j t' h => M.pureE h (P.lt_int (bout' st))
 | Gt => exact intOf_R ra h fun i t h => intOf_R rb h fun j t' h => M.pureE h (P.gt_int (bout' st))
 | Eq => exact eqV_sound hu h st ra rb
 | NotEq =>
  refine M.bindE h fun r σ₁ h1 h => M.pureE h ?_
  obtain ⟨rfl, _, _, _, h1⟩ := eqM_sound hu h1 st ra rb
  exact cmp_ofNotEq (h1 _ _ _ _ (bout' st))
 | Is =>
  obtain ⟨h1, rfl⟩ := M.of_iff.mp h
  obtain ⟨p, e⟩ := isM_sound h1 ra rb
  exact wpAny_is_plain p (e ▸ bout' st)
 | IsNot =>
  refine M.bindE h fun r σ₁ h1 h => M.pureE h ?_
  obtain ⟨h2, rfl⟩ := M.of_iff.mp h1
  obtain ⟨p, e⟩ := isM_sound h2 ra rb
  exact wpAny_isNot_plain p (e ▸ bout' st)
 | In => exact (inV_sound G hu h st ra rb).1
 | NotIn => exact M.bindE h fun r σ₁ h1 h => M.pureE h (inV_sound G hu h1 st ra rb).2
 | _ => exact M.failE h
theorem truthyV_sound {a : V} {u : Value} {t : Bool} (h : truthyV a σ = some (t, σ')) (st : St C ρ σ s) (ra : R C ρ s.heap a u) :
  wpAny (Mdl C) A (truthy u) (fun x s' => Out C Nox ρ s.heap σ' (fun _ _ => x = t) s') NoE s := by
 cases a with
 | bool b => exact ra.boolE (M.pureE h (wpAny_truthy_bool (Out.here' st rfl)))
 | int i => exact ra.intE fun t => M.pureE h (P.truthy_int (Out.here' st rfl))
 | _ => exact M.failE h
theorem unV_sound {op : UnaryOp} {a v : V} {u : Value} (h : unV op a σ = some (v, σ')) (st : St C ρ σ s) (ra : R C ρ s.heap a u) :
  wpAny (Mdl C) A (unaryOp op u) (fun x s' => LOut C ρ s.heap σ' v x s') NoE s := by
 cases op with
 | USub => exact intOf_R ra h fun i t h => M.pureE h (P.neg_int (lout_int st))
 | _ => exact M.failE h
end
section
variable {C : Cx} {ρ : List Addr} {σ σ' : Sto} {s : Shared} {A : Around}
theorem lout_R' {x : V} {u : Value} (st : St C ρ σ s) (r : R C ρ s.heap x u) : Out C Nox ρ s.heap σ (fun ρ' h' => R C ρ' h' x u) s := Out.here' st r
theorem seqIdx {i : Int} {n : Nat} (h0 : 0 ≤ i) (h1 : i.toNat < n) : seqIndex? i n = some i.toNat := by
 have h2 : ¬ i < 0 := Int.not_lt.mpr h0
 have h3 : ¬ (n : Int) ≤ i := Int.not_le.mpr ((Int.toNat_lt h0).mp h1)
 simp [seqIndex?, h2, h3]
theorem item_list {l : Addr} {vs : List Value} {xs : List V} {i : Int} {t : Tok} {v : V} {value slice : Expr} (h0 : 0 ≤ i) (h2 : i < 2 ^ 63) (st : St C ρ σ s) (p : PL s.heap l vs) (q : Rs C ρ s.heap xs vs) (h3 : xs[i.toNat]? = some v)
  (hs : subscripted slice false (.ref l) (.int i t) = operate [.ref l, .int i t] (getItem (.ref l) (.int i t))) :
  wpAny (Mdl C) A (subscriptTail value slice (.ref l) (.int i t)) (fun x s' => Out C Nox ρ s.heap σ (fun ρ' h' => R C ρ' h' v x) s') NoE s := by
 obtain ⟨w, hw, rw'⟩ := q.get h3
 exact tail_any p.isList.typeIs slot_list_getitem.lookup (wpAny_getItem_list p.isList h0 h2 (by simpa using hw) (lout_R' st rw')) hs
theorem indexV_sound {o j v : V} {u u' : Value} {value slice : Expr} (h : indexV o j σ = some (v, σ')) (st : St C ρ σ s) (ro : R C ρ s.heap o u) (rj : R C ρ s.heap j u')
  (hs : subscripted slice false u u' = operate [u, u'] (getItem u u')) :
  wpAny (Mdl C) A (subscriptTail value slice u u') (fun x s' => Out C Nox ρ s.heap σ' (fun ρ' h' => R C ρ' h' v x) s') NoE s := by
 revert hs
 refine intOf_R rj h fun i t h => M.iteE h fun hi h => ?_
 simp only [Bool.and_eq_true, decide_eq_true_eq] at hi
 obtain ⟨h0, h1⟩ := hi
 have h2 : i < 2 ^ 63 := Int.lt_trans h1 (by decide)
 cases o with
 | list xs =>
  refine ro.listE fun l vs p _ q hs => ?_
  obtain ⟨h3, rfl⟩ := M.of_iff.mp h
  exact item_list h0 h2 st p q h3 hs
 | tup xs =>
  refine ro.tupE fun l vs p _ q hs => ?_
  obtain ⟨h3, rfl⟩ := M.of_iff.mp h
  obtain ⟨w, hw, rw'⟩ := q.get h3
  have hlt := (List.getElem?_eq_some_iff.mp hw).1
  exact tail_any p.isTuple.typeIs F.slot_tuple_getitem.lookup (getItem_tuple p.isTuple (by lia) h2 (seqIdx h0 (by simpa using hlt)) (by simpa using hw) (lout_R' st rw')) hs
 | lst r =>
  refine ro.lstE fun l hl hs => M.bindE h fun xs σ₁ h3 h4 => ?_
  obtain ⟨h5, rfl⟩ := M.look_iff.mp h3
  obtain ⟨h6, rfl⟩ := M.of_iff.mp h4
  obtain ⟨vs, p, q⟩ := st.rel.at_ _ _ _ hl h5
  exact item_list h0 h2 st p q h6 hs
 | _ => exact M.failE h
theorem Out.after {h h₁ : Heap} {P : List Addr → Heap → Prop} {s' : Shared} (hk : ∀ b o, h.get? b = some o → h₁.get? b = some o) (al : ∀ b ∈ ρ, ∃ o, h₁.get? b = some o) (o : Out C Nox ρ h₁ σ' P s') : Out C Nox ρ h σ' P s' :=
 let ⟨ρ', t, st, p⟩ := o; ⟨ρ', (Tr.ofKeeps hk).trans t (fun _ x => x.elim) al, st, p⟩
theorem LOut.after {h h₁ : Heap} {x : V} {u : Value} {s' : Shared} (hk : ∀ b o, h.get? b = some o → h₁.get? b = some o) (al : ∀ b ∈ ρ, ∃ o, h₁.get? b = some o) (o : LOut C ρ h₁ σ' x u s') : LOut C ρ h σ' x u s' := by
 refine (Out.after hk al o).mono fun ρ' h' p => ⟨p.1, fun xs e => ?_⟩
 obtain ⟨a, ha, hn, rest⟩ := p.2 xs e
 refine ⟨a, ha, ?_, rest⟩
 cases e : h.get? a with
 | none => rfl
 | some o => rw [hk a o e] at hn; cases hn
theorem part_of {v : V} {u : Value} {l : Option Int} (h : optInt v = some l) (r : R C ρ s.heap v u) : IsPart u l := by
 cases v with
 | none => exact r.noneE (by cases Option.some.inj h; exact .none)
 | int i =>
  refine r.intE fun t => ?_
  by_cases q : decide (i.natAbs < 2 ^ 62) = true
  ·have h : (if decide (i.natAbs < 2 ^ 62) = true then some (some i) else none) = some l := h
   rw [if_pos q] at h; cases Option.some.inj h; exact .int _ _
  ·have h : (if decide (i.natAbs < 2 ^ 62) = true then some (some i) else none) = some l := h
   rw [if_neg q] at h; exact no_none h
 | _ => exact no_none h
noncomputable def sliceObj (a b c : Value) : Obj := { cls := .type "slice", data := .fields #[a, b, c] }
theorem Rs.cut {h : Heap} {xs : List V} {vs : List Value} (q : Rs C ρ h xs vs) (lo hi : Option Int) :
  Rs C ρ h (cut lo hi xs) ((vs.drop (lo.elim 0 (clipAt vs.length))).take (hi.elim vs.length (clipAt vs.length) - lo.elim 0 (clipAt vs.length))) := by
 unfold Mine.Internal.cut
 rw [q.length]
 exact (q.drop _).take _
theorem St.push (st : St C ρ σ s) (o : Obj) : St C ρ σ { s with heap := s.heap.push o } := st.keeps (t := s.toks) (push_keeps _ _)
theorem St.alive (st : St C ρ σ s) : ∀ b ∈ ρ, ∃ o, s.heap.get? b = some o := fun _ hb => st.rel.alive hb
theorem PL.push {h : Heap} {a : Addr} {vs : List Value} (p : PL h a vs) (o : Obj) : PL (h.push o) a vs := let ⟨n, e⟩ := p; ⟨n, Heap.get?_push_of_some _ e⟩
theorem list_slice {l : Addr} {vs : List Value} {xs : List V} {a b : Value} {lo hi : Option Int} (st : St C ρ σ s) (p : PL s.heap l vs) (q : Rs C ρ s.heap xs vs) (hx : xs.length ≤ 65536) (pa : IsPart a lo) (pb : IsPart b hi) :
  wpAny (Mdl C) A (getItem (.ref l) (.ref s.heap.objs.size)) (fun x s' => LOut C ρ s.heap σ (.list (cut lo hi xs)) x s') NoE { s with heap := s.heap.push (sliceObj a b .none) } := by
 refine wpAny_getItem_list_slice (st := none) (s := { s with heap := s.heap.push (sliceObj a b .none) }) (p.push _).isList (Heap.IsSliceOf.new s.heap a b .none) pa pb .none (by simp) ?_ (by rw [List.size_toArray, q.length, sizeLine_eq]; lia)
 rw [slicePick_plain]
 simp only [List.size_toArray]
 exact LOut.after (push_keeps _ _) (st.push _).alive (lout_list (st.push _) ((q.cut lo hi).mono (Grow.ofKeeps (push_keeps _ _))))
noncomputable abbrev slS (s : Shared) (a b c : Value) : Shared := { s with heap := s.heap.push (sliceObj a b c) }
theorem sliceN_sound {o v : V} {u ul uh : Value} {value : Expr} {slice : Expr} {ops : List Value} {l h : Option Int} (hh : sliceN o l h σ = some (v, σ')) (st : St C ρ σ s) (ro : R C ρ s.heap o u) (pl : IsPart ul l) (ph : IsPart uh h)
  (hs : subscripted slice false u (.ref s.heap.objs.size) = operate ops (getItem u (.ref s.heap.objs.size))) :
  wpAny (Mdl C) A (subscriptTail value slice u (.ref s.heap.objs.size)) (fun x s' => LOut C ρ s.heap σ' v x s') NoE (slS s ul uh .none) := by
 have af := fun {x : V} {w : Value} {s' : Shared} => LOut.after (C := C) (ρ := ρ) (σ' := σ) (x := x) (u := w) (s' := s') (push_keeps s.heap (sliceObj ul uh .none)) (st.push (sliceObj ul uh .none)).alive
 revert hs
 cases o with
 | list xs =>
  exact ro.listE fun a vs q _ r hs => M.iteE hh fun hx hh => M.pureE hh (tail_any (s := slS s ul uh .none) (q.push _).isList.typeIs slot_list_getitem.lookup (list_slice st q r hx pl ph) hs)
 | lst k =>
  refine ro.lstE fun a ha hs => M.bindE hh fun xs σ₃ h5 hh => M.iteE hh fun hx hh => M.pureE hh ?_
  obtain ⟨h6, rfl⟩ := M.look_iff.mp h5
  obtain ⟨vs, q, r⟩ := st.rel.at_ _ _ _ ha h6
  exact tail_any (s := slS s ul uh .none) (q.push _).isList.typeIs slot_list_getitem.lookup (list_slice st q r hx pl ph) hs
 | bytes b =>
  refine ro.bytesE fun t' hs => M.iteE hh fun hx hh => M.pureE hh ?_
  refine tail_any (T := "bytes") (s := slS s ul uh .none) (typeIs_bytes _ _ _) FB.slot_bytes_getitem.lookup ?_ hs
  refine getItem_meets (s := slS s ul uh .none) (typeIs_bytes _ _ _) (by decide) FB.slot_bytes_getitem FB.entry_bytes_getitem (FB.args_bytes_getitem_2 _ _) (KBc.meets_slice2 _ t' _ pl ph)
   ⟨Heap.IsSliceOf.new s.heap ul uh .none, Nat.le_trans (KBc.size_picked_le _ _ _) (by rw [sizeLine_eq]; lia), fun t'' k => ?_⟩
  refine af (lout_val (st.push _) ?_ (fun _ e => nomatch e))
  rw [KBc.picked_eq]
  exact R.mkBytes
 | _ => exact M.failE hh
theorem sliceV_sound {o l h c v : V} {u ul uh uc : Value} {value : Expr} {lo hi sp : Option Expr} {p : Pos} (hh : sliceV o l h c σ = some (v, σ')) (st : St C ρ σ s) (ro : R C ρ s.heap o u) (rl : R C ρ s.heap l ul) (rh : R C ρ s.heap h uh)
  (rc : R C ρ s.heap c uc) :
  wpAny (Mdl C) A (subscriptTail value (.Slice lo hi sp p) u (.ref s.heap.objs.size)) (fun x s' => LOut C ρ s.heap σ' v x s') NoE { s with heap := s.heap.push (sliceObj ul uh uc) } := by
 obtain ⟨ops, hs⟩ : ∃ ops, subscripted (.Slice lo hi sp p) false u (.ref s.heap.objs.size) = operate ops (getItem u (.ref s.heap.objs.size)) := by cases sp <;> exact ⟨_, rfl⟩
 generalize Expr.Slice lo hi sp p = sl at hs
 refine M.bindE hh fun lv σ₁ h1 hh => M.bindE hh fun hv σ₂ h2 hh => ?_
 obtain ⟨h3, rfl⟩ := M.of_iff.mp h1
 obtain ⟨h4, rfl⟩ := M.of_iff.mp h2
 have pl := part_of h3 rl
 have ph := part_of h4 rh
 cases c with
 | none => exact rc.noneE (sliceN_sound hh st ro pl ph hs)
 | int i =>
  refine rc.intE fun t' => M.iteE hh fun hx hh => ?_
  revert hs
  refine listOf_R ro hh fun xs a vs q r hh hs => M.iteE hh fun hl hh => M.pureE hh ?_
  simp only [Bool.and_eq_true, beq_iff_eq, Option.isNone_iff_eq_none] at hx
  obtain ⟨⟨rfl, rfl⟩, rfl⟩ := hx
  refine tail_any (s := slS s ul uh (.int (-1) t')) (q.push _).isList.typeIs slot_list_getitem.lookup ?_ hs
  refine wpAny_getItem_list_slice (st := some (-1)) (s := slS s ul uh (.int (-1) t')) (q.push _).isList (Heap.IsSliceOf.new s.heap ul uh _) pl ph (.int _ _) (by decide) ?_ (by rw [List.size_toArray, r.length, sizeLine_eq]; lia)
  rw [krv_pick]
  exact LOut.after (push_keeps _ _) (st.push _).alive (lout_list (st.push _) (r.reverse.mono (Grow.ofKeeps (push_keeps _ _))))
 | _ => exact M.failE hh
end
section
variable {C : Cx} {ρ : List Addr} {σ σ' : Sto} {s : Shared} {A : Around}
theorem PL.update {h : Heap} {a : Addr} {vs : List Value} (p : PL h a vs) (f : Array Value → Array Value) : PL (h.update a (Obj.mapSeq f)) a (f vs.toArray).toList := by
 obtain ⟨n, e⟩ := p
 refine ⟨if (f vs.toArray).size == vs.toArray.size then n else n + 1, ?_⟩
 have := Heap.get?_update_self (Obj.mapSeq f) e (by rfl)
 rw [this]
 simp [Obj.mapSeq]
theorem put_out {r : Nat} {l : Addr} {xs : List V} {vs : List Value} {P : List Addr → Heap → Prop} {h' : Heap} {k : Nat} (st : St C ρ σ s) (hl : ρ[r]? = some l) (hs : Heap.SameBut l s.heap h') (p : PL h' l vs) (q : Rs C ρ s.heap xs vs)
  (hP : Grow C ρ ρ s.heap h' → P ρ h') : Out C Nox ρ s.heap (σ.set r xs) P { s with heap := h', toks := k } := by
 have hm : l ∈ ρ := List.mem_of_getElem? hl
 have hk : ∀ b o, b ≠ l → s.heap.get? b = some o → h'.get? b = some o := fun b o hb e => (hs.2 b hb).trans e
 have g : Grow C ρ ρ s.heap h' := ⟨⟨[], by simp, by simp⟩, fun b o hb _ e => hk b o (fun q => hb.1 (q ▸ hm)) e⟩
 refine ⟨ρ, ⟨⟨[], by simp, by simp⟩, fun b o _ hb e => hk b o (fun q => hb (q ▸ hm)) e⟩, ⟨⟨by simpa using st.rel.len, st.rel.nodup, st.rel.new, fun i a ys ha hy => ?_, fun b o e => ?_, fun a ha => ?_⟩, st.gens, st.os⟩, hP g⟩
 ·by_cases hi : i = r
  ·subst hi
   rw [hl] at ha; cases ha
   have hlt : i < σ.length := st.rel.len ▸ (List.getElem?_eq_some_iff.mp hl).1
   rw [List.getElem?_set_self hlt] at hy
   cases hy
   exact ⟨vs, p, q.mono g⟩
  ·rw [List.getElem?_set_ne (Ne.symm hi)] at hy
   obtain ⟨us, ⟨n, e⟩, q'⟩ := st.rel.at_ i a ys ha hy
   have hne : a ≠ l := fun e' => by
    subst e'
    obtain ⟨h1, e1⟩ := List.getElem?_eq_some_iff.mp ha
    obtain ⟨h2, e2⟩ := List.getElem?_eq_some_iff.mp hl
    exact hi (List.getElem_inj st.rel.nodup |>.mp (e1.trans e2.symm))
   exact ⟨us, ⟨n, hk a _ hne e⟩, q'.mono g⟩
 ·exact hk b o (fun q => by rw [q, st.rel.new l hm] at e; cases e) (st.rel.base b o e)
 ·obtain ⟨o, e⟩ := st.rel.hid a ha
  by_cases hq : a = l
  ·obtain ⟨n, p⟩ := p; exact ⟨_, hq ▸ p⟩
  ·exact ⟨o, hk a o hq e⟩
theorem set_raw {l : Addr} {vs : List Value} {k : Int} {t : Tok} {v : Value} {Q : Unit → Shared → Prop} (p : PL s.heap l vs) (h0 : 0 ≤ k) (h1 : k < vs.length) (h2 : vs.length ≤ 65536)
  (h : ∀ h', PL h' l (vs.set k.toNat v) → Heap.SameBut l s.heap h' → Q () { s with heap := h' }) : wpAny (Mdl C) A (setItem (.ref l) (.int k t) v) Q NoE s := by
 obtain ⟨n, ho⟩ := id p
 unfold setItem
 try with_reducible refine wpAny_holding ?_
 first | refine wpAny_bind (wpAny_pure ?_) | skip
 refine wpAny_bind (wpAny_sequenceKey p.isList.typeIs (by decide) ?_)
 refine wpAny_bind (wpAny_callSpecial?_slot (name := Str.ofString "__setitem__") p.isList.typeIs slot_list_setitem
  (wpAny_call_entry slot_list_setitem p.isList.typeIs entry_list_setitem ?_ (args_list_setitem _ _ _)))
 show wpAny _ _ (Builtin.List.listSubscript? (.int k t) >>= _) _ _ s
 refine wpAny_bind (wpAny_listSubscript_int (fitsIndex_of h0 (by lia)) ?_)
 obtain ⟨j, rfl⟩ := Int.eq_ofNat_of_zero_le h0
 have hj : j < vs.toArray.size := by simp; lia
 have hx' : vs.toArray[j]? = some vs.toArray[j] := Array.getElem?_eq_getElem hj
 show wpAny _ _ ((seqItemAt l j >>= fun r => pure (r.map (j, ·))) >>= _) _ _ s
 refine wpAny_bind (wpAny_bind (wpAny_seqItemAt ho rfl (wpAny_pure ?_)))
 rw [hx']
 show wpAny _ _ (setSeqItemAt l j v >>= _) _ _ s
 refine wpAny_bind (wpAny_setSeqItemAt ho rfl ?_)
 have fin := p.update (fun x => x.setIfInBounds j v)
 have e : (vs.toArray.setIfInBounds j v).toList = vs.set j v := by simp
 rw [e] at fin
 first
  | exact wpAny_bind (wpAny_pure (wpAny_pure ⟨.none, rfl, wpAny_pure (h _ fin (Heap.SameBut.update ..))⟩))
  | exact wpAny_pure ⟨.none, rfl, wpAny_pure (h _ fin (Heap.SameBut.update ..))⟩
theorem putItem_sound {v i x : V} {u ui ux : Value} (h : putItem v i x σ = some ((), σ')) (st : St C ρ σ s) (ru : R C ρ s.heap v u) (ri : R C ρ s.heap i ui) (rx : R C ρ s.heap x ux) :
  wpAny (Mdl C) A (setItem u ui ux) (fun _ s' => Out C Nox ρ s.heap σ' (fun _ _ => True) s') NoE s := by
 refine lstOfE h fun r ev h => intOf_R ri h fun i t h => M.bindE h fun xs σ₁ h1 h => M.iteE h fun hi h => ?_
 subst ev
 obtain ⟨h2, rfl⟩ := M.look_iff.mp h1
 cases M.put_iff.mp h
 simp only [Bool.and_eq_true, decide_eq_true_eq] at hi
 refine ru.lstE fun l hl => ?_
 obtain ⟨vs, p, q⟩ := st.rel.at_ _ _ _ hl h2
 exact set_raw p hi.1.1 (by rw [q.length]; lia) (by rw [q.length]; lia) fun h' p' hs => put_out (k := s.toks) st hl hs p' (q.set rx) fun _ => trivial
end
section
variable {C : Cx} {ρ : List Addr} {σ σ' : Sto} {s : Shared} {A : Around}
theorem Rs.nil_iff {h : Heap} {vs : List Value} : Rs C ρ h [] vs ↔ vs = [] := Iff.rfl
theorem Rs.one_iff {h : Heap} {x : V} {vs : List Value} : Rs C ρ h [x] vs ↔ ∃ v, vs = [v] ∧ R C ρ h x v := by
 constructor
 ·rintro ⟨v, _, rfl, r, rfl⟩; exact ⟨v, rfl, r⟩
 ·rintro ⟨v, rfl, r⟩; exact (show Ex2 fun _ _ => _ from ⟨v, [], rfl, r, rfl⟩)
theorem Rs.two_iff {h : Heap} {x y : V} {vs : List Value} : Rs C ρ h [x, y] vs ↔ Ex2 fun v u => vs = [v, u] ∧ R C ρ h x v ∧ R C ρ h y u := by
 constructor
 ·rintro ⟨v, _, rfl, r, u, _, rfl, q, rfl⟩; exact ⟨v, u, rfl, r, q⟩
 ·rintro ⟨v, u, rfl, r, q⟩; exact (show Ex2 fun _ _ => _ from ⟨v, [u], rfl, r, Rs.one q⟩)
theorem Rs.three_iff {h : Heap} {x y z : V} {vs : List Value} : Rs C ρ h [x, y, z] vs ↔ Ex3 fun v u w => vs = [v, u, w] ∧ R C ρ h x v ∧ R C ρ h y u ∧ R C ρ h z w := by
 constructor
 ·rintro ⟨v, _, rfl, r, u, _, rfl, q, w, _, rfl, q', rfl⟩; exact ⟨v, u, w, rfl, r, q, q'⟩
 ·rintro ⟨v, u, w, rfl, r, q, q'⟩; exact (show Ex2 fun _ _ => _ from ⟨v, [u, w], rfl, r, Rs.two_iff.mpr ⟨u, w, rfl, q, q'⟩⟩)
noncomputable def intsOf : List V → Option (List Int)
 | [] => some []
 | .int i :: r => (intsOf r).map (i :: ·)
 | _ => Option.none
theorem Rs.ints {h : Heap} : ∀ {xs : List V} {vs : List Value} {is : List Int}, Rs C ρ h xs vs → intsOf xs = some is → IntsAre vs is
 | [], vs, is, r, e => by
  cases (show _ = [] from r)
  simp only [intsOf, Option.some.injEq] at e; subst e
  exact .nil
 | x :: xs, vs, is, r, e => by
  obtain ⟨v, vs', rfl, r1, r2⟩ := r
  cases x <;> simp only [intsOf, reduceCtorEq] at e
  ·rename_i i
   obtain ⟨is', e', rfl⟩ := Option.map_eq_some_iff.mp e
   obtain ⟨t, rfl⟩ := r1
   exact .cons _ _ (r2.ints e')
theorem ints_of_sum : ∀ {xs : List V} {i : Int}, sumV xs = some i → ∃ is, intsOf xs = some is ∧ is.sum = i
 | [], i, e => by simp only [sumV, Option.some.injEq] at e; subst e; exact ⟨[], rfl, rfl⟩
 | x :: xs, i, e => by
  cases x <;> simp only [sumV, reduceCtorEq] at e
  ·rename_i j
   obtain ⟨k, e', rfl⟩ := Option.map_eq_some_iff.mp e
   obtain ⟨is, h1, h2⟩ := ints_of_sum e'
   exact ⟨j :: is, by simp [intsOf, h1], by simp [h2]⟩
theorem Rs.ofInts {h : Heap} : ∀ {vs : List Value} {is : List Int}, IntsAre vs is → Rs C ρ h (is.map .int) vs
 | _, _, .nil => show _ = [] from rfl
 | _, _, .cons _ _ r => show Ex2 fun _ _ => _ from ⟨_, _, rfl, R.mkInt, Rs.ofInts r⟩
theorem fr0 (st : St C ρ σ s) (g : C.h₀.Ns mainGlobals C.mg) : Fr { objs := #[] } mainGlobals s.heap C.mg := by
 obtain ⟨o, es, ep, ho, r⟩ := g
 exact ⟨⟨o, es, ep, st.rel.base _ _ ho, r⟩, fun b o e => by simp [Heap.get?] at e, Nat.zero_le _⟩
theorem sum_sound {xs : List V} {i : Int} {a : Addr} {ws : List Value} (hA : A.handled = none) (h : sumV xs = some i) (st : St C ρ σ s) (p : PL s.heap a ws) (q : Rs C ρ s.heap xs ws) :
  wpAny (Mdl C) A (call (.builtin "sum") [.ref a]) (fun x s' => Out C Nox ρ s.heap σ (fun ρ' h' => R C ρ' h' (.int i) x) s') NoE s := by
 obtain ⟨is, h1, rfl⟩ := ints_of_sum h
 have hi := q.ints h1
 obtain ⟨ys, hx⟩ := hi.allInts.items
 refine sum_intListG hA (show s.heap.IsList a (intItems ys) from hx ▸ p.isList) fun h' tk t' hk => ?_
 have e1 : is = ys.toList.map (·.1) := by
  rw [← nums_intItems, ← hx]
  exact (show numsOf ws.toArray.toList = is from hi.numsOf).symm
 have e2 : preSum (numAt ys) ys.size = is.sum := by rw [preSum_eq, List.take_of_length_le (by simp), e1]
 rw [e2]
 exact Out.keeps st hk R.mkInt
abbrev BOk (C : Cx) (A : Around) (ρ : List Addr) (s : Shared) (n : String) (us : List Value) (σ' : Sto) (v : V) : Prop :=
 wpAny (Mdl C) A (call (.builtin n) us) (fun x s' => Out C Nox ρ s.heap σ' (fun ρ' h' => R C ρ' h' v x) s') NoE s
theorem out_int {i : Int} {t : Tok} {k : Nat} (st : St C ρ σ s) : Out C Nox ρ s.heap σ (fun ρ' h' => R C ρ' h' (.int i) (.int i t)) { s with toks := k } := out_val st R.mkInt
theorem lenV_sound {v w : V} {u : Value} (h : lenV v σ = some (w, σ')) (st : St C ρ σ s) (r : R C ρ s.heap v u) : BOk C A ρ s "len" [u] σ' w := by
 cases v with
 | list xs =>
  refine r.listE fun a ws p _ q => M.iteE h fun hx h => M.pureE h ?_
  rw [← q.length] at hx ⊢
  exact call_len_list p.isList (by simp; lia) (out_int st)
 | lst k =>
  refine M.bindE h fun xs σ₁ h1 h => M.iteE h fun hx h => M.pureE h ?_
  obtain ⟨rfl, a, ws, rfl, p, q⟩ := items_of st h1 r
  rw [← q.length] at hx ⊢
  exact call_len_list p.isList (by simp; lia) (out_int st)
 | bytes x => exact r.bytesE fun t => M.iteE h fun hx h => M.pureE h (len_bytes (by lia) (out_int st))
 | _ => exact M.failE h
@[elab_as_elim] theorem Rs.oneE {h : Heap} {x : V} {vs : List Value} {motive : List Value → Prop} (r : Rs C ρ h [x] vs) (k : ∀ v, R C ρ h x v → motive [v]) : motive vs := by
 obtain ⟨u, rfl, q⟩ := Rs.one_iff.mp r; exact k u q
@[elab_as_elim] theorem Rs.twoE {h : Heap} {x y : V} {vs : List Value} {motive : List Value → Prop} (r : Rs C ρ h [x, y] vs) (k : ∀ v w, R C ρ h x v → R C ρ h y w → motive [v, w]) : motive vs := by
 obtain ⟨u, w, rfl, q, q'⟩ := Rs.two_iff.mp r; exact k u w q q'
@[elab_as_elim] theorem arg1_R {h : Heap} {α : Type} {l : List V} {us : List Value} {k : V → M α} {σ : Sto} {r : α × Sto} {motive : List Value → Prop} (rs : Rs C ρ h l us) (e : arg1 l k σ = some r) (q : ∀ x u, R C ρ h x u → k x σ = some r → motive [u]) : motive us :=
 arg1E e fun x el e => by subst el; exact Rs.oneE rs fun v rv => q x v rv e
@[elab_as_elim] theorem arg2_R {h : Heap} {α : Type} {l : List V} {us : List Value} {k : V → V → M α} {σ : Sto} {r : α × Sto} {motive : List Value → Prop} (rs : Rs C ρ h l us) (e : arg2 l k σ = some r) (q : ∀ x y u w, R C ρ h x u → R C ρ h y w → k x y σ = some r → motive [u, w]) : motive us :=
 arg2E e fun x y el e => by subst el; exact Rs.twoE rs fun v w rv rw' => q x y v w rv rw' e
theorem callB_sound (G : Good C) {n : String} {vs : List V} {us : List Value} {v : V} (hA : A.handled = none) (h : callB n vs σ = some (v, σ')) (st : St C ρ σ s) (rs : Rs C ρ s.heap vs us) : BOk C A ρ s n us σ' v := by
 refine M.ite2 h (fun hn h => ?_) fun _ h => ?_
 ·rw [beq_iff_eq.mp hn]; exact arg1_R rs h fun x u r h => lenV_sound h st r
 refine M.ite2 h (fun hn h => ?_) fun _ h => ?_
 ·rw [beq_iff_eq.mp hn]
  refine arg1_R rs h fun x u r h => intOf_R r h fun i t h => M.pureE h (call_abs_int fun t' k => ?_)
  rw [show (if i < 0 then -i else i) = (i.natAbs : Int) by
   split
   ·exact (Int.ofNat_natAbs_of_nonpos (Int.le_of_lt ‹_›)).symm
   ·exact (Int.natAbs_of_nonneg (Int.not_lt.mp ‹_›)).symm]
  exact out_int st
 refine M.ite2 h (fun hn h => ?_) fun _ h => ?_
 ·rw [beq_iff_eq.mp hn]
  refine arg2_R rs h fun x y u w r1 r2 h => intOf_R r1 h fun i t h => intOf_R r2 h fun j t' h => M.iteE h fun hs h => M.pureE h ?_
  simp only [Bool.and_eq_true, bne_iff_ne, ne_eq] at hs
  refine divmod_int hs.2 ?_ (.inl (div_small hs.1.2))
  exact out_tup (xs := [.int _, .int _]) (vs := [.int _ _, .int _ _]) st (Rs.two_iff.mpr ⟨_, _, rfl, R.mkInt, R.mkInt⟩)
 refine M.ite2 h (fun hn h => ?_) fun _ h => ?_
 ·rw [beq_iff_eq.mp hn]
  refine arg1_R rs h fun x u r h => strOf_R r h fun x t h => M.iteE h fun hs h => M.pureE h ?_
  obtain ⟨⟨l⟩⟩ := x
  match l, hs with
  | [c], _ => exact P.ord_of_char (out_int st)
 refine M.ite2 h (fun hn h => ?_) fun _ h => ?_
 ·rw [beq_iff_eq.mp hn]
  refine arg1_R rs h fun x u r h => intOf_R r h fun i t h => M.iteE h fun hs h => M.pureE h ?_
  simp only [Bool.and_eq_true, decide_eq_true_eq] at hs
  refine P.chr_of_int ?_ (out_val st R.mkStr)
  simp only [Bool.or_eq_false_iff, decide_eq_false_iff_not]; lia
 refine M.ite2 h (fun hn h => ?_) fun _ h => ?_
 ·rw [beq_iff_eq.mp hn]
  refine arg1_R rs h fun x u r h => M.bindE h fun xs σ₁ h0 h => M.bindE h fun i σ₂ h1 h => M.pureE h ?_
  obtain ⟨h2, rfl⟩ := M.of_iff.mp h1
  obtain ⟨rfl, a, ws, rfl, p, q⟩ := items_of st h0 r
  exact sum_sound hA h2 st p q
 refine M.ite2 h (fun hn h => ?_) fun _ h => M.failE h
 rw [beq_iff_eq.mp hn]
 refine arg2_R rs h fun x y u w r1 r2 h => typOf_R r2 h fun i h => bytesOf_R r1 h fun b t h => M.iteE h fun hs h => M.pureE h ?_
 rw [beq_iff_eq.mp hs]
 exact call_isinstance (isinstance_true (Tx := "bytes") F.isi_meta_bytes F.sub_bytes_bytes) ⟨rfl, Out.here' st R.mkBool⟩
end
section
variable {C : Cx} {ρ : List Addr} {σ σ' : Sto} {s : Shared} {A : Around}
theorem range_items (a b c : Int) : rangeItems a b c = (rangeInts a c (Builtin.Range.rangeSize a b c).toNat).map .int := by
 unfold rangeItems rangeInts
 rw [List.map_map]; rfl
theorem out_rng {lo hi c : Int} {t u w : Tok} {k : Nat} (st : St C ρ σ s) : Out C Nox ρ s.heap σ (fun ρ' h' => R C ρ' h' (.rng lo hi c) (.ref s.heap.objs.size))
  { s with heap := s.heap.push { cls := .type "range", data := .fields #[.int lo t, .int hi u, .int c w] }, toks := k } :=
 Out.keeps st (push_keeps _ _) (show Ex4 fun _ _ _ _ => _ from ⟨_, t, u, w, rfl, IsRange.new _ _ _ _ _ _ _, st.off⟩)
abbrev TOk (C : Cx) (A : Around) (ρ : List Addr) (s : Shared) (n : String) (us : List Value) (σ' : Sto) (v : V) : Prop :=
 wpAny (Mdl C) A (call (.type n) us) (fun x s' => Out C Nox ρ s.heap σ' (fun ρ' h' => R C ρ' h' v x) s') NoE s
theorem rngV_sound {vs : List V} {us : List Value} {v : V} (h : rngV vs σ = some (v, σ')) (st : St C ρ σ s) (rs : Rs C ρ s.heap vs us) : TOk C A ρ s "range" us σ' v := by
 cases vs with
 | nil => exact M.failE h
 | cons a vs => cases vs with
  | nil => exact Rs.oneE rs fun u r => intOf_R r h fun i t h => M.pureE h (call_range_1 (out_rng st))
  | cons b vs => cases vs with
   | nil => exact Rs.twoE rs fun u w r1 r2 => intOf_R r1 h fun i t h => intOf_R r2 h fun j t' h => M.pureE h (call_range_2 (out_rng st))
   | cons c vs => cases vs with
    | nil =>
     obtain ⟨u, w, z, rfl, r1, r2, r3⟩ := Rs.three_iff.mp rs
     refine intOf_R r1 h fun i t h => intOf_R r2 h fun j t' h => intOf_R r3 h fun k t'' h => M.iteE h fun hs h => M.pureE h ?_
     simp only [Bool.and_eq_true, decide_eq_true_eq] at hs
     have h1 : k.natAbs < 1073741824 := Int.ofNat_lt.mp (by rw [Int.natAbs_of_nonneg (Int.le_of_lt hs.1)]; exact Int.lt_trans hs.2 (by decide))
     exact call_range_3 (Int.ne_of_gt hs.1) (out_rng st) (.inl (PyProof.noPylong_small h1))
    | cons => exact M.failE h
theorem rngOfE {α : Type} {v : V} {k : Int → Int → Int → M α} {σ : Sto} {r : α × Sto} {P : Prop} (h : rngOf v k σ = some r) (q : ∀ a b c, v = .rng a b c → k a b c σ = some r → P) : P := by
 cases v <;> first | exact M.failE h | exact q _ _ _ rfl h
theorem callT_sound (G : Good C) {n : String} {vs : List V} {us : List Value} {v : V} (hA : A.handled = none) (h : callT n vs σ = some (v, σ')) (st : St C ρ σ s) (rs : Rs C ρ s.heap vs us) : TOk C A ρ s n us σ' v := by
 refine M.ite2 h (fun hn h => ?_) fun _ h => ?_
 ·rw [beq_iff_eq.mp hn]
  exact arg1_R rs h fun x u r h => intOf_R r h fun i t h => M.pureE h (call_int_int (Out.here' st R.mkInt))
 refine M.ite2 h (fun hn h => ?_) fun _ h => ?_
 ·rw [beq_iff_eq.mp hn]; exact rngV_sound h st rs
 refine M.ite2 h (fun hn h => ?_) fun _ h => M.failE h
 rw [beq_iff_eq.mp hn]
 refine arg1_R rs h fun x u r h => rngOfE h fun a b c ev h => M.iteE h fun hs h => M.pureE h ?_
 subst ev
 simp only [Bool.and_eq_true, decide_eq_true_eq, beq_iff_eq] at hs
 obtain ⟨⟨rfl, h2⟩, h3⟩ := hs
 refine r.rngE fun l t t' t'' hr hn => ?_
 refine list_rangeD (n := (b - a).toNat) (news := []) hA (fr0 st G.g) .nil hr h3 (rangeSize_nat a b) (Nat.le_trans (Nat.le_of_lt h2) (by decide)) fun h' tk ys _ _ hk _ _ hp hc => ?_
 obtain ⟨⟨e, he⟩, _⟩ := hp
 have hc' : CarriedAll ys ((rangeInts a 1 (b - a).toNat).map fun i => PyData.int (id i)) := hc
 have hi := hc'.intsOf
 rw [List.map_id] at hi
 rw [range_items, rangeSize_nat, Int.toNat_natCast]
 exact Out.keeps st hk (R.mkList (vs := ys) ⟨e, he⟩ st.off (Rs.ofInts hi))
noncomputable def mthId (n : Str) : String :=
 if n == ("append" : Str) then "list.append" else if n == ("insert" : Str) then "list.insert" else if n == ("pop" : Str) then "list.pop" else if n == ("get" : Str) then "dict.get" else if n == ("lower" : Str) then "str.lower" else "str.join"
noncomputable def MthAt (s : Shared) (n : Str) (ov : Value) : Prop :=
 ∃ T, PlainAttrs T ∧ Slot T n (mthId n) ∧ typeOf (.builtin (mthId n)) = pure (.type "method_descriptor") ∧ s.TypeIs ov T ∧ ∀ a, ov = .ref a → ∃ ob, s.heap.get? a = some ob ∧ ob.dict = none
theorem St.lst {r : Nat} {u : Value} (st : St C ρ σ s) (ru : R C ρ s.heap (.lst r) u) : Ex3 fun l xs vs => u = .ref l ∧ ρ[r]? = some l ∧ σ[r]? = some xs ∧ PL s.heap l vs ∧ Rs C ρ s.heap xs vs := by
 obtain ⟨l, rfl, hl⟩ := ru
 have hr : r < σ.length := st.rel.len ▸ (List.getElem?_eq_some_iff.mp hl).1
 obtain ⟨vs, p, q⟩ := st.rel.at_ r l σ[r] hl (List.getElem?_eq_getElem hr)
 exact ⟨l, _, vs, rfl, hl, List.getElem?_eq_getElem hr, p, q⟩
theorem lst_is {r : Nat} {u : Value} (st : St C ρ σ s) (ro : R C ρ s.heap (.lst r) u) : s.TypeIs u "list" ∧ ∀ a, u = .ref a → ∃ ob, s.heap.get? a = some ob ∧ ob.dict = none := by
 obtain ⟨l, xs, vs, rfl, _, _, ⟨k, p⟩, _⟩ := st.lst ro
 exact ⟨⟨_, p, rfl⟩, fun a e => by cases e; exact ⟨_, p, rfl⟩⟩
theorem mth_cases {Cg : Cfg} {o : V} {n : Str} {vs : List V} {r : V × Sto} {P : Str → String → Prop} (h : callMth Cg o n vs σ = some r) (k1 : mAppend o vs σ = some r → P "append" "list.append") (k2 : mInsert o vs σ = some r → P "insert" "list.insert")
  (k3 : mPop o vs σ = some r → P "pop" "list.pop") (k4 : mGet Cg o vs σ = some r → P "get" "dict.get") (k5 : mLower Cg o vs σ = some r → P "lower" "str.lower") (k6 : mJoin o vs σ = some r → P "join" "str.join") : P n (mthId n) := by
 unfold mthId
 refine M.ite2 h (fun hn h => ?_) fun hn h => ?_
 ·rw [if_pos hn, beq_iff_eq.mp hn]; exact k1 h
 rw [if_neg hn]
 refine M.ite2 h (fun hn h => ?_) fun hn h => ?_
 ·rw [if_pos hn, beq_iff_eq.mp hn]; exact k2 h
 rw [if_neg hn]
 refine M.ite2 h (fun hn h => ?_) fun hn h => ?_
 ·rw [if_pos hn, beq_iff_eq.mp hn]; exact k3 h
 rw [if_neg hn]
 refine M.ite2 h (fun hn h => ?_) fun hn h => ?_
 ·rw [if_pos hn, beq_iff_eq.mp hn]; exact k4 h
 rw [if_neg hn]
 refine M.ite2 h (fun hn h => ?_) fun hn h => ?_
 ·rw [if_pos hn, beq_iff_eq.mp hn]; exact k5 h
 rw [if_neg hn]
 refine M.ite2 h (fun hn h => ?_) fun hn h => M.failE h
 rw [beq_iff_eq.mp hn]; exact k6 h
theorem mth_head (G : Good C) {o v : V} {n : Str} {vs : List V} {u : Value} {σ₂ : Sto} (h : callMth C.cfg o n vs σ₂ = some (v, σ')) (st : St C ρ σ s) (ro : R C ρ s.heap o u) : MthAt s n u := by
 refine mth_cases (P := fun n m => ∃ T, PlainAttrs T ∧ Slot T n m ∧ typeOf (.builtin m) = pure (.type "method_descriptor") ∧ s.TypeIs u T ∧ ∀ a, u = .ref a → ∃ ob, s.heap.get? a = some ob ∧ ob.dict = none) h (fun h => ?_) (fun h => ?_) (fun h => ?_) (fun h => ?_) (fun h => ?_) fun h => ?_
 ·exact lstOfE h fun r e _ => ⟨_, F.plainAttrs_list, F.slot_list_append, F.type_list_append, lst_is st (e ▸ ro)⟩
 ·exact lstOfE h fun r e _ => ⟨_, F.plainAttrs_list, F.slot_list_insert, F.type_list_insert, lst_is st (e ▸ ro)⟩
 ·exact lstOfE h fun r e _ => ⟨_, F.plainAttrs_list, F.slot_list_pop, F.type_list_pop, lst_is st (e ▸ ro)⟩
 ·refine globOf_R ro h fun g a ha h => arg1E h fun x el h => intOfE h fun i ev h => M.iteE h fun hg h => ?_
  rw [beq_iff_eq.mp hg] at ha
  obtain ⟨a', f, hb, _, ⟨ob, es, ep, ho, hx, hd, _⟩, _⟩ := G.b3
  rw [hb] at ha; cases ha
  have ho' := st.rel.base _ _ ho
  exact ⟨_, F.plainAttrs_dict, F.slot_dict_get, F.type_dict_get, ⟨_, ho', hx.1⟩, fun a e => by cases e; exact ⟨_, ho', hx.2.1⟩⟩
 ·exact strOf_R ro h fun x t h => ⟨_, F.plainAttrs_str, F.slot_str_lower, F.type_str_lower, rfl, fun a e => nomatch e⟩
 ·exact strOf_R ro h fun x t h => ⟨_, F.plainAttrs_str, F.slot_str_join, F.type_str_join, rfl, fun a e => nomatch e⟩
theorem strs_of_join : ∀ {xs : List V} {vs : List Value} {y : List Nat} {h : Heap}, joinV xs = some y → Rs C ρ h xs vs → ∃ l : List (Str × Tok), vs = strValues l ∧ y = (l.map (·.1.cps.toList)).flatten
 | [], vs, y, h, e, r => by
  simp only [joinV, Option.some.injEq] at e; subst e
  cases (show _ = [] from r)
  exact ⟨[], rfl, rfl⟩
 | x :: xs, vs, y, h, e, r => by
  cases x <;> simp only [joinV, reduceCtorEq] at e
  obtain ⟨z, e', rfl⟩ := Option.map_eq_some_iff.mp e
  obtain ⟨v, vs', rfl, r1, r2⟩ := r
  obtain ⟨l, rfl, rfl⟩ := strs_of_join e' r2
  obtain ⟨t, rfl⟩ := r1
  exact ⟨(_, t) :: l, rfl, by simp⟩
theorem join_empty : ∀ l : List Str, Str.join ⟨#[]⟩ l = ⟨(l.map (·.cps.toList)).flatten.toArray⟩ := fun l => by
 rw [← StrLaws.glued_eq_join]
 unfold Builtin.Str.glued
 have key : ∀ (l : List Str) (acc : Array Nat), l.foldl (fun acc p => acc ++ (⟨#[]⟩ : Str).cps ++ p.cps) acc = (acc.toList ++ (l.map (·.cps.toList)).flatten).toArray := by
  intro l
  induction l with
  | nil => intro acc; simp
  | cons p l ih => intro acc; rw [List.foldl_cons, ih]; simp
 cases l with
 | nil => simp [Str.empty]
 | cons p l => simp only [List.drop_succ_cons, List.drop_zero, List.headD_cons, key]; simp
theorem append_sound {o v : V} {vs : List V} {u : Value} {us : List Value} (h : mAppend o vs σ = some (v, σ')) (st : St C ρ σ s) (ro : R C ρ s.heap o u) (rs : Rs C ρ s.heap vs us) : BOk C A ρ s "list.append" (u :: us) σ' v := by
 refine lstOfE h fun r e h => arg1_R rs h fun x ux rx h => M.bindE h fun xs σ₁ h1 h => M.iteE h fun hx h => M.bindE h fun _ σ₂ h3 h => M.pureE h ?_
 subst e
 obtain ⟨h2, rfl⟩ := M.look_iff.mp h1
 cases M.put_iff.mp h3
 obtain ⟨l, xs', ws, rfl, hl, hs, p, q⟩ := st.lst ro
 rw [h2] at hs; cases hs
 refine wpAny_list_append_plain p (fun h' p' hs => ?_) (by rw [List.size_toArray, q.length, sizeLine_eq]; lia)
 obtain ⟨k, p'⟩ := p'
 exact put_out (k := s.toks) st hl hs (vs := ws ++ [ux]) ⟨k, by rw [p']; simp⟩ (q.append (Rs.one rx)) fun _ => R.mkNone
theorem fits_le {i : Int} {n : Nat} (h0 : 0 ≤ i) (h1 : i ≤ n) (hn : n ≤ 65536) : Builtin.List.listFitsIndex i = true :=
 fitsIndex_of h0 (Int.lt_of_le_of_lt h1 (Int.lt_of_le_of_lt (Int.ofNat_le.mpr hn) (by decide)))
theorem ins_array {ws : List Value} {i : Int} {ux : Value} (h0 : 0 ≤ i) (h1 : i ≤ ws.length) : (Array.push (Array.extract ws.toArray 0 (if i < 0 then Int.toNat (i + ↑(Array.size ws.toArray)) else min (Int.toNat i) (Array.size ws.toArray))) ux ++
  Array.extract ws.toArray (if i < 0 then Int.toNat (i + ↑(Array.size ws.toArray)) else min (Int.toNat i) (Array.size ws.toArray))).toList = ws.take i.toNat ++ ux :: ws.drop i.toNat := by
 rw [if_neg (Int.not_lt.mpr h0), show min i.toNat ws.toArray.size = i.toNat from Nat.min_eq_left (Int.toNat_le.mpr h1)]
 simp only [List.extract_toArray, List.push_toArray, List.append_toArray, List.extract_eq_take_drop, List.drop_zero, List.size_toArray]
 rw [List.take_of_length_le (l := ws.drop i.toNat) (by simp)]
 simp
theorem insert_sound {o v : V} {vs : List V} {u : Value} {us : List Value} (h : mInsert o vs σ = some (v, σ')) (st : St C ρ σ s) (ro : R C ρ s.heap o u) (rs : Rs C ρ s.heap vs us) : BOk C A ρ s "list.insert" (u :: us) σ' v := by
 refine lstOfE h fun r e h => arg2_R rs h fun x y ui ux ri rx h => intOf_R ri h fun i t h => M.bindE h fun xs σ₁ h1 h => M.iteE h fun hx h => M.bindE h fun _ σ₂ h3 h => M.pureE h ?_
 subst e
 simp only [Bool.and_eq_true, decide_eq_true_eq] at hx
 obtain ⟨h2, rfl⟩ := M.look_iff.mp h1
 cases M.put_iff.mp h3
 obtain ⟨l, xs', ws, rfl, hl, hs, p, q⟩ := st.lst ro
 rw [h2] at hs; cases hs
 obtain ⟨k, ho⟩ := id p
 refine call_meets F.slot_list_insert p.isList.typeIs F.entry_list_insert (F.args_list_insert_3 _ _ _)
  (AutoSeq1.list_insert_list_int_val_1 l ws.toArray k i t ux (by rw [fits_le hx.1.1 hx.1.2 (Nat.le_of_lt hx.2)]; exact Bool.false_ne_true) (by rw [List.size_toArray, q.length, sizeLine_eq]; exact Nat.le_trans (Nat.le_of_lt hx.2) (by decide))) ⟨ho, ?_⟩
 have p' := p.update fun xs : Array Value =>
      have k := if i < 0 then Int.toNat (i + ↑(Array.size xs)) else min (Int.toNat i) (Array.size xs)
      Array.push (Array.extract xs 0 k) ux ++ Array.extract xs k
 exact put_out (k := s.toks) st hl (Heap.SameBut.update ..) (vs := ws.take i.toNat ++ ux :: ws.drop i.toNat) (ins_array hx.1.1 (by rw [q.length]; exact hx.1.2) ▸ p') ((q.take _).append (show Rs C ρ s.heap (y :: xs.drop i.toNat) _ from ⟨ux, _, rfl, rx, q.drop _⟩)) fun _ => R.mkNone
theorem pop_sound {o v : V} {vs : List V} {u : Value} {us : List Value} (h : mPop o vs σ = some (v, σ')) (st : St C ρ σ s) (ro : R C ρ s.heap o u) (rs : Rs C ρ s.heap vs us) : BOk C A ρ s "list.pop" (u :: us) σ' v := by
 refine lstOfE h fun r e h => arg1_R rs h fun x ui ri h => intOf_R ri h fun i t h => M.bindE h fun xs σ₁ h1 h => M.iteE h fun hx h => M.bindE h fun y σ₂ h3 h => M.bindE h fun _ σ₃ h5 h => M.pureE h ?_
 subst e
 simp only [Bool.and_eq_true, decide_eq_true_eq] at hx
 obtain ⟨h2, rfl⟩ := M.look_iff.mp h1
 obtain ⟨h4, rfl⟩ := M.of_iff.mp h3
 cases M.put_iff.mp h5
 obtain ⟨l, xs', ws, rfl, hl, hs, p, q⟩ := st.lst ro
 rw [h2] at hs; cases hs
 obtain ⟨k, ho⟩ := id p
 obtain ⟨z, hz, rz⟩ := q.get h4
 have hlt := (List.getElem?_eq_some_iff.mp hz).1
 have hl' := q.length
 refine call_meets F.slot_list_pop p.isList.typeIs F.entry_list_pop (F.args_list_pop_2 _ _)
  (MeetsSeq.list_pop_at l ws.toArray k i t i.toNat z (fits_le hx.1 (Int.le_of_lt ((Int.toNat_lt hx.1).mp hlt)) (hl' ▸ hx.2)) (seqIdx hx.1 hlt) (by rw [List.getElem?_toArray]; exact hz) (by rw [List.size_toArray, q.length, sizeLine_eq]; exact Nat.le_trans hx.2 (by decide))) ⟨ho, ?_⟩
 have p' := p.update fun xs : Array Value => xs.eraseIdxIfInBounds i.toNat
 exact put_out (k := s.toks) st hl (Heap.SameBut.update ..) (vs := ws.eraseIdx i.toNat) ((show ws.eraseIdx i.toNat = (ws.toArray.eraseIdxIfInBounds i.toNat).toList by simp) ▸ p') (q.eraseIdx _) fun g => rz.mono g
theorem eqN_eq (n : Nat) (k : Int) : eqN n k = ((n : Int) == k) := by
 cases k with
 | ofNat m =>
  by_cases e : m = n
  ·subst e; exact (Nat.beq_refl m).trans (beq_self_eq_true _).symm
  ·exact (Bool.eq_false_iff.mpr fun w => e (Nat.eq_of_beq_eq_true w)).trans (beq_eq_false_iff_ne.mpr fun w => e (Int.ofNat.inj w).symm).symm
 | negSucc => rfl
theorem lookI_eq (l : List (Int × Str)) (i : Int) : lookI l i = l.lookup i := by
 cases i with
 | ofNat n =>
  show lookN n l = l.lookup ((n : Nat) : Int)
  induction l with
  | nil => rfl
  | cons p l ih =>
   rw [show List.lookup ((n : Nat) : Int) (p :: l) = cond ((n : Int) == p.1) (some p.2) (l.lookup ((n : Nat) : Int)) by
    rw [List.lookup]; cases ((n : Int) == p.1) <;> rfl, ← ih, ← eqN_eq]; rfl
 | negSucc => rfl
theorem get_sound (G : Good C) {o v : V} {vs : List V} {u : Value} {us : List Value} (h : mGet C.cfg o vs σ = some (v, σ')) (st : St C ρ σ s) (ro : R C ρ s.heap o u) (rs : Rs C ρ s.heap vs us) : BOk C A ρ s "dict.get" (u :: us) σ' v := by
 refine globOf_R ro h fun g a ha h => arg1_R rs h fun x ui ri h => intOf_R ri h fun i t h => M.iteE h fun hg h => M.pureE h ?_
 rw [lookI_eq]
 rw [beq_iff_eq.mp hg] at ha
 obtain ⟨a', f, hb, hsys, ⟨ob, es, ep, ho, hx⟩, hf⟩ := G.b3
 rw [hb] at ha; cases ha
 have hm : s.heap.MapOf (intKind C.cfg.prog C.w) a f := ⟨ob, es, ep, st.rel.base _ _ ho, hx⟩
 refine call_meetsIn F.slot_dict_get hm.typeIs F.entry_dict_get (F.args_dict_get_2 _ _) (meets_dict_get (intKind C.cfg.prog C.w) a (int_is i t) hsys) ⟨f, hm, Out.here st ?_⟩
 obtain ⟨f1, f2⟩ := hf i
 cases e : C.cfg.b3.lookup i with
 | none => rw [f1 e]; exact R.mkNone
 | some x => obtain ⟨t', ht⟩ := f2 x e; rw [ht]; exact R.mkStr
theorem lower_sound (G : Good C) {o v : V} {vs : List V} {u : Value} {us : List Value} (h : mLower C.cfg o vs σ = some (v, σ')) (st : St C ρ σ s) (ro : R C ρ s.heap o u) (rs : Rs C ρ s.heap vs us) : BOk C A ρ s "str.lower" (u :: us) σ' v := by
 refine strOf_R ro h fun x t h => M.iteE h fun hn h => M.bindE h fun y σ₁ h1 h => M.pureE h ?_
 obtain ⟨h2, rfl⟩ := M.of_iff.mp h1
 cases isNil_eq hn
 cases Rs.nil_iff.mp rs
 obtain ⟨hlo, hlen⟩ := G.low _ _ h2
 rw [← hlo] at hlen ⊢
 exact SC.lower (by unfold Builtin.Str.tooLong; rw [sizeLine_eq]; simp; lia) (Out.here st R.mkStr)
theorem join_fits {l : List (Str × Tok)} (hy : (l.map (·.1.cps.toList)).flatten.length ≤ 65536) : Builtin.Str.tooLong ((l.map (·.1)).toArray.foldl (· + ·.length + (⟨#[]⟩ : Str).length) 0) = false := by
 unfold Builtin.Str.tooLong
 rw [StrLaws.joinTotal, sizeLine_eq]
 have : ((l.map (·.1)).map (·.length)).sum = (l.map (·.1.cps.toList)).flatten.length := by
  rw [List.length_flatten, List.map_map, List.map_map]
  congr 1
 rw [this]
 simp [Str.length]
 simp at hy
 lia
theorem join_sound {o v : V} {vs : List V} {u : Value} {us : List Value} (h : mJoin o vs σ = some (v, σ')) (st : St C ρ σ s) (ro : R C ρ s.heap o u) (rs : Rs C ρ s.heap vs us) : BOk C A ρ s "str.join" (u :: us) σ' v := by
 refine strOf_R ro h fun x t h => arg1_R rs h fun ll ul rl h => listOf_R rl h fun xs a ws p q h => M.iteE h fun hx h => M.bindE h fun y σ₁ h1 h => M.iteE h fun hy h => M.pureE h ?_
 obtain ⟨h2, rfl⟩ := M.of_iff.mp h1
 obtain ⟨l, rfl, rfl⟩ := strs_of_join h2 q
 obtain ⟨⟨cs⟩⟩ := x
 cases (show cs = [] by simpa using hx)
 refine call_meets F.slot_str_join (rfl : s.TypeIs (.str ⟨#[]⟩ t) "str") F.entry_str_join (F.args_str_join_2 _ _) (meets_str_join_list ⟨#[]⟩ t a l (join_fits hy)) ⟨p.isList, ?_⟩
 refine post_join l ⟨joinFit_length (join_fits hy), fun t' k => ?_⟩
 rw [show Txt.join ⟨#[]⟩ (l.map (·.1)) = ⟨((l.map (·.1.cps.toList)).flatten).toArray⟩ by
  show Builtin.Str.glued _ _ = _
  rw [StrLaws.glued_eq_join, join_empty, List.map_map]; rfl]
 exact Out.here st R.mkStr
theorem callMth_sound (G : Good C) {o v : V} {n : Str} {vs : List V} {u : Value} {us : List Value} (h : callMth C.cfg o n vs σ = some (v, σ')) (st : St C ρ σ s) (ro : R C ρ s.heap o u) (rs : Rs C ρ s.heap vs us) :
  BOk C A ρ s (mthId n) (u :: us) σ' v :=
 mth_cases (P := fun _ m => BOk C A ρ s m (u :: us) σ' v) h (fun h => append_sound h st ro rs) (fun h => insert_sound h st ro rs) (fun h => pop_sound h st ro rs) (fun h => get_sound G h st ro rs) (fun h => lower_sound G h st ro rs) fun h => join_sound h st ro rs
end
section
variable {C : Cx} {ρ ρ' : List Addr} {σ σ' : Sto} {s : Shared} {A : Around} {h h' : Heap} {I : Addr}
noncomputable def ItAt (C : Cx) (ρ : List Addr) (h : Heap) (I : Addr) : V → List V → Nat → Prop
 | .list xs, all, k => xs = all ∧ Ex2 fun l vs => h.IsListIter I l k ∧ PL h l vs ∧ Off C ρ l ∧ Rs C ρ h all vs
 | .lst r, _, k => ∃ l, h.IsListIter I l k ∧ ρ[r]? = some l
 | .bytes b, all, k => all = b.toList.map (fun u => V.int (Int.ofNat u.toNat)) ∧ ∃ t, KBw.IsBytesIter h I b t k
 | .rng a b c, all, k => all = rangeItems a b c ∧ IsRangeIter h I (a + k * c) ((all.length : Int) - k) c
 | _, _, _ => False
noncomputable def IterObj (o : Obj) : Prop := ¬ Solid o ∧ ∃ vs, o.data = .fields vs
theorem iterObj_of {o : Obj} {n : String} {vs : Array Value} (hc : o.cls = .type n) (hd : o.data = .fields vs) (h1 : n ≠ "list") (h2 : n ≠ "tuple") (h3 : n ≠ "range") : IterObj o := by
 refine ⟨fun hs => ?_, _, hd⟩
 rcases hs.2 with e | e | e <;> rw [hc] at e <;> simp only [Value.type.injEq] at e
 ·exact h1 e
 ·exact h2 e
 ·exact h3 e
theorem ItAt.obj {v : V} {all : List V} {k : Nat} (it : ItAt C ρ h I v all k) : ∃ o, h.get? I = some o ∧ IterObj o := by
 cases v with
 | list =>
  obtain ⟨_, l, vs, ⟨o, ho, hc, hd⟩, _⟩ := it; exact ⟨o, ho, iterObj_of hc hd (by decide) (by decide) (by decide)⟩
 | lst =>
  obtain ⟨l, ⟨o, ho, hc, hd⟩, _⟩ := it; exact ⟨o, ho, iterObj_of hc hd (by decide) (by decide) (by decide)⟩
 | bytes =>
  obtain ⟨_, t, o, ho, hc, hd⟩ := it; exact ⟨o, ho, iterObj_of hc hd (by decide) (by decide) (by decide)⟩
 | rng =>
  obtain ⟨_, ho⟩ := it; exact ⟨_, ho, iterObj_of rfl rfl (by decide) (by decide) (by decide)⟩
 | _ => exact it.elim
theorem ItAt.mono {v : V} {all : List V} {k : Nat} (it : ItAt C ρ h I v all k) (g : Grow C ρ ρ' h h') (hI : ∀ o, h.get? I = some o → h'.get? I = some o) : ItAt C ρ' h' I v all k := by
 cases v with
 | list =>
  obtain ⟨e, l, vs, ⟨o, ho, hc⟩, ⟨n, p⟩, of, r⟩ := it
  exact ⟨e, l, vs, ⟨o, hI o ho, hc⟩, ⟨n, g.keep _ _ of (by simp [Solid]) p⟩, g.off of p, r.mono g⟩
 | lst =>
  obtain ⟨l, ⟨o, ho, hc⟩, hl⟩ := it
  obtain ⟨new, rfl, _⟩ := g.grow
  exact ⟨l, ⟨o, hI o ho, hc⟩, by rw [List.getElem?_append_left (List.getElem?_eq_some_iff.mp hl).1]; exact hl⟩
 | bytes =>
  obtain ⟨e, t, o, ho, hc⟩ := it; exact ⟨e, t, o, hI o ho, hc⟩
 | rng =>
  obtain ⟨e, ho⟩ := it; exact ⟨e, hI _ ho⟩
 | _ => exact it.elim
theorem rangeItems_length (a b c : Int) : (rangeItems a b c).length = (Builtin.Range.rangeSize a b c).toNat := by rw [range_items, List.length_map, rangeInts_length]
theorem rangeItems_get {a b c : Int} {k : Nat} {x : V} (hx : (rangeItems a b c)[k]? = some x) : x = .int (a + k * c) := by
 rw [range_items, List.getElem?_map] at hx
 obtain ⟨i, hi, rfl⟩ := Option.map_eq_some_iff.mp hx
 unfold rangeInts at hi
 rw [List.getElem?_map] at hi
 obtain ⟨j, hj, rfl⟩ := Option.map_eq_some_iff.mp hi
 have := List.getElem?_eq_some_iff.mp hj
 simp at this
 rw [this.2]
theorem iter_start {v : V} {u : Value} {all : List V} {chk : Option Nat} (h : iterOf v σ = some ((all, chk), σ')) (st : St C ρ σ s) (r : R C ρ s.heap v u) {Q : Value → Shared → Prop}
  (hQ : σ = σ' → ∀ o, o.isFreed = false → ItAt C ρ (s.heap.push o) s.heap.objs.size v all 0 → Q (.ref s.heap.objs.size) { s with heap := s.heap.push o }) :
  wpAny (Mdl C) A (pyIter u) Q NoE s := by
 have g : ∀ o, Grow C ρ ρ s.heap (s.heap.push o) := fun o => Grow.ofKeeps (push_keeps _ _)
 have new : ∀ o : Obj, o.isFreed = false → (s.heap.push o).get? s.heap.objs.size = some o := fun o ho => Heap.get?_push_size _ ho
 cases v with
 | list xs =>
  obtain ⟨e, rfl⟩ := M.pure_iff.mp h
  cases e
  exact r.listE fun a vs p of q => wpAny_pyIter_list p.isList (hQ rfl _ rfl ⟨rfl, a, vs, ⟨_, new _ rfl, rfl, rfl⟩, p.push _, of, q.mono (g _)⟩)
 | lst k =>
  refine M.bindE h fun xs σ₁ h1 h => ?_
  obtain ⟨h2, rfl⟩ := M.look_iff.mp h1
  obtain ⟨e, rfl⟩ := M.pure_iff.mp h
  cases e
  obtain ⟨l, xs', ws, rfl, hl, hs, p, q⟩ := st.lst r
  exact wpAny_pyIter_list p.isList (hQ rfl _ rfl ⟨l, ⟨_, new _ rfl, rfl, rfl⟩, hl⟩)
 | bytes x =>
  obtain ⟨e, rfl⟩ := M.pure_iff.mp h
  cases e
  exact r.bytesE fun t => KBw.pyIter_bytes (hQ rfl _ rfl ⟨rfl, t, _, new _ rfl, rfl, rfl⟩)
 | rng a b c =>
  refine M.iteE h fun hs h => ?_
  obtain ⟨e, rfl⟩ := M.pure_iff.mp h
  cases e
  refine r.rngE fun l t t' t'' hr of => wpAny_pyIter_range hr hs (hQ rfl _ rfl ⟨rfl, ?_⟩)
  show IsRangeIter _ _ (a + (0 : Int) * c) (((rangeItems a b c).length : Int) - (0 : Int)) c
  rw [rangeItems_length, ← rangeSize_toNat, Int.zero_mul, Int.add_zero, Int.sub_zero]
  exact new { cls := .type "range_iterator", data := .fields #[rawInt a, rawInt (Builtin.Range.rangeSize a b c), rawInt c] } rfl
 | _ => exact M.failE h
theorem ItAt.again {v : V} {all : List V} {k : Nat} (it : ItAt C ρ s.heap I v all k) {Q : Value → Shared → Prop} (hQ : Q (.ref I) s) : wpAny (Mdl C) A (pyIter (.ref I)) Q NoE s := by
 cases v with
 | list =>
  obtain ⟨_, l, vs, hi, _⟩ := it; exact wpAny_pyIter_listiter hi hQ
 | lst =>
  obtain ⟨l, hi, _⟩ := it; exact wpAny_pyIter_listiter hi hQ
 | bytes =>
  obtain ⟨_, t, hi⟩ := it; exact KBw.pyIter_self hi hQ
 | rng =>
  obtain ⟨_, hi⟩ := it; exact wpAny_pyIter_rangeiter hi hQ
 | _ => exact it.elim
open Classical in
theorem still_iff {r : Option Nat} {all : List V} {u : Unit} (h : still r all σ = some (u, σ')) : σ = σ' ∧ ∀ k, r = some k → σ[k]? = some all := by
 cases r with
 | none => exact ⟨(M.pure_iff.mp h).2, fun _ e => nomatch e⟩
 | some r =>
  refine M.bindE h fun xs σ₁ h1 h => M.iteE h fun hs h => ?_
  obtain ⟨h2, rfl⟩ := M.look_iff.mp h1
  refine ⟨(M.pure_iff.mp h).2, fun k e => ?_⟩
  cases e
  rw [← hs]; exact h2
noncomputable def chkOf : V → Option Nat
 | .lst r => some r
 | _ => none
theorem iterOf_is {v : V} {all : List V} {chk : Option Nat} (h : iterOf v σ = some ((all, chk), σ')) : chk = chkOf v ∧ σ = σ' := by
 have pu : ∀ {x : List V × Option Nat}, (M.pure x : M _) σ = some ((all, chk), σ') → chk = x.2 ∧ σ = σ' := fun h => by
  obtain ⟨e, e'⟩ := M.pure_iff.mp h; rw [e]; exact ⟨rfl, e'⟩
 cases v with
 | lst k =>
  refine M.bindE h fun xs σ₁ h1 h => ?_
  obtain ⟨e, e'⟩ := M.pure_iff.mp h
  cases e
  exact ⟨rfl, (M.look_iff.mp h1).2.trans e'⟩
 | rng a b c => exact M.iteE h fun _ h => pu h
 | none => exact M.failE h
 | bool => exact M.failE h
 | int => exact M.failE h
 | typ => exact M.failE h
 | blt => exact M.failE h
 | glob => exact M.failE h
 | tup => exact M.failE h
 | str => exact M.failE h
 | _ => exact pu h
theorem iterOf_chk {v : V} {all : List V} {chk : Option Nat} (h : iterOf v σ = some ((all, chk), σ')) : chk = chkOf v := (iterOf_is h).1
theorem ItAt.next {v : V} {all : List V} {k : Nat} {x : V} {u : Unit} (it : ItAt C ρ s.heap I v all k) (st : St C ρ σ s) (h : still (chkOf v) all σ = some (u, σ')) (hx : all[k]? = some x)
  {Q : Option Value → Shared → Prop} (hQ : ∀ y h' t, Heap.SameBut I s.heap h' → R C ρ h' x y → ItAt C ρ h' I v all (k + 1) → Q (some y) { s with heap := h', toks := t }) :
  wpAny (Mdl C) A (pyNext (.ref I)) Q NoE s := by
 obtain ⟨rfl, hst⟩ := still_iff h
 obtain ⟨oI, hoI, hio⟩ := it.obj
 have gr : ∀ {h'}, Heap.SameBut I s.heap h' → Grow C ρ ρ s.heap h' := fun hs => Grow.sameBut (a := I) (fun b o hb e => (hs.2 b hb).trans e) fun o _ e => by rw [hoI] at e; cases e; exact hio.1
 cases v with
 | list =>
  obtain ⟨rfl, l, vs, hi, ⟨n, p⟩, of, r⟩ := it
  obtain ⟨y, hy, ry⟩ := r.get hx
  exact wpAny_pyNext_list_item hi (PL.isList ⟨n, p⟩) (by simpa using hy) fun h' hi' hs => hQ y h' s.toks hs (ry.mono (gr hs)) ⟨rfl, l, vs, hi', ⟨n, (gr hs).keep _ _ of (by simp [Solid]) p⟩, of, r.mono (gr hs)⟩
 | lst =>
  obtain ⟨l, hi, hl⟩ := it
  obtain ⟨vs, p, r⟩ := st.rel.at_ _ _ _ hl (hst _ rfl)
  obtain ⟨y, hy, ry⟩ := r.get hx
  exact wpAny_pyNext_list_item hi p.isList (by simpa using hy) fun h' hi' hs => hQ y h' s.toks hs (ry.mono (gr hs)) ⟨l, hi', hl⟩
 | bytes =>
  obtain ⟨rfl, t, hi⟩ := it
  rw [List.getElem?_map] at hx
  obtain ⟨c, hc, rfl⟩ := Option.map_eq_some_iff.mp hx
  exact KBw.next_item hi (by simpa using hc) fun h' hi' hs => hQ _ h' _ hs R.mkInt ⟨rfl, t, hi'⟩
 | rng =>
  obtain ⟨rfl, hi⟩ := it
  have hlt := (List.getElem?_eq_some_iff.mp hx).1
  rw [rangeItems_get hx] at hQ
  refine wpAny_pyNext_range_item hi (Int.sub_pos_of_lt (Int.ofNat_lt.mpr hlt)) fun h' hi' hs => hQ _ h' _ hs R.mkInt ⟨rfl, ?_⟩
  have e1 : ∀ a c : Int, a + (k : Int) * c + c = a + ((k + 1 : Nat) : Int) * c := fun a c => by rw [Int.natCast_add, Int.add_mul, Int.add_assoc, Int.natCast_one, Int.one_mul]
  have e2 : ∀ n : Int, n - (k : Int) - 1 = n - ((k + 1 : Nat) : Int) := fun n => Int.sub_sub ..
  rw [e1, e2] at hi'
  exact hi'
 | _ => exact it.elim
theorem ItAt.stop {v : V} {all : List V} {k : Nat} {u : Unit} (hA : A.handled = none) (it : ItAt C ρ s.heap I v all k) (st : St C ρ σ s) (h : still (chkOf v) all σ = some (u, σ')) (hx : all[k]? = none)
  {Q : Option Value → Shared → Prop} (hQ : ∀ h' t, Heap.ExtBut I s.heap h' → Q none { s with heap := h', toks := t }) :
  wpAny (Mdl C) A (pyNext (.ref I)) Q NoE s := by
 obtain ⟨rfl, hst⟩ := still_iff h
 have hk := List.getElem?_eq_none_iff.mp hx
 cases v with
 | list =>
  obtain ⟨rfl, l, vs, hi, p, of, r⟩ := it
  exact wpAny_pyNext_list_end hA hi p.isList (by have := r.length; simp; lia) fun h' hs => hQ h' s.toks hs
 | lst =>
  obtain ⟨l, hi, hl⟩ := it
  obtain ⟨vs, p, r⟩ := st.rel.at_ _ _ _ hl (hst _ rfl)
  exact wpAny_pyNext_list_end hA hi p.isList (by have := r.length; simp; lia) fun h' hs => hQ h' s.toks hs
 | bytes =>
  obtain ⟨rfl, t, hi⟩ := it
  simp at hk
  exact KBw.next_end hA hi (by simp; lia) fun h' hs => hQ h' _ hs
 | rng =>
  obtain ⟨rfl, hi⟩ := it
  exact wpAny_pyNext_range_end hA hi (Int.sub_nonpos_of_le (Int.ofNat_le.mpr hk)) fun h' hs => hQ h' _ hs
 | _ => exact it.elim
end
structure New (C : Cx) (ρ : List Addr) (a : Addr) : Prop where
 store : a ∉ ρ
 base : C.h₀.get? a = none
section
variable {C : Cx} {ρ ρ₁ ρ₂ : List Addr} {σ σ' σ₁ σ₂ : Sto} {s s₁ s₂ : Shared} {A : Around} {h : Heap} {P : List Addr → Heap → Prop} {env : Env} {e : En}
theorem Out.from (t : Tr Nox ρ ρ₁ h s₁.heap) (st₁ : St C ρ₁ σ₁ s₁) (x : Out C Nox ρ₁ s₁.heap σ₂ P s₂) : Out C Nox ρ h σ₂ P s₂ :=
 let ⟨ρ₂, t₂, st₂, p⟩ := x; ⟨ρ₂, t.then st₁ t₂, st₂, p⟩
theorem Tr.fresh {a : Addr} (t : Tr Nox ρ ρ₁ h s₁.heap) (st₁ : St C ρ₁ σ₁ s₁) (ha : s₁.heap.get? a = none) : h.get? a = none := by
 cases e : h.get? a with
 | none => rfl
 | some o =>
  by_cases hm : a ∈ ρ
  ·obtain ⟨o', e'⟩ := st₁.aliveOf t a hm; rw [ha] at e'; cases e'
  ·rw [t.keep a o (fun q => q) hm e] at ha; cases ha
theorem LOut.from {x : V} {u : Value} (t : Tr Nox ρ ρ₁ h s₁.heap) (st₁ : St C ρ₁ σ₁ s₁) (o : LOut C ρ₁ s₁.heap σ₂ x u s₂) : LOut C ρ h σ₂ x u s₂ :=
 (Out.from t st₁ o).mono fun _ _ p => ⟨p.1, fun xs e => let ⟨a, ha, hn, rest⟩ := p.2 xs e; ⟨a, ha, t.fresh st₁ hn, rest⟩⟩
noncomputable def EvOk (C : Cx) (A : Around) (fr : Bool) (m : Sem Value) (ρ : List Addr) (s : Shared) (σ' : Sto) (v : V) : Prop :=
 wpAny (Mdl C) A m (fun u s' => Out C Nox ρ s.heap σ' (fun ρ' h' => R C ρ' h' v u ∧ (fr = true → FreshAt C ρ' σ' s.heap h' v u)) s') NoE s
noncomputable def FlR (C : Cx) (ρ : List Addr) (h : Heap) : Fl → Flow → Prop
 | .next, f => f = .next
 | .ret v, f => ∃ u, f = .ret u ∧ R C ρ h v u
noncomputable def ExOut (C : Cx) (ρ : List Addr) (e : En) (env : Env) (h : Heap) (σ' : Sto) (fl : Fl) (vars : Vars) (f : Flow) (s' : Shared) : Prop :=
 ∃ ρ', Tr (Own e env) ρ ρ' h s'.heap ∧ St C ρ' σ' s' ∧ Frm C ρ' ⟨e.names, vars⟩ env s'.heap ∧ FlR C ρ' s'.heap fl f
noncomputable def Rk (C : Cx) (ρ : List Addr) (h : Heap) : List (Str × V) → List (Str × Value) → Prop
 | [], ks => ks = []
 | (n, v) :: r, ks => Ex2 fun u ks' => ks = (n, u) :: ks' ∧ R C ρ h v u ∧ Rk C ρ h r ks'
noncomputable def OwnID (e : En) (env : Env) (I D : Addr) : Addr → Prop := fun b => Own e env b ∨ b = I ∨ b = D
noncomputable def CompOut (C : Cx) (ρ : List Addr) (e : En) (env : Env) (I D : Addr) (h : Heap) (σ' : Sto) (vars : Vars) (acc : List V) (s' : Shared) : Prop :=
 Ex2 fun ρ' us => Tr (OwnID e env I D) ρ ρ' h s'.heap ∧ St C ρ' σ' s' ∧ Frm C ρ' ⟨e.names, vars⟩ env s'.heap ∧ PL s'.heap D us ∧ Rs C ρ' s'.heap acc us
structure Snd (C : Cx) (r : Rec) (n : Nat) : Prop where
 star : ∀ e x p σ, r.ev e (.Starred x p) σ = none
 set : ∀ e xs k p σ, r.ev e (.Set xs k p) σ = none
 ev : ∀ {e x σ v σ' ρ s A env}, r.ev e x σ = some (v, σ') → Room n A → Frm C ρ e env s.heap → St C ρ σ s → EvOk C A (freshForm x) (eval x env) ρ s σ' v
 ts : ∀ {e x σ b σ' ρ s A env}, r.ts e x σ = some (b, σ') → Room n A → Frm C ρ e env s.heap → St C ρ σ s →
  wpAny (Mdl C) A (isTrue x env (eval x env)) (fun t s' => Out C Nox ρ s.heap σ' (fun _ _ => t = b) s') NoE s
 ex : ∀ {e ss σ fl vars σ' ρ s A env}, r.ex e ss σ = some ((fl, vars), σ') → Room n A → Frm C ρ e env s.heap → St C ρ σ s →
  wpAny (Mdl C) A (execs ss env) (fun f s' => ExOut C ρ e env s.heap σ' fl vars f s') NoE s
 call : ∀ {f pos kw σ v σ' ρ s A ad us ks}, r.call f pos kw σ = some (v, σ') → Room n A → St C ρ σ s → C.mg f = some (.ref ad) → Rs C ρ s.heap pos us → Rk C ρ s.heap kw ks →
  wpAny (Mdl C) A (PySem.call (.ref ad) us ks) (fun u s' => Out C Nox ρ s.heap σ' (fun ρ' h' => R C ρ' h' v u) s') NoE s
 comp : ∀ {e elt gens scope pos k gs itv vars acc σ vars' acc' σ' ρ s A cenv I D vs all chk}, r.comp e elt gs [itv] vars acc σ = some ((vars', acc'), σ') → Room n A → gens.drop k = gs →
  Frm C ρ ⟨e.names, vars⟩ cenv s.heap → St C ρ σ s → iterOf itv σ = some ((all, chk), σ) → ItAt C ρ s.heap I itv all 0 → C.h₀.get? I = none → ¬ C.hid I →
  PL s.heap D vs → Rs C ρ s.heap acc vs → C.hid D → D ∉ ρ → C.h₀.get? D = none →
  codeAny (Mdl C) A (.compStart (.ListComp elt gens scope pos) k (.ref I) (.ref D) cenv) (fun r s' => ∃ f, r = .ok f ∧ CompOut C ρ e cenv I D s.heap σ' vars' acc' s') s
theorem ev_ok {A : Around} {fr : Bool} {m : Sem Value} {v : V} (h : wpAny (Mdl C) A m (fun u s' => LOut C ρ s.heap σ' v u s') NoE s) : EvOk C A fr m ρ s σ' v :=
 wpAny_mono h (fun _ _ o => Out.mono o fun _ _ p => ⟨p.1, fun _ => p.2⟩) fun _ _ x => x
theorem ev_plain {A : Around} {m : Sem Value} {v : V} (h : wpAny (Mdl C) A m (fun u s' => Out C Nox ρ s.heap σ' (fun ρ' h' => R C ρ' h' v u) s') NoE s) : EvOk C A false m ρ s σ' v :=
 wpAny_mono h (fun _ _ o => Out.mono o fun _ _ p => ⟨p, fun e => nomatch e⟩) fun _ _ x => x
theorem wpAny_noE {α : Type} {m : Sem α} {Q : α → Shared → Prop} {E : Value → Shared → Prop} (h : wpAny (Mdl C) A m Q NoE s) : wpAny (Mdl C) A m Q E s := wpAny_mono h (fun _ _ x => x) fun _ _ x => x.elim
theorem ev_then {A : Around} {fr : Bool} {m : Sem Value} {v : V} {Q : Value → Shared → Prop} (h : EvOk C A fr m ρ s σ₁ v) (fm : Frm C ρ e env s.heap)
  (k : ∀ u s₁ ρ₁, Tr Nox ρ ρ₁ s.heap s₁.heap → St C ρ₁ σ₁ s₁ → Frm C ρ₁ e env s₁.heap → R C ρ₁ s₁.heap v u → (fr = true → FreshAt C ρ₁ σ₁ s.heap s₁.heap v u) → Q u s₁) : wpAny (Mdl C) A m Q NoE s :=
 wpAny_mono h (fun u s₁ o => let ⟨ρ₁, t, st, r, f⟩ := o; k u s₁ ρ₁ t st (fm.step t) r f) fun _ _ x => x
theorem name_sound (G : Good C) {x : Str} {p : Pos} {v : V} (h : nameV C.cfg e x = some v) (fm : Frm C ρ e env s.heap) (st : St C ρ σ s) :
  wpAny (Mdl C) A (eval (.Name x p) env) (fun u s' => Out C Nox ρ s.heap σ (fun ρ' h' => R C ρ' h' v u) s') NoE s := by
 unfold nameV at h
 split at h
 ·cases h
 ·rename_i hn
  simp only [Bool.or_eq_true, beq_iff_eq, not_or] at hn
  rw [arm_eval_Name]
  refine wpAny_bind (wpAny_standAt ?_)
  have hd : ¬ (x == ("__debug__" : Str)) = true := by simpa using hn.1
  rw [if_neg hd]
  have hk := fm.kinds x
  split at h
  ·rename_i hl
   rw [hl] at hk
   obtain ⟨m, ns, hm⟩ := fm.loc
   obtain ⟨u, hu, ru⟩ : ∃ u, m x = some u ∧ R C ρ s.heap v u := by have := hm x hl; rw [h] at this; exact this
   exact wpAny_loadName_local fm.kind hk ns hu (Out.here' st ru)
  ·rename_i hl
   rw [hl] at hk
   obtain ⟨c, ov, hc, hi, hr⟩ := fm.cel x (by rw [hl]; trivial)
   rw [h] at hr
   obtain ⟨u, rfl, ru⟩ := hr
   exact wpAny_loadName_cell fm.kind hk hc hi (Out.here' st ru)
  ·rename_i hl
   rw [hl] at hk
   obtain ⟨c, ov, hc, hi, hr⟩ := fm.cel x (by rw [hl]; trivial)
   rw [h] at hr
   obtain ⟨u, rfl, ru⟩ := hr
   rcases hk with hk | hk
   ·exact wpAny_loadName_cell fm.kind hk hc hi (Out.here' st ru)
   ·exact wpAny_loadName_free fm.kind hk hc hi (Out.here' st ru) (by simpa using hn.2)
  ·rename_i hl
   rw [hl] at hk
   rw [loadName_read fm.kind hk]
   obtain ⟨u, hu, hr⟩ := G.glob x v h
   have ns : ∀ {a m}, C.h₀.Ns a m → s.heap.Ns a m := fun n => let ⟨o, es, ep, ho, r⟩ := n; ⟨o, es, ep, st.rel.base _ _ ho, r⟩
   rcases hu with hu | ⟨hu, hu'⟩
   ·exact loadGlobal_global (by rw [fm.glob]; exact ns G.g) hu (Out.here' st (R.ofGlob hr _ _))
   ·exact loadGlobal_builtin (by rw [fm.glob]; exact ns G.g) hu (by rw [fm.blt]; exact ns G.b) hu' (Out.here' st (R.ofGlob hr _ _))
  ·cases h
theorem const_sound {c : Const} {v : V} (h : constV c σ = some (v, σ')) (st : St C ρ σ s) : wpAny (Mdl C) A (constValue env c) (fun u s' => Out C Nox ρ s.heap σ' (fun ρ' h' => R C ρ' h' v u) s') NoE s := by
 cases c with
 | none => exact M.pureE h (wpAny_pure (Out.here' st R.mkNone))
 | bool => exact M.pureE h (wpAny_pure (Out.here' st R.mkBool))
 | int => exact M.pureE h (wpAny_mkInt (Out.here st R.mkInt))
 | str => exact M.pureE h (wpAny_mkText (Out.here st R.mkStr))
 | bytes => exact M.pureE h (wpAny_mkTextBytes (Out.here st R.mkBytes))
 | _ => exact M.failE h
variable {r : Rec} {n : Nat}
theorem Snd.notMarks (S : Snd C r n) {op : CmpOp} {x : Expr} {v : V} (h : r.ev e x σ = some (v, σ')) : behindInMarks op x = false := by
 cases x with
 | Set => rw [S.set] at h; exact no_none h
 | _ => rfl
theorem Snd.star1 (S : Snd C r n) {x : Expr} {xs : List Expr} {v : V} (h : r.ev e x σ = some (v, σ')) : starEach (x :: xs) env = (false, eval x env) :: starEach xs env := by
 cases x with
 | Starred => rw [S.star] at h; exact no_none h
 | _ => rfl
theorem evs_sound (S : Snd C r n) {pos : Pos} : ∀ {xs : List Expr} {vs : List V} {σ σ' : Sto} {s : Shared} {ρ : List Addr} {Q : List Value → Shared → Prop}, evs r e xs σ = some (vs, σ') → Room n A → Frm C ρ e env s.heap → St C ρ σ s →
  (∀ us s₁ ρ₁, Tr Nox ρ ρ₁ s.heap s₁.heap → St C ρ₁ σ' s₁ → Frm C ρ₁ e env s₁.heap → Rs C ρ₁ s₁.heap vs us → Q us s₁) → wpAny (Mdl C) A (spliced (backTo pos (starEach xs env))) Q NoE s
 | [], vs, σ, σ', s, ρ, Q, h, hA, fm, st, k => by
  obtain ⟨rfl, rfl⟩ := M.pure_iff.mp h
  exact spliced_nil (k [] s ρ (Tr.refl _ _ _) st fm (show _ = _ from rfl))
 | x :: xs, vs, σ, σ', s, ρ, Q, h, hA, fm, st, k => by
  refine M.bindE h fun v σ₁ h1 h => ?_
  refine M.bindE h fun vs' σ₂ h2 h => ?_
  obtain ⟨rfl, rfl⟩ := M.pure_iff.mp h
  rw [S.star1 h1]
  refine spliced_cons (ev_then (S.ev h1 hA fm st) fm fun u s₁ ρ₁ t₁ st₁ fm₁ r₁ _ => ?_)
  exact evs_sound S h2 hA fm₁ st₁ fun us s₂ ρ₂ t₂ st₂ fm₂ r₂ => k _ s₂ ρ₂ (t₁.then st₁ t₂) st₂ fm₂ (show Ex2 fun _ _ => _ from ⟨u, us, rfl, r₁.mono t₂.toGrow0, r₂⟩)
theorem backTo_plain {pos : Pos} (S : Snd C r n) : ∀ {xs : List Expr} {vs : List V} {σ σ' : Sto}, evs r e xs σ = some (vs, σ') → ((backTo pos (starEach xs env)).any (·.1)) = false ∧ (backTo pos (starEach xs env)).length = xs.length
 | [], _, _, _, _ => ⟨rfl, rfl⟩
 | x :: xs, vs, σ, σ', h => by
  refine M.bindE h fun v σ₁ h1 h => ?_
  refine M.bindE h fun vs' σ₂ h2 h => ?_
  obtain ⟨rfl, rfl⟩ := M.pure_iff.mp h
  rw [S.star1 h1]
  have ih := backTo_plain (pos := pos) S h2
  exact ⟨by simpa [backTo] using ih.1, by simpa [backTo] using ih.2⟩
theorem evO_sound (S : Snd C r n) {x : Option Expr} {v : V} (h : evO r e x σ = some (v, σ')) (hA : Room n A) (fm : Frm C ρ e env s.heap) (st : St C ρ σ s) :
  wpAny (Mdl C) A (evalPart x env) (fun u s' => Out C Nox ρ s.heap σ' (fun ρ' h' => R C ρ' h' v u) s') NoE s := by
 cases x with
 | none =>
  refine M.pureE h ?_
  exact wpAny_pure (Out.here' st R.mkNone)
 | some x => exact wpAny_mono (S.ev h hA fm st) (fun _ _ o => Out.mono o fun _ _ p => p.1) fun _ _ x => x
end
section
variable {C : Cx} {ρ ρ₁ ρ₂ : List Addr} {σ σ' σ₁ σ₂ : Sto} {s s₁ s₂ : Shared} {A : Around} {h : Heap} {P : List Addr → Heap → Prop} {env : Env} {e : En} {r : Rec} {n : Nat}
theorem boolOp_cons2 {pos : Pos} {op : BoolOp} (m m' : Sem Value) (l : List (Sem Value)) {Q : Value → Shared → Prop} (h : wpAny (Mdl C) A m (fun u s₁ => wpAny (Mdl C) A (truthy u) (fun t s₂ => (stops op t = true → Q u s₂) ∧ (stops op t = false → wpAny (Mdl C) A (boolOp pos op (m' :: l)) Q NoE s₂)) NoE s₁) NoE s) :
  wpAny (Mdl C) A (boolOp pos op (m :: m' :: l)) Q NoE s := by
 unfold boolOp
 refine wpAny_bind (wpAny_mono h (fun u s₁ h₁ => wpAny_bind (wpAny_standAt (wpAny_bind (wpAny_holding (wpAny_mono h₁ (fun t s₂ h₂ => ?_) fun _ _ x => x))))) fun _ _ x => x)
 cases op <;> cases t <;> first | exact wpAny_pure (h₂.1 rfl) | exact h₂.2 rfl
theorem orElse_sound (S : Snd C r n) {pos : Pos} {op : BoolOp} : ∀ {xs : List Expr} {v : V} {σ σ' : Sto} {s : Shared} {ρ : List Addr}, orElse r e op xs σ = some (v, σ') → Room n A → Frm C ρ e env s.heap → St C ρ σ s →
  wpAny (Mdl C) A (boolOp pos op (evalEach xs env)) (fun u s' => Out C Nox ρ s.heap σ' (fun ρ' h' => R C ρ' h' v u) s') NoE s
 | [], v, σ, σ', s, ρ, h, _, _, _ => M.failE h
 | [x], v, σ, σ', s, ρ, h, hA, fm, st => wpAny_mono (S.ev h hA fm st) (fun _ _ o => Out.mono o fun _ _ p => p.1) fun _ _ x => x
 | x :: y :: xs, v, σ, σ', s, ρ, h, hA, fm, st => by
  refine M.bindE h fun a σ₁ h1 h => M.bindE h fun b σ₂ h2 h => ?_
  refine boolOp_cons2 _ _ _ (ev_then (S.ev h1 hA fm st) fm fun u s₁ ρ₁ t₁ st₁ fm₁ r₁ _ => wpAny_mono (truthyV_sound h2 st₁ r₁) (fun t s₂ o => ?_) fun _ _ x => x)
  obtain ⟨ρ₂, t₂, st₂, rfl⟩ := o
  refine ⟨fun q => ?_, fun q => ?_⟩
  ·rw [if_pos q] at h
   exact M.pureE h (Out.from (t₁.then st₁ t₂) st₂ (Out.here' st₂ (r₁.mono t₂.toGrow0)))
  ·rw [if_neg (by rw [q]; exact Bool.false_ne_true)] at h
   exact wpAny_mono (orElse_sound S h hA (fm₁.step t₂) st₂) (fun _ _ o => Out.from (t₁.then st₁ t₂) st₂ o) fun _ _ x => x
theorem allTrue_cons {op : BoolOp} {x : Expr} {xs : List Expr} {Q : Bool → Shared → Prop} (h : wpAny (Mdl C) A (isTrue x env (eval x env)) (fun t s₁ => (stops op t = true → Q t s₁) ∧ (stops op t = false → wpAny (Mdl C) A (allTrue op xs env) Q NoE s₁)) NoE s) :
  wpAny (Mdl C) A (allTrue op (x :: xs) env) Q NoE s := by
 rw [arm_allTrue_cons]
 refine wpAny_bind (wpAny_mono h (fun t s₁ h₁ => ?_) fun _ _ x => x)
 cases op <;> cases t <;> first | exact wpAny_pure (h₁.1 rfl) | exact h₁.2 rfl
theorem allT_sound (S : Snd C r n) {op : BoolOp} : ∀ {xs : List Expr} {b : Bool} {σ σ' : Sto} {s : Shared} {ρ : List Addr}, allT r e op xs σ = some (b, σ') → Room n A → Frm C ρ e env s.heap → St C ρ σ s →
  wpAny (Mdl C) A (allTrue op xs env) (fun t s' => Out C Nox ρ s.heap σ' (fun _ _ => t = b) s') NoE s
 | [], b, σ, σ', s, ρ, h, _, _, st => by
  rw [arm_allTrue_nil]
  exact M.pureE h (wpAny_pure (Out.here' st rfl))
 | x :: xs, b, σ, σ', s, ρ, h, hA, fm, st => by
  refine M.bindE h fun c σ₁ h1 h => allTrue_cons (wpAny_mono (S.ts h1 hA fm st) (fun t s₁ o => ?_) fun _ _ x => x)
  obtain ⟨ρ₁, t₁, st₁, rfl⟩ := o
  refine ⟨fun q => ?_, fun q => ?_⟩
  ·rw [if_pos q] at h
   exact M.pureE h (Out.from t₁ st₁ (Out.here' st₁ rfl))
  ·rw [if_neg (by rw [q]; exact Bool.false_ne_true)] at h
   exact wpAny_mono (allT_sound S h hA (fm.step t₁) st₁) (fun _ _ o => Out.from t₁ st₁ o) fun _ _ x => x
theorem isNotOp_eq {op : UnaryOp} (h : isNotOp op = true) : op = .Not := by cases op <;> first | rfl | exact nomatch h
theorem cmp_then (G : Good C) (S : Snd C r n) {l c : Expr} {op : CmpOp} {a b : V} {t : Bool} {Q : Value → Shared → Prop} (h1 : r.ev e l σ = some (a, σ₁)) (h2 : r.ev e c σ₁ = some (b, σ₂)) (h3 : cmpV C.cfg op a b σ₂ = some (t, σ'))
  (hA : Room n A) (fm : Frm C ρ e env s.heap) (st : St C ρ σ s) (k : ∀ ρ₁ s₁, Tr Nox ρ ρ₁ s.heap s₁.heap → St C ρ₁ σ' s₁ → Q (.bool t) s₁) :
  wpAny (Mdl C) A (eval l env) (fun u s₁ => wpAny (Mdl C) A (eval c env) (fun w s₂ => wpAny (Mdl C) A (compareOp op u w) Q NoE s₂) NoE s₁) NoE s := by
 refine ev_then (S.ev h1 hA fm st) fm fun u s₁ ρ₁ t₁ st₁ fm₁ r₁ _ => ?_
 refine ev_then (S.ev h2 hA fm₁ st₁) fm₁ fun w s₂ ρ₂ t₂ st₂ fm₂ r₂ _ => ?_
 refine wpAny_mono (cmpV_sound G hA.line h3 st₂ (r₁.mono t₂.toGrow0) r₂) (fun x s₃ o => ?_) fun _ _ x => x
 obtain ⟨ρ₃, t₃, st₃, rfl⟩ := o
 exact k ρ₃ s₃ ((t₁.then st₁ t₂).then st₂ t₃) st₃
theorem plainT_sound (S : Snd C r n) {x : Expr} {b : Bool} (h : plainT r e x σ = some (b, σ')) (hx : isTrue x env (eval x env) = (do let v ← eval x env; standAt x.pos; holding [v] (truthy v))) (hA : Room n A) (fm : Frm C ρ e env s.heap) (st : St C ρ σ s) :
  wpAny (Mdl C) A (isTrue x env (eval x env)) (fun t s' => Out C Nox ρ s.heap σ' (fun _ _ => t = b) s') NoE s :=
 M.bindE h fun v σ₁ h1 h => isTrue_plain (ev_then (S.ev h1 hA fm st) fm fun u s₁ ρ₁ t₁ st₁ fm₁ r₁ _ => wpAny_mono (truthyV_sound h st₁ r₁) (fun _ _ o => Out.from t₁ st₁ o) fun _ _ x => x) hx
theorem tsStep_sound (G : Good C) (S : Snd C r n) {x : Expr} {b : Bool} (h : tsStep C.cfg r e x σ = some (b, σ')) (hA : Room n A) (fm : Frm C ρ e env s.heap) (st : St C ρ σ s) :
  wpAny (Mdl C) A (isTrue x env (eval x env)) (fun t s' => Out C Nox ρ s.heap σ' (fun _ _ => t = b) s') NoE s := by
 cases x with
 | UnaryOp op y p =>
  refine M.ite2 h (fun q h => ?_) fun q h => plainT_sound S h (by cases op <;> first | rfl | exact (q rfl).elim) hA fm st
  cases isNotOp_eq q
  exact M.bindE h fun c σ₁ h1 h => M.pureE h (isTrue_not (wpAny_mono (S.ts h1 hA fm st) (fun _ _ o => Out.mono o fun _ _ p => by rw [p]) fun _ _ x => x))
 | BoolOp op vs p => rw [arm_isTrue_BoolOp]; exact allT_sound S h hA fm st
 | Compare l ops cs p =>
  refine only1E h fun op e1 h => only1E h fun c e2 h => ?_
  subst e1 e2
  refine M.bindE h fun a σ₁ h1 h => M.bindE h fun c σ₂ h2 h => wpAny_isTrue_Compare1 (cmp_then G S h1 h2 h hA fm st fun ρ₁ s₁ t₁ st₁ => ?_) (S.notMarks h2)
  exact wpAny_truthy_bool (Out.from t₁ st₁ (Out.here' st₁ rfl))
 | IfExp => exact M.failE h
 | _ => exact plainT_sound S h rfl hA fm st
theorem subscripted_plain {i : Expr} {o j : Value} (h : sliceParts i = none) : subscripted i false o j = operate [o, j] (getItem o j) := by
 cases i with
 | Slice => exact nomatch h
 | _ => rfl
theorem freshForm_sub {v i : Expr} {p : Pos} (h : sliceParts i = none) : freshForm (.Subscript v i p) = false := by
 cases i with
 | Slice => exact nomatch h
 | _ => rfl
theorem sliceParts_eq {i : Expr} {q : Option Expr × Option Expr × Option Expr} (h : sliceParts i = some q) : ∃ p, i = .Slice q.1 q.2.1 q.2.2 p := by
 cases i with
 | Slice => cases Option.some.inj h; exact ⟨_, rfl⟩
 | _ => exact no_none h
theorem subE_sound (S : Snd C r n) {v i : Expr} {w : V} {p : Pos} (h : subE r e v i (sliceParts i) σ = some (w, σ')) (hA : Room n A) (fm : Frm C ρ e env s.heap) (st : St C ρ σ s) :
  EvOk C A (freshForm (.Subscript v i p)) (eval (.Subscript v i p) env) ρ s σ' w := by
 cases q : sliceParts i with
 | none =>
  rw [q] at h
  rw [freshForm_sub q]
  refine M.bindE h fun o σ₁ h1 h => M.bindE h fun j σ₂ h2 h => ?_
  refine ev_plain (Subscript_ (ev_then (S.ev h1 hA fm st) fm fun vo s₁ ρ₁ t₁ st₁ fm₁ r₁ _ => ?_))
  refine ev_then (S.ev h2 hA fm₁ st₁) fm₁ fun vj s₂ ρ₂ t₂ st₂ fm₂ r₂ _ => ?_
  exact wpAny_mono (indexV_sound h st₂ (r₁.mono t₂.toGrow0) r₂ (subscripted_plain q)) (fun _ _ o => Out.from (t₁.then st₁ t₂) st₂ o) fun _ _ x => x
 | some q' =>
  rw [q] at h
  obtain ⟨sp, rfl⟩ := sliceParts_eq q
  refine M.bindE h fun o σ₁ h1 h => M.bindE h fun l σ₂ h2 h => M.bindE h fun u σ₃ h3 h => M.bindE h fun c σ₄ h4 h => ?_
  refine ev_ok (Subscript_ (ev_then (S.ev h1 hA fm st) fm fun vo s₁ ρ₁ t₁ st₁ fm₁ r₁ _ => wpAny_Slice ?_))
  refine wpAny_mono (evO_sound S h2 hA fm₁ st₁) (fun vl s₂ o => ?_) fun _ _ x => x
  obtain ⟨ρ₂, t₂, st₂, r₂⟩ := o
  have fm₂ := fm₁.step t₂
  refine wpAny_mono (evO_sound S h3 hA fm₂ st₂) (fun vu s₃ o => ?_) fun _ _ x => x
  obtain ⟨ρ₃, t₃, st₃, r₃⟩ := o
  have fm₃ := fm₂.step t₃
  refine wpAny_mono (evO_sound S h4 hA fm₃ st₃) (fun vc s₄ o => ?_) fun _ _ x => x
  obtain ⟨ρ₄, t₄, st₄, r₄⟩ := o
  have g2 := t₂.toGrow0 (C := C)
  have g3 := t₃.toGrow0 (C := C)
  have g4 := t₄.toGrow0 (C := C)
  exact wpAny_mono (sliceV_sound h st₄ (((r₁.mono g2).mono g3).mono g4) ((r₂.mono g3).mono g4) (r₃.mono g4) r₄) (fun x s' o => LOut.from (((t₁.then st₁ t₂).then st₂ t₃).then st₃ t₄) st₄ o) fun _ _ x => x
theorem unE_sound (S : Snd C r n) {op : UnaryOp} {y : Expr} {w : V} {p : Pos} (h : unE r e op y σ = some (w, σ')) (hA : Room n A) (fm : Frm C ρ e env s.heap) (st : St C ρ σ s) :
  EvOk C A false (eval (.UnaryOp op y p) env) ρ s σ' w := by
 rw [arm_eval_UnaryOp]
 refine M.bindE h fun a σ₁ h1 h => ?_
 refine ev_ok (wpAny_bind (ev_then (S.ev h1 hA fm st) fm fun u s₁ ρ₁ t₁ st₁ fm₁ r₁ _ => wpAny_bind (wpAny_standAt (wpAny_holding ?_))))
 exact wpAny_mono (unV_sound h st₁ r₁) (fun _ _ o => LOut.from t₁ st₁ o) fun _ _ x => x
theorem evPlain_sound (G : Good C) (S : Snd C r n) {x : Expr} {v : V} (hx : isLC x = false) (hc : isCallE x = false) (h : evStep C.cfg r e x σ = some (v, σ')) (hA : Room n A) (fm : Frm C ρ e env s.heap) (st : St C ρ σ s) :
  EvOk C A (freshForm x) (eval x env) ρ s σ' v := by
 cases x with
 | Constant => rw [arm_eval_Constant]; exact ev_plain (const_sound h st)
 | Name =>
  obtain ⟨h1, rfl⟩ := M.of_iff.mp h
  exact ev_plain (name_sound G h1 fm st)
 | BinOp =>
  refine M.bindE h fun a σ₁ h1 h => M.bindE h fun b σ₂ h2 h => ev_ok (wpAny_BinOp (ev_then (S.ev h1 hA fm st) fm fun u s₁ ρ₁ t₁ st₁ fm₁ r₁ _ => ?_))
  refine ev_then (S.ev h2 hA fm₁ st₁) fm₁ fun w s₂ ρ₂ t₂ st₂ fm₂ r₂ _ => ?_
  exact wpAny_mono (binV_sound h st₂ (r₁.mono t₂.toGrow0) r₂) (fun _ _ o => LOut.from (t₁.then st₁ t₂) st₂ o) fun _ _ x => x
 | UnaryOp => exact unE_sound S h hA fm st
 | BoolOp => rw [arm_eval_BoolOp]; exact ev_plain (orElse_sound S h hA fm st)
 | IfExp =>
  rw [arm_eval_IfExp]
  refine M.bindE h fun c σ₁ h1 h => ev_plain (wpAny_bind (wpAny_mono (S.ts h1 hA fm st) (fun t s₁ o => ?_) fun _ _ x => x))
  obtain ⟨ρ₁, t₁, st₁, rfl⟩ := o
  refine M.ite2 h (fun ht h => ?_) fun ht h => ?_
  ·rw [if_pos ht]
   exact wpAny_mono (S.ev h hA (fm.step t₁) st₁) (fun _ _ o => Out.from t₁ st₁ (o.mono fun _ _ p => p.1)) fun _ _ x => x
  ·rw [if_neg ht]
   exact wpAny_mono (S.ev h hA (fm.step t₁) st₁) (fun _ _ o => Out.from t₁ st₁ (o.mono fun _ _ p => p.1)) fun _ _ x => x
 | List =>
  rw [arm_eval_List]
  refine M.bindE h fun vs σ₁ h1 h => M.iteE h fun hl h => M.pureE h (ev_ok (wpAny_bind (wpAny_standAt (wpAny_bind (evs_sound S h1 hA fm st fun us s₁ ρ₁ t₁ st₁ fm₁ r₁ => ?_)))))
  exact wpAny_newList (LOut.from t₁ st₁ (lout_list st₁ r₁)) (by rw [r₁.length, sizeLine_eq]; lia)
 | Tuple =>
  rw [arm_eval_Tuple]
  refine M.bindE h fun vs σ₁ h1 h => M.iteE h fun hl h => M.pureE h (ev_plain (wpAny_bind (wpAny_standAt (wpAny_bind (evs_sound S h1 hA fm st fun us s₁ ρ₁ t₁ st₁ fm₁ r₁ => ?_)))))
  exact wpAny_newTuple (Out.from t₁ st₁ (out_tup st₁ r₁)) (by rw [r₁.length, sizeLine_eq]; lia)
 | Compare l ops cs p =>
  refine only1E h fun op e1 h => only1E h fun c e2 h => ?_
  subst e1 e2
  exact M.bindE h fun a σ₁ h1 h => M.bindE h fun b σ₂ h2 h => M.bindE h fun t σ₃ h3 h => M.pureE h (ev_plain (wpAny_Compare1 (cmp_then G S h1 h2 h3 hA fm st fun ρ₁ s₁ t₁ st₁ => Out.from t₁ st₁ (Out.here' st₁ R.mkBool)) (S.notMarks h2)))
 | ListComp => exact nomatch hx
 | Subscript => exact subE_sound S h hA fm st
 | Call => exact nomatch hc
 | _ => exact M.failE h
end
end Mine.Internal
namespace Mine.Internal
open PySem PySem.W PyProof.Rows
noncomputable def kyN (p : Keyed) : Int := numOf p.1
noncomputable def insP (p : Keyed) : List Keyed → List Keyed
 | [] => [p]
 | q :: r => if kyN p < kyN q then p :: q :: r else q :: insP p r
noncomputable def stab (l : List Keyed) : List Keyed := l.foldl (fun acc p => insP p acc) []
theorem stab_snoc (l : List Keyed) (p : Keyed) : stab (l ++ [p]) = insP p (stab l) := by
 unfold stab
 rw [List.foldl_append]; rfl
theorem insP_mid {p : Keyed} : ∀ {A B : List Keyed}, (∀ q ∈ A, kyN q ≤ kyN p) → (∀ q ∈ B, kyN p < kyN q) → insP p (A ++ B) = A ++ p :: B
 | [], [], _, _ => rfl
 | [], q :: _, _, h => if_pos (h q List.mem_cons_self)
 | q :: A, B, h1, h2 => by
  rw [List.cons_append, insP, if_neg (Int.not_lt.mpr (h1 q List.mem_cons_self)), insP_mid (fun x hx => h1 x (List.mem_cons_of_mem _ hx)) h2]; rfl
theorem insP_mem {p x : Keyed} : ∀ {l : List Keyed}, x ∈ insP p l ↔ x = p ∨ x ∈ l
 | [] => List.mem_singleton.trans (by simp)
 | q :: r => by
  rw [insP]
  split
  ·exact List.mem_cons
  ·rw [List.mem_cons, insP_mem, List.mem_cons]
   exact ⟨fun h => h.elim (fun h => .inr (.inl h)) fun h => h.imp id .inr, fun h => h.elim (fun h => .inr (.inl h)) fun h => h.imp id .inr⟩
theorem insP_len (p : Keyed) : ∀ l, (insP p l).length = l.length + 1
 | [] => rfl
 | q :: r => by
  rw [insP]
  split
  ·rfl
  ·rw [List.length_cons, insP_len p r, List.length_cons]
theorem insP_srt {p : Keyed} : ∀ {l : List Keyed}, l.Pairwise (fun a b => kyN a ≤ kyN b) → (insP p l).Pairwise fun a b => kyN a ≤ kyN b
 | [], _ => List.pairwise_singleton _ _
 | q :: r, h => by
  obtain ⟨h1, h2⟩ := List.pairwise_cons.mp h
  rw [insP]
  split
  ·rename_i lt
   refine List.pairwise_cons.mpr ⟨fun x hx => ?_, h⟩
   rcases List.mem_cons.mp hx with rfl | hx
   ·exact Int.le_of_lt lt
   ·exact Int.le_trans (Int.le_of_lt lt) (h1 x hx)
  ·rename_i lt
   refine List.pairwise_cons.mpr ⟨fun x hx => ?_, insP_srt h2⟩
   rcases insP_mem.mp hx with rfl | hx
   ·exact Int.not_lt.mp lt
   ·exact h1 x hx
theorem stab_all (P : List Keyed → List Keyed → Prop) (h0 : P [] []) (hs : ∀ l s p, P l s → P (l ++ [p]) (insP p s)) : ∀ l, P l (stab l) := by
 have key : ∀ n (l : List Keyed), l.length = n → P l (stab l) := fun n => by
  induction n with
  | zero => intro l hl; cases List.length_eq_zero_iff.mp hl; exact h0
  | succ n ih =>
   intro l hl
   obtain ⟨l', p, rfl⟩ : ∃ l' p, l = l' ++ [p] := ⟨l.dropLast, l.getLast (by intro q; rw [q] at hl; cases hl), (List.dropLast_concat_getLast _).symm⟩
   rw [stab_snoc]
   exact hs _ _ _ (ih l' (by rw [List.length_append] at hl; exact Nat.succ.inj hl))
 exact fun l => key _ l rfl
theorem stab_len : ∀ l, (stab l).length = l.length := stab_all (fun l s => s.length = l.length) rfl fun l s p h => by rw [insP_len, h, List.length_append]; rfl
theorem stab_srt : ∀ l, (stab l).Pairwise fun a b => kyN a ≤ kyN b := stab_all (fun _ s => s.Pairwise fun a b => kyN a ≤ kyN b) .nil fun _ _ _ h => insP_srt h
theorem app_at {α : Type} (A X : List α) (t : Nat) : (A ++ X)[A.length + t]? = X[t]? := by
 rw [List.getElem?_append_right (Nat.le_add_right _ t), Nat.add_sub_cancel_left]
theorem half_in {l r : Nat} (h : l < r) : l ≤ (l + r) / 2 ∧ (l + r) / 2 < r :=
 ⟨(Nat.le_div_iff_mul_le (by decide)).mpr (by rw [Nat.mul_two]; exact Nat.add_le_add_left (Nat.le_of_lt h) _), Nat.div_lt_of_lt_mul (by rw [Nat.two_mul]; exact Nat.add_lt_add_right h _)⟩
theorem mir_at {a b t : Nat} (h : t < b) : a + (a + b) - 1 - (a + t) = a + (b - 1 - t) := by
 have hb : 0 < b := Nat.lt_of_le_of_lt (Nat.zero_le _) h
 rw [Nat.add_sub_assoc (show 1 ≤ a + b from Nat.le_trans hb (Nat.le_add_left _ _)), Nat.add_sub_add_left, Nat.add_sub_assoc hb, Nat.add_sub_assoc (Nat.le_sub_one_of_lt h)]
theorem mirror_list {xs : Array Keyed} {A B C : List Keyed} {i j : Nat} (h : xs.toList = A ++ (B ++ C)) (hi : i = A.length) (hj : j = A.length + B.length) : (mirror xs i j ((j - i) / 2)).toList = A ++ (B.reverse ++ C) := by
 subst hi; subst hj
 have hl : xs.size = A.length + (B.length + C.length) := by rw [← Array.length_toList, h, List.length_append, List.length_append]
 refine List.ext_getElem? fun k => ?_
 rw [Array.getElem?_toList, getElem?_mirror_all (by rw [hl]; exact Nat.add_le_add_left (Nat.le_add_right _ _) _), ← Array.getElem?_toList, ← Array.getElem?_toList, h]
 by_cases h1 : k < A.length
 ·rw [if_neg fun q => Nat.not_le_of_lt h1 q.1, List.getElem?_append_left h1, List.getElem?_append_left h1]
 ·obtain ⟨t, rfl⟩ := Nat.exists_eq_add_of_le (Nat.le_of_not_lt h1)
  rw [app_at, app_at]
  by_cases h2 : t < B.length
  ·rw [if_pos ⟨Nat.le_add_right _ t, Nat.add_lt_add_left h2 _⟩, mir_at h2, app_at, List.getElem?_append_left (Nat.lt_of_le_of_lt (Nat.sub_le ..) (Nat.sub_one_lt (Nat.ne_of_gt (Nat.lt_of_le_of_lt (Nat.zero_le _) h2)))), List.getElem?_append_left (by rw [List.length_reverse]; exact h2), List.getElem?_reverse h2]
  ·rw [if_neg fun q => h2 (Nat.lt_of_add_lt_add_left q.2), List.getElem?_append_right (Nat.le_of_not_lt h2), List.getElem?_append_right (by rw [List.length_reverse]; exact Nat.le_of_not_lt h2), List.length_reverse]
theorem bubble_list {xs : Array Keyed} {A B C : List Keyed} {x : Keyed} {k d : Nat} (h : xs.toList = A ++ (B ++ x :: C)) (hk : k = A.length + B.length) (hd : d = B.length) : (bubble xs k d).toList = A ++ (x :: (B ++ C)) := by
 subst hk; subst hd
 have hl : xs.size = A.length + (B.length + (C.length + 1)) := by rw [← Array.length_toList, h, List.length_append, List.length_append, List.length_cons]
 refine List.ext_getElem? fun k => ?_
 rw [Array.getElem?_toList, getElem?_bubble (by rw [hl]; exact Nat.add_lt_add_left (Nat.lt_add_of_pos_right (Nat.succ_pos _)) _) _ (Nat.le_add_left _ _), ← Array.getElem?_toList, ← Array.getElem?_toList, ← Array.getElem?_toList, h, Nat.add_sub_cancel]
 by_cases h1 : k < A.length
 ·rw [if_neg (Nat.ne_of_lt h1), if_neg fun q => Nat.lt_asymm h1 q.1, List.getElem?_append_left h1, List.getElem?_append_left h1]
 ·obtain ⟨t, rfl⟩ := Nat.exists_eq_add_of_le (Nat.le_of_not_lt h1)
  rw [app_at, app_at, app_at]
  cases t with
  | zero =>
   have := app_at B (x :: C) 0
   rw [if_pos (Nat.add_zero _)]
   exact this
  | succ t =>
   rw [if_neg (Nat.ne_of_gt (Nat.lt_add_of_pos_right (Nat.succ_pos t))), List.getElem?_cons_succ]
   by_cases h2 : t < B.length
   ·rw [if_pos ⟨Nat.lt_add_of_pos_right (Nat.succ_pos t), Nat.add_le_add_left h2 _⟩, show A.length + (t + 1) - 1 = A.length + t from rfl, app_at, List.getElem?_append_left h2, List.getElem?_append_left h2]
   ·obtain ⟨u, rfl⟩ := Nat.exists_eq_add_of_le (Nat.le_of_not_lt h2)
    rw [if_neg fun q => h2 (Nat.le_of_add_le_add_left q.2), Nat.add_assoc, app_at, app_at]; rfl
section
variable {prog : Program} {w : World} {A : Around} {E : Value → Shared → Prop} {s : Shared} {a₀ : Array Keyed}
theorem K_list {xs : Array Keyed} {i : Nat} {p : Keyed} (h : xs.toList[i]? = some p) : K xs i = kyN p := by
 rw [Array.getElem?_toList] at h
 unfold K; rw [h]; rfl
theorem lt_list {st : SortSt} {i j : Nat} {p q : Keyed} {Q : Option Bool → SortSt → Prop} (hB : SBase a₀ st) (h0 : IntKeys a₀) (hi : (arrOf st).toList[i]? = some p) (hj : (arrOf st).toList[j]? = some q) (h : Q (some (decide (kyN p < kyN q))) st) : wpS (model prog w) A E s (ltAt' i j) Q st := by
 have hs := hB.size
 have li := (List.getElem?_eq_some_iff.mp hi).1
 have lj := (List.getElem?_eq_some_iff.mp hj).1
 rw [Array.length_toList] at li lj
 refine wpS_ltK hB h0 (hs ▸ li) (hs ▸ lj) ?_
 rw [K_list hi, K_list hj]; exact h
structure Inv (a₀ : Array Keyed) (m : Nat) (st : SortSt) : Prop where
 base : SBase a₀ st
 arr : (arrOf st).toList = stab (a₀.toList.take m) ++ a₀.toList.drop m
theorem take_snoc {l : List Keyed} {m : Nat} {p : Keyed} (h : l[m]? = some p) : l.take (m + 1) = l.take m ++ [p] := by rw [List.take_add_one, h]; rfl
theorem drop_snoc {l : List Keyed} {m : Nat} {p : Keyed} (h : l[m]? = some p) : l.drop m = p :: l.drop (m + 1) := by
 obtain ⟨h1, rfl⟩ := List.getElem?_eq_some_iff.mp h
 exact List.drop_eq_getElem_cons h1
theorem Inv.at {m : Nat} {st : SortSt} (h : Inv a₀ m st) (hm : m < a₀.size) : ∃ p, a₀.toList[m]? = some p ∧ (arrOf st).toList[m]? = some p ∧ (stab (a₀.toList.take m)).length = m := by
 have hm' : m < a₀.toList.length := by rw [Array.length_toList]; exact hm
 have hl : (stab (a₀.toList.take m)).length = m := by rw [stab_len, List.length_take]; exact Nat.min_eq_left (Nat.le_of_lt hm')
 refine ⟨a₀.toList[m], List.getElem?_eq_getElem hm', ?_, hl⟩
 rw [h.arr]
 have := app_at (stab (a₀.toList.take m)) (a₀.toList.drop m) 0
 rw [hl, Nat.add_zero] at this
 rw [this, List.getElem?_drop, Nat.add_zero]
 exact List.getElem?_eq_getElem hm'
structure Srch (P : List Keyed) (p : Keyed) (k x l r : Nat) : Prop where
 lr : l ≤ r
 rk : r ≤ k
 m : r - l ≤ k - x
 lo : ∀ q ∈ P.take l, kyN q ≤ kyN p
 hi : ∀ q ∈ P.drop r, kyN p < kyN q
theorem srt_take {P : List Keyed} (h : P.Pairwise fun a b => kyN a ≤ kyN b) {m : Nat} {q : Keyed} (hq : P[m]? = some q) : (∀ x ∈ P.take (m + 1), kyN x ≤ kyN q) ∧ ∀ x ∈ P.drop m, kyN q ≤ kyN x := by
 have e : P = P.take m ++ q :: P.drop (m + 1) := by
  conv => lhs; rw [← List.take_append_drop m P]
  rw [drop_snoc hq]
 rw [e] at h
 obtain ⟨_, h2, h3⟩ := List.pairwise_append.mp h
 refine ⟨fun x hx => ?_, fun x hx => ?_⟩
 ·rw [take_snoc hq] at hx
  rcases List.mem_append.mp hx with hx | hx
  ·exact h3 x hx q List.mem_cons_self
  ·rw [List.mem_singleton.mp hx]; exact Int.le_refl _
 ·rw [drop_snoc hq] at hx
  rcases List.mem_cons.mp hx with rfl | hx
  ·exact Int.le_refl _
  ·exact (List.pairwise_cons.mp h2).1 x hx
theorem wpS_binary {st : SortSt} {n ok : Nat} {Q : Bool → SortSt → Prop} (h0 : IntKeys a₀) (hn : n ≤ a₀.size) (h1 : 1 ≤ ok) (hok : ok ≤ n) (hI : Inv a₀ ok st) (h : ∀ st', Inv a₀ n st' → Q true st') : wpS (model prog w) A E s (binarySort' 0 n ok) Q st := by
 rw [binarySort'_eq, Nat.max_eq_left h1]
 simp only [Nat.zero_add]
 refine wpS_bind (wpS_mono (wpS_forRange (I := fun k c st' => c = (none, ()) ∧ Inv a₀ k st') (Q := fun c st' => c = (none, ()) ∧ Inv a₀ n st') ?step ?fin ⟨rfl, hI⟩) ?post)
 case post =>
  rintro c st' ⟨rfl, hI'⟩
  exact wpS_pure (h st' hI')
 case fin =>
  rintro c st' ⟨hc, hI'⟩
  rw [Nat.max_eq_right hok] at hI'
  exact ⟨hc, hI'⟩
 case step =>
  rintro k c st' hak hkn ⟨rfl, hI'⟩
  have hk : k < a₀.size := Nat.lt_of_lt_of_le hkn hn
  obtain ⟨p, e1, e2, hl⟩ := hI'.at hk
  have hP := stab_srt (a₀.toList.take k)
  refine wpS_bind (wpS_mono (wpS_forRange (I := fun x c st'' => st'' = st' ∧ ∃ l r, c = (none, l, r) ∧ Srch (stab (a₀.toList.take k)) p k x l r)
   (Q := fun c st'' => st'' = st' ∧ ∃ l r, c = (none, l, r) ∧ Srch (stab (a₀.toList.take k)) p k k l l) ?istep ?ifin ?iinit) ?ipost)
  case iinit => exact ⟨rfl, 0, k, rfl, Nat.zero_le _, Nat.le_refl _, Nat.le_refl _, fun q hq => absurd hq List.not_mem_nil, fun q hq => by rw [List.drop_eq_nil_of_le (Nat.le_of_eq hl)] at hq; exact absurd hq List.not_mem_nil⟩
  case ifin =>
   rintro c st'' ⟨rfl, l, r, rfl, hS⟩
   have : l = r := Nat.le_antisymm hS.lr (Nat.sub_eq_zero_iff_le.mp (Nat.le_zero.mp (Nat.sub_self k ▸ hS.m)))
   subst this
   exact ⟨rfl, l, l, rfl, Nat.le_refl _, hS.rk, by rw [Nat.sub_self]; exact Nat.zero_le _, hS.lo, hS.hi⟩
  case istep =>
   rintro x c st'' _ hxk ⟨rfl, l, r, rfl, hS⟩
   have hlr := hS.lr
   have hrk := hS.rk
   have hm := hS.m
   dsimp only
   by_cases hge : l ≥ r
   ·rw [if_pos hge]
    have : l = r := Nat.le_antisymm hlr hge
    subst this
    exact wpS_pure ⟨rfl, l, l, rfl, Nat.le_refl _, hS.rk, by rw [Nat.sub_self]; exact Nat.zero_le _, hS.lo, hS.hi⟩
   ·rw [if_neg hge]
    obtain ⟨m1, m2⟩ := half_in (Nat.lt_of_not_le hge)
    have hmid : (l + r) / 2 < (stab (a₀.toList.take k)).length := by rw [hl]; exact Nat.lt_of_lt_of_le m2 hrk
    have e3 := List.getElem?_eq_getElem hmid
    obtain ⟨t1, t2⟩ := srt_take hP e3
    refine wpS_bind (lt_list hI'.base h0 e2 (by rw [hI'.arr, List.getElem?_append_left hmid]; exact e3) ?_)
    by_cases hless : kyN p < kyN (stab (a₀.toList.take k))[(l + r) / 2]
    ·rw [decide_eq_true hless]
     simp only [if_true]
     exact wpS_pure ⟨rfl, l, (l + r) / 2, rfl, m1, Nat.le_trans (Nat.le_of_lt m2) hrk, Nat.le_sub_one_of_lt (Nat.lt_of_lt_of_le (Nat.sub_lt_sub_right m1 m2) hm), hS.lo, fun q hq => Int.lt_of_lt_of_le hless (t2 q hq)⟩
    ·rw [decide_eq_false hless]
     simp only [Bool.false_eq_true, if_false]
     exact wpS_pure ⟨rfl, (l + r) / 2 + 1, r, rfl, m2, hrk, Nat.le_sub_one_of_lt (Nat.lt_of_lt_of_le (Nat.sub_lt_sub_left (Nat.lt_of_not_le hge) (Nat.lt_succ_of_le m1)) hm), fun q hq => Int.le_trans (t1 q hq) (Int.not_lt.mp hless), hS.hi⟩
  case ipost =>
   rintro c st'' ⟨rfl, l, r, rfl, hS⟩
   show wpS _ _ _ _ (do moveDown' k l; pure (ForInStep.yield (none, ()))) _ _
   rw [moveDown'_eq]
   refine wpS_bind (wpS_modify (wpS_pure ⟨rfl, hI'.base.setArr (bubble_perm _ _ _), ?_⟩))
   have hlk : l ≤ (stab (a₀.toList.take k)).length := by rw [hl]; exact hS.rk
   have hb := bubble_list (xs := arrOf st'') (A := (stab (a₀.toList.take k)).take l) (B := (stab (a₀.toList.take k)).drop l) (C := a₀.toList.drop (k + 1)) (x := p) (k := k) (d := k - l)
    (by rw [hI'.arr, ← List.append_assoc, List.take_append_drop, drop_snoc e1]) (by rw [List.length_take, List.length_drop, hl, Nat.min_eq_left hS.rk, Nat.add_sub_cancel' hS.rk]) (by rw [List.length_drop, hl])
   show (bubble (arrOf st'') k (k - l)).toList = _
   rw [hb, take_snoc e1, stab_snoc]
   have hi := insP_mid hS.lo hS.hi
   rw [List.take_append_drop] at hi
   rw [hi, List.append_assoc]; rfl
end
section
variable {prog : Program} {w : World} {A : Around} {E : Value → Shared → Prop} {s : Shared} {a₀ : Array Keyed}
theorem Inv.last {m : Nat} {st : SortSt} (h : Inv a₀ m st) (hm : m ≤ a₀.size) (h1 : 1 ≤ m) : ∃ q, (arrOf st).toList[m - 1]? = some q ∧ (stab (a₀.toList.take m))[m - 1]? = some q ∧ ∀ x ∈ stab (a₀.toList.take m), kyN x ≤ kyN q := by
 have hl : (stab (a₀.toList.take m)).length = m := by rw [stab_len, List.length_take]; exact Nat.min_eq_left (by rw [Array.length_toList]; exact hm)
 have hlt : m - 1 < (stab (a₀.toList.take m)).length := by rw [hl]; exact Nat.sub_one_lt (Nat.ne_of_gt h1)
 have e := List.getElem?_eq_getElem hlt
 refine ⟨_, by rw [h.arr, List.getElem?_append_left hlt]; exact e, e, fun x hx => ?_⟩
 refine (srt_take (stab_srt _) e).1 x ?_
 rw [Nat.sub_add_cancel h1, List.take_of_length_le (Nat.le_of_eq hl)]; exact hx
theorem Inv.more {m : Nat} {st : SortSt} {p q : Keyed} (h : Inv a₀ m st) (hp : a₀.toList[m]? = some p) (hq : ∀ x ∈ stab (a₀.toList.take m), kyN x ≤ kyN q) (hle : ¬ kyN p < kyN q) : Inv a₀ (m + 1) st := by
 refine ⟨h.base, ?_⟩
 have := insP_mid (p := p) (A := stab (a₀.toList.take m)) (B := []) (fun x hx => Int.le_trans (hq x hx) (Int.not_lt.mp hle)) (fun x hx => absurd hx List.not_mem_nil)
 rw [List.append_nil] at this
 rw [h.arr, take_snoc hp, stab_snoc, this, drop_snoc hp, List.append_assoc]; rfl
theorem wpS_asc {st : SortSt} {a nrem : Nat} {Q : AscSt → SortSt → Prop} (h0 : IntKeys a₀) (hn : nrem ≤ a₀.size) (ha : 1 ≤ a) (han : a ≤ nrem) (hI : Inv a₀ a st)
  (h : ∀ n, a ≤ n → n ≤ nrem → Inv a₀ n st → (n = nrem ∨ ∃ p q, (arrOf st).toList[n]? = some p ∧ (arrOf st).toList[n - 1]? = some q ∧ kyN p < kyN q) → Q (none, n) st) : wpS (model prog w) A E s (ascLoop a nrem) Q st := by
 unfold ascLoop
 refine wpS_forRange (I := fun x c st' => st' = st ∧ c = (none, x) ∧ Inv a₀ x st) ?step ?fin ⟨rfl, rfl, hI⟩
 case fin =>
  rintro c st' ⟨rfl, rfl, hI'⟩
  rw [Nat.max_eq_right han] at hI' ⊢
  exact h nrem han (Nat.le_refl _) hI' (.inl rfl)
 case step =>
  rintro x c st' hax hxn ⟨rfl, rfl, hI'⟩
  dsimp only
  obtain ⟨p, e1, e2, _⟩ := hI'.at (Nat.lt_of_lt_of_le hxn hn)
  obtain ⟨q, e3, _, hq⟩ := hI'.last (Nat.le_of_lt (Nat.lt_of_lt_of_le hxn hn)) (Nat.le_trans ha hax)
  refine wpS_bind (lt_list hI'.base h0 e2 e3 ?_)
  by_cases hless : kyN p < kyN q
  ·rw [decide_eq_true hless]
   simp only [if_true]
   exact wpS_pure (h x hax (Nat.le_of_lt hxn) hI' (.inr ⟨p, q, e2, e3, hless⟩))
  ·rw [decide_eq_false hless]
   simp only [Bool.false_eq_true, if_false]
   exact wpS_pure ⟨rfl, rfl, hI'.more e1 hq hless⟩
structure Dwn (a₀ : Array Keyed) (x : Nat) (B C : List Keyed) (c : Int) (st : SortSt) : Prop where
 base : SBase a₀ st
 arr : (arrOf st).toList = B ++ (C ++ a₀.toList.drop x)
 len : B.length + C.length = x
 eq : ∀ q ∈ C, kyN q = c
 gt : ∀ q ∈ B, c < kyN q
 st : stab (a₀.toList.take x) = C ++ B.reverse
theorem Dwn.at {x : Nat} {B C : List Keyed} {c : Int} {st : SortSt} (h : Dwn a₀ x B C c st) (hx : x < a₀.size) (hC : 1 ≤ C.length) : ∃ p q, a₀.toList[x]? = some p ∧ (arrOf st).toList[x]? = some p ∧ (arrOf st).toList[x - 1]? = some q ∧ kyN q = c := by
 have hx' : x < a₀.toList.length := by rw [Array.length_toList]; exact hx
 have hl : (B ++ C).length = x := by rw [List.length_append]; exact h.len
 have harr := h.arr
 rw [← List.append_assoc] at harr
 have hc : C.length - 1 < C.length := Nat.sub_one_lt (Nat.ne_of_gt hC)
 refine ⟨a₀.toList[x], C[C.length - 1], List.getElem?_eq_getElem hx', ?_, ?_, h.eq _ (List.getElem_mem hc)⟩
 ·have := app_at (B ++ C) (a₀.toList.drop x) 0
  rw [hl, Nat.add_zero] at this
  rw [harr, this, List.getElem?_drop, Nat.add_zero]
  exact List.getElem?_eq_getElem hx'
 ·rw [h.arr, show x - 1 = B.length + (C.length - 1) by rw [← Nat.add_sub_assoc hC, h.len], app_at, List.getElem?_append_left hc]
  exact List.getElem?_eq_getElem hc
theorem Dwn.turn {x : Nat} {B C : List Keyed} {c : Int} {st : SortSt} (h : Dwn a₀ x B C c st) : (mirror (arrOf st) (x - C.length) x ((x - (x - C.length)) / 2)).toList = B ++ (C.reverse ++ a₀.toList.drop x) := by
 have hl := h.len
 exact mirror_list h.arr (by rw [← hl, Nat.add_sub_cancel]) hl.symm
theorem Dwn.less {x : Nat} {B C : List Keyed} {c : Int} {st st' : SortSt} {p : Keyed} (h : Dwn a₀ x B C c st) (hp : a₀.toList[x]? = some p) (lt : kyN p < c) (hB : SBase a₀ st') (ha : (arrOf st').toList = B ++ (C.reverse ++ a₀.toList.drop x)) : Dwn a₀ (x + 1) (B ++ C.reverse) [p] (kyN p) st' := by
 have hq : ∀ q ∈ C ++ B.reverse, kyN p < kyN q := fun q hq => by
  rcases List.mem_append.mp hq with hq | hq
  ·rw [h.eq q hq]; exact lt
  ·exact Int.lt_trans lt (h.gt q (List.mem_reverse.mp hq))
 refine ⟨hB, ?_, ?_, fun q hq => by rw [List.mem_singleton.mp hq], fun q hq => ?_, ?_⟩
 ·rw [ha, drop_snoc hp, List.append_assoc]; rfl
 ·rw [List.length_append, List.length_reverse, h.len]; rfl
 ·rcases List.mem_append.mp hq with hq | hq
  ·exact Int.lt_trans lt (h.gt q hq)
  ·rw [h.eq q (List.mem_reverse.mp hq)]; exact lt
 ·have := insP_mid (p := p) (A := []) (B := C ++ B.reverse) (fun q hq => absurd hq List.not_mem_nil) hq
  rw [take_snoc hp, stab_snoc, h.st, List.reverse_append, List.reverse_reverse]
  exact this
theorem Dwn.same {x : Nat} {B C : List Keyed} {c : Int} {st : SortSt} {p : Keyed} (h : Dwn a₀ x B C c st) (hp : a₀.toList[x]? = some p) (e : kyN p = c) : Dwn a₀ (x + 1) B (C ++ [p]) c st := by
 refine ⟨h.base, ?_, ?_, fun q hq => ?_, h.gt, ?_⟩
 ·rw [h.arr, drop_snoc hp, List.append_assoc]; rfl
 ·rw [List.length_append, ← h.len]; rfl
 ·rcases List.mem_append.mp hq with hq | hq
  ·exact h.eq q hq
  ·rw [List.mem_singleton.mp hq]; exact e
 ·have := insP_mid (p := p) (A := C) (B := B.reverse) (fun q hq => by rw [h.eq q hq, e]; exact Int.le_refl _) (fun q hq => by rw [e]; exact h.gt q (List.mem_reverse.mp hq))
  rw [take_snoc hp, stab_snoc, h.st, this, List.append_assoc]; rfl
theorem rev_one {C : List Keyed} (h : C.length = 1) : C.reverse = C := by
 cases C with
 | nil => exact Nat.noConfusion h
 | cons x l =>
  cases l with
  | nil => rfl
  | cons y l => exact Nat.noConfusion (Nat.succ.inj h)
theorem wpS_desc {st : SortSt} {n nrem : Nat} {B : List Keyed} {p : Keyed} {Q : DescSt → SortSt → Prop} (h0 : IntKeys a₀) (hn : nrem ≤ a₀.size) (hnn : n ≤ nrem) (hD : Dwn a₀ n B [p] (kyN p) st)
  (h : ∀ m neq st' B C c, Dwn a₀ m B C c st' → n ≤ m → m ≤ nrem → C.length = neq + 1 → Q (none, m, neq) st') : wpS (model prog w) A E s (descLoop n nrem) Q st := by
 unfold descLoop
 refine wpS_forRange (I := fun x c st' => ∃ neq B C k, c = (none, x, neq) ∧ Dwn a₀ x B C k st' ∧ C.length = neq + 1) ?step ?fin ⟨0, B, [p], _, rfl, hD, rfl⟩
 case fin =>
  rintro c st' ⟨neq, B, C, k, rfl, hD', hC⟩
  rw [Nat.max_eq_right hnn] at hD' ⊢
  exact h nrem neq st' B C k hD' hnn (Nat.le_refl _) hC
 case step =>
  rintro x c st' hax hxn ⟨neq, B, C, k, rfl, hD', hC⟩
  dsimp only
  obtain ⟨y, q, e1, e2, e3, ek⟩ := hD'.at (Nat.lt_of_lt_of_le hxn hn) (by rw [hC]; exact Nat.succ_le_succ (Nat.zero_le _))
  refine wpS_bind (lt_list hD'.base h0 e2 e3 ?_)
  by_cases hless : kyN y < kyN q
  ·rw [decide_eq_true hless]
   simp only [if_true]
   rw [ek] at hless
   by_cases hneq : neq > 0
   ·rw [if_pos hneq]
    refine wpS_bind (wpS_reverse (wpS_pure ⟨0, _, _, _, rfl, hD'.less e1 hless (hD'.base.setArr (mirror_perm _ _ _ _)) ?_, rfl⟩))
    have := hD'.turn
    rw [hC] at this
    exact this
   ·rw [if_neg hneq]
    refine wpS_pure ⟨0, _, _, _, rfl, hD'.less e1 hless hD'.base ?_, rfl⟩
    rw [rev_one (by rw [hC]; lia)]; exact hD'.arr
  ·rw [decide_eq_false hless]
   simp only [Bool.false_eq_true, if_false]
   refine wpS_bind (lt_list hD'.base h0 e3 e2 ?_)
   by_cases hlarger : kyN q < kyN y
   ·rw [decide_eq_true hlarger]
    simp only [if_true]
    exact wpS_pure (h x neq st' B C k hD' hax (Nat.le_of_lt hxn) hC)
   ·rw [decide_eq_false hlarger]
    simp only [Bool.false_eq_true, if_false]
    exact wpS_pure ⟨neq + 1, B, C ++ [y], k, rfl, hD'.same e1 (by rw [← ek]; exact Int.le_antisymm (Int.not_lt.mp hlarger) (Int.not_lt.mp hless)), by rw [List.length_append, hC]; rfl⟩
theorem wpS_tl {st : SortSt} {n nrem : Nat} {B C : List Keyed} {Q : Option Nat → SortSt → Prop} (h0 : IntKeys a₀) (hn : nrem ≤ a₀.size) (h1 : 1 ≤ n) (hnn : n ≤ nrem) (hB : SBase a₀ st) (ha : (arrOf st).toList = B ++ (C.reverse ++ a₀.toList.drop n)) (hl : B.length + C.length = n) (hs : stab (a₀.toList.take n) = C ++ B.reverse)
  (h : ∀ m st', Inv a₀ m st' → 1 ≤ m → m ≤ nrem → Q (some m) st') : wpS (model prog w) A E s (tail3 n nrem) Q st := by
 unfold tail3
 have hm := mirror_list (xs := arrOf st) (A := []) (B := B ++ C.reverse) (C := a₀.toList.drop n) (i := 0) (j := n) (by rw [ha, List.append_assoc]; rfl) rfl (by rw [List.length_nil, Nat.zero_add, List.length_append, List.length_reverse, hl])
 refine wpS_bind (wpS_reverse (wpS_bind (wpS_asc h0 hn h1 hnn ⟨hB.setArr (mirror_perm _ _ _ _), ?_⟩ fun m hm1 hm2 hI _ => wpS_pure (h m _ hI (Nat.le_trans h1 hm1) hm2))))
 rw [hs]
 rw [List.reverse_append, List.reverse_reverse] at hm
 exact hm
theorem wpS_dp {st : SortSt} {n nrem : Nat} {B : List Keyed} {p : Keyed} {Q : Option Nat → SortSt → Prop} (h0 : IntKeys a₀) (hn : nrem ≤ a₀.size) (hnn : n + 1 ≤ nrem) (hD : Dwn a₀ (n + 1) B [p] (kyN p) st)
  (h : ∀ m st', Inv a₀ m st' → 1 ≤ m → m ≤ nrem → Q (some m) st') : wpS (model prog w) A E s (descPart n nrem) Q st := by
 unfold descPart
 refine wpS_bind (wpS_lift (wpAny_rule ⟨rfl, ?_⟩))
 refine wpS_bind (wpS_desc h0 hn hnn hD fun m neq st' B C c hD' hm1 hm2 hC => ?_)
 dsimp only
 have h1 : 1 ≤ m := Nat.le_trans (Nat.succ_le_succ (Nat.zero_le n)) hm1
 by_cases hneq : neq > 0
 ·rw [if_pos hneq]
  have ht := hD'.turn
  rw [hC] at ht
  exact wpS_bind (wpS_reverse (wpS_tl h0 hn h1 hm2 (hD'.base.setArr (mirror_perm _ _ _ _)) ht hD'.len hD'.st h))
 ·rw [if_neg hneq]
  exact wpS_tl h0 hn h1 hm2 hD'.base (by rw [rev_one (by rw [hC]; lia)]; exact hD'.arr) hD'.len hD'.st h
end
section
variable {prog : Program} {w : World} {A : Around} {E : Value → Shared → Prop} {s : Shared} {a₀ : Array Keyed}
theorem Inv.one {st : SortSt} (hB : SBase a₀ st) (ha : (arrOf st).toList = a₀.toList) (h1 : 1 ≤ a₀.size) : Inv a₀ 1 st := by
 refine ⟨hB, ?_⟩
 have hl : 0 < a₀.toList.length := by rw [Array.length_toList]; exact h1
 have e := take_snoc (List.getElem?_eq_getElem hl)
 rw [ha]
 have : stab (a₀.toList.take 1) = a₀.toList.take 1 := by
  have e2 : a₀.toList.take 1 = [a₀.toList[0]] := e
  rw [e2]; rfl
 rw [this, List.take_append_drop]
theorem wpS_count {st : SortSt} {nrem : Nat} {Q : Option Nat → SortSt → Prop} (h0 : IntKeys a₀) (hn : nrem ≤ a₀.size) (h1 : 1 ≤ nrem) (hB : SBase a₀ st) (ha : (arrOf st).toList = a₀.toList)
  (h : ∀ m st', Inv a₀ m st' → 1 ≤ m → m ≤ nrem → Q (some m) st') : wpS (model prog w) A E s (countRun' 0 nrem) Q st := by
 rw [countRun0_eq]
 refine wpS_bind (wpS_asc h0 hn (Nat.le_refl 1) h1 (Inv.one hB ha (Nat.le_trans h1 hn)) fun n hn1 hn2 hI hor => ?_)
 dsimp only
 by_cases hnn : n = nrem
 ·rw [if_pos (by rw [hnn]; exact beq_self_eq_true nrem)]
  exact wpS_pure (h n st hI hn1 hn2)
 ·rw [if_neg (fun q => hnn (eq_of_beq q))]
  obtain ⟨p, q, e1, e2, lt⟩ := hor.resolve_left hnn
  have hlt : n < nrem := Nat.lt_of_le_of_ne hn2 hnn
  obtain ⟨q', e3, _, hq⟩ := hI.last (Nat.le_trans hn2 hn) hn1
  cases Option.some.inj (e2.symm.trans e3)
  have hst : stab (a₀.toList.take n) = a₀.toList.take n := by
   have := hI.arr
   rw [ha] at this
   conv at this => lhs; rw [← List.take_append_drop n a₀.toList]
   exact (List.append_cancel_right this).symm
  rw [hst] at hq
  rw [ha] at e1 e2
  have hln : (a₀.toList.take n).length = n := by rw [List.length_take]; exact Nat.min_eq_left (by rw [Array.length_toList]; exact Nat.le_trans hn2 hn)
  have dwn : ∀ st', SBase a₀ st' → (arrOf st').toList = (a₀.toList.take n).reverse ++ a₀.toList.drop n → (∀ x ∈ a₀.toList.take n, kyN p < kyN x) → Dwn a₀ (n + 1) (a₀.toList.take n).reverse [p] (kyN p) st' := fun st' hB' ha' hgt => by
   refine ⟨hB', by rw [ha', drop_snoc e1]; rfl, by rw [List.length_reverse, hln]; rfl, fun x hx => by rw [List.mem_singleton.mp hx], fun x hx => hgt x (List.mem_reverse.mp hx), ?_⟩
   have := insP_mid (p := p) (A := []) (B := a₀.toList.take n) (fun x hx => absurd hx List.not_mem_nil) hgt
   rw [take_snoc e1, stab_snoc, hst, List.reverse_reverse]
   exact this
  by_cases hgt : n > 1
  ·rw [if_pos hgt]
   have h00 : 0 < a₀.toList.length := by rw [Array.length_toList]; exact Nat.lt_of_lt_of_le h1 hn
   have e0 := List.getElem?_eq_getElem h00
   refine wpS_bind (lt_list hB h0 (i := 0) (by rw [ha]; exact e0) e3 ?_)
   by_cases hrose : kyN a₀.toList[0] < kyN q
   ·rw [decide_eq_true hrose]
    simp only [if_true]
    exact wpS_pure (h n st hI hn1 hn2)
   ·rw [decide_eq_false hrose]
    simp only [Bool.false_eq_true, if_false]
    have hm := mirror_list (xs := arrOf st) (A := []) (B := a₀.toList.take n) (C := a₀.toList.drop n) (i := 0) (j := n) (by rw [ha]; exact (List.take_append_drop n a₀.toList).symm) rfl (by rw [hln]; exact (Nat.zero_add n).symm)
    refine wpS_bind (wpS_reverse (wpS_dp h0 hn hlt (dwn _ (hB.setArr (mirror_perm _ _ _ _)) hm fun x hx => ?_) h))
    have hs := stab_srt (a₀.toList.take n)
    rw [hst] at hs
    have e0' : (a₀.toList.take n)[0]? = some a₀.toList[0] := by rw [List.getElem?_take, if_pos (show 0 < n from hn1)]; exact e0
    exact Int.lt_of_lt_of_le lt (Int.le_trans (Int.not_lt.mp hrose) ((srt_take hs e0').2 x hx))
  ·rw [if_neg hgt]
   have hn1' : n = 1 := Nat.le_antisymm (Nat.le_of_not_lt hgt) hn1
   refine wpS_dp h0 hn hlt (dwn st hB (by rw [rev_one (hln.trans hn1'), List.take_append_drop]; exact ha) fun x hx => ?_) h
   subst hn1'
   have hx' : x ∈ [q] := by
    have : a₀.toList.take 1 = [q] := take_snoc e2
    rw [← this]; exact hx
   rw [List.mem_singleton.mp hx']; exact lt
theorem wpS_runs {st : SortSt} {Q : Unit → SortSt → Prop} (h0 : IntKeys a₀) (hB : SBase a₀ st) (ha : (arrOf st).toList = a₀.toList) (h2 : 2 ≤ a₀.size) (h64 : a₀.size < 64)
  (h : ∀ st', (arrOf st').toList = stab a₀.toList → failedOf st' = none → Q () st') : wpS (model prog w) A E s sortRuns' Q st := by
 rw [sortRuns'_eq]
 refine wpS_bind (wpS_get ?_)
 dsimp only
 have hmr : minRun' a₀.size a₀.size 0 = a₀.size := by
  obtain ⟨f, hf⟩ : ∃ f, a₀.size = f + 1 := ⟨a₀.size - 1, (Nat.sub_add_cancel (Nat.le_of_succ_le h2)).symm⟩
  have : minRun' (f + 1) a₀.size 0 = a₀.size := by rw [minRun'_succ, if_pos h64]; rfl
  rwa [← hf] at this
 have fin : ∀ st', Inv a₀ a₀.size st' → (arrOf st').toList = stab a₀.toList := fun st' hI => by
  rw [hI.arr, ← Array.length_toList, List.take_length, List.drop_length, List.append_nil]
 simp only [hB.size, hmr]
 refine wpS_bind (wpS_mono (wpS_forRange
  (I := fun x c st' => (x = 0 ∧ c = (none, 0) ∧ st' = st) ∨ (1 ≤ x ∧ c = (none, a₀.size) ∧ (arrOf st').toList = stab a₀.toList ∧ failedOf st' = none ∧ pendingOf st' = #[(0, a₀.size, 0)]))
  (Q := fun c st' => c = (none, a₀.size) ∧ (arrOf st').toList = stab a₀.toList ∧ failedOf st' = none ∧ pendingOf st' = #[(0, a₀.size, 0)]) ?step ?fin (.inl ⟨rfl, rfl, rfl⟩)) ?post)
 case fin =>
  rintro c st' (⟨hx, _, _⟩ | ⟨_, hD⟩)
  ·lia
  ·exact hD
 case step =>
  rintro x c st' _ hx (⟨rfl, rfl, rfl⟩ | ⟨hx1, rfl, hD⟩)
  ·dsimp only
   rw [if_neg (by lia)]
   simp only [Nat.sub_zero, Nat.min_self, Nat.zero_add]
   refine wpS_bind (wpS_count h0 (Nat.le_refl _) (Nat.le_of_succ_le h2) hB ha fun m st2 hI hm1 hm2 => ?_)
   dsimp only
   by_cases hlt : m < a₀.size
   ·rw [if_pos hlt]
    refine wpS_bind (wpS_lift (wpAny_rule ⟨rfl, ?_⟩))
    refine wpS_bind (wpS_binary h0 (Nat.le_refl _) hm1 hm2 hI fun st3 hI3 => ?_)
    simp only [Bool.not_true, Bool.false_eq_true, if_false]
    refine wpS_bind (wpS_get ?_)
    have hb : (pendingOf st3).back? = none := by rw [hI3.base.pend]; rfl
    rw [hb]
    dsimp only
    exact wpS_bind (wpS_modify (wpS_pure (.inr ⟨Nat.le_refl 1, rfl, fin st3 hI3, hI3.base.failed, by show (pendingOf st3).push _ = _; rw [hI3.base.pend]; rfl⟩)))
   ·rw [if_neg hlt]
    have hm : m = a₀.size := Nat.le_antisymm hm2 (Nat.le_of_not_lt hlt)
    subst hm
    refine wpS_bind (wpS_get ?_)
    have hb : (pendingOf st2).back? = none := by rw [hI.base.pend]; rfl
    rw [hb]
    dsimp only
    exact wpS_bind (wpS_modify (wpS_pure (.inr ⟨Nat.le_refl 1, rfl, fin st2 hI, hI.base.failed, by show (pendingOf st2).push _ = _; rw [hI.base.pend]; rfl⟩)))
  ·dsimp only
   rw [if_pos (Nat.le_refl _)]
   exact wpS_pure ⟨rfl, hD⟩
 case post =>
  rintro c st' ⟨rfl, hD⟩
  dsimp only
  refine wpS_bind (wpS_mono (wpS_forRange (I := fun _ c st'' => st'' = st' ∧ c = (none, ())) (Q := fun c st'' => st'' = st' ∧ c = (none, ())) ?_ (fun _ _ hh => hh) ⟨rfl, rfl⟩) ?_)
  ·rintro x c st'' _ _ ⟨rfl, rfl⟩
   refine wpS_bind (wpS_get ?_)
   rw [if_pos (by rw [hD.2.2]; exact Nat.le_refl 1)]
   exact wpS_pure ⟨rfl, rfl⟩
  ·rintro c st'' ⟨rfl, rfl⟩
   exact wpS_pure (h _ hD.1 hD.2.1)
end
section
variable {C : Cx} {s : Shared} {A : Around} {E : Value → Shared → Prop} {D K : Addr} {e e1 : Nat} {keys : Array Value} {ws : List Value} {kz : List Int} {P : PySem.Fin → Shared → Prop}
structure Srtd (h h' : Heap) (D K : Addr) (out : Array Value) : Prop where
 keep : ∀ b o, b ≠ D → b ≠ K → h.get? b = some o → h'.get? b = some o
 list : ∃ c, h'.get? D = some (seqObj "list" out c)
 key : ∃ o, h'.get? K = some o
theorem sk_tail {stt : SortSt} (hK : s.heap.get? K = some (seqObj "list" keys e)) (hD : s.heap.get? D = some (seqObj "list" #[] e1)) (hne : K ≠ D) (hf : failedOf stt = none) (h1 : keys.size ≤ 64) (h2 : (arrOf stt).size ≤ 64)
  (h : ∀ h' tk, Srtd s.heap h' D K ((arrOf stt).map (·.2)) → P (.done (.ret .none)) { s with heap := h', toks := tk }) : wpAny (Mdl C) A (ksk_tail D false e1 (.ref K) stt) P E s := by
 have s1 := Heap.SameBut.update s.heap K (Obj.mapSeq fun _ => (#[] : Array Value))
 have nD : (s.heap.update K (Obj.mapSeq fun _ => (#[] : Array Value))).get? D = some (seqObj "list" #[] e1) := (s1.2 D hne.symm).trans hD
 have nK := get?_update_seq hK fun _ => (#[] : Array Value)
 have s2 := Heap.SameBut.update (s.heap.update K (Obj.mapSeq fun _ => (#[] : Array Value))) D (Obj.mapSeq fun _ => (arrOf stt).map (·.2))
 have nD2 := get?_update_seq nD fun _ => (arrOf stt).map (·.2)
 have big : 64 ≤ sizeLine := by rw [sizeLine_eq]; decide
 have hout : ((arrOf stt).map (·.2)).size ≤ 64 := by rw [Array.size_map]; exact h2
 unfold ksk_tail
 try dsimp only
 refine wpAny_bind (listUpdate_at hK rfl ?_ (Nat.le_trans h1 big) (Nat.zero_le _))
 refine wpAny_bind (wpAny_letGo ?_)
 refine wpAny_bind (seqEpoch_at nD rfl ?_)
 refine wpAny_bind (listUpdate_at nD rfl ?_ (Nat.zero_le _) (Nat.le_trans hout (Nat.le_succ_of_le big)))
 rw [hf]
 simp only [bne_self_eq_false, Bool.false_eq_true, if_false]
 exact wpAny_pure (h _ _ ⟨fun b o q1 q2 x => (s2.2 b q1).trans ((s1.2 b q2).trans x), ⟨_, nD2⟩, ⟨_, (s2.2 K hne).trans nK⟩⟩)
theorem stab_short {l : List Keyed} (h : l.length < 2) : l = stab l := by
 cases l with
 | nil => rfl
 | cons x l =>
  cases l with
  | nil => rfl
  | cons y l => exact absurd h (Nat.not_lt.mpr (Nat.succ_le_succ (Nat.succ_le_succ (Nat.zero_le _))))
theorem sk_end (hK : s.heap.get? K = some (seqObj "list" keys e)) (hD : s.heap.get? D = some (seqObj "list" #[] e1)) (hne : K ≠ D) (hk : IntsAre keys.toList kz) (hlen : keys.size = ws.length) (h64 : ws.length < 64)
  (h : ∀ h' tk out, Srtd s.heap h' D K out → out.toList = (stab (keys.toList.zip ws)).map (·.2) → P (.done (.ret .none)) { s with heap := h', toks := tk }) : wpAny (Mdl C) A (ksk_end D false ws.toArray e1 (.ref K) keys) P E s := by
 have hzl := ksk_zip keys ws
 have hzs : (keys.zip ws.toArray).size = ws.length := by rw [Array.size_zip, hlen, List.size_toArray, Nat.min_self]
 have l64 : keys.size ≤ 64 := by rw [hlen]; exact Nat.le_of_lt h64
 have fin : ∀ stt : SortSt, (arrOf stt).toList = stab (keys.toList.zip ws) → failedOf stt = none → wpAny (Mdl C) A (ksk_tail D false e1 (.ref K) stt) P E s := fun stt ha hf => by
  have hsz : (arrOf stt).size = ws.length := by
   rw [← Array.length_toList, ha, stab_len, ← hzl, Array.length_toList, hzs]
  refine sk_tail hK hD hne hf l64 (by rw [hsz]; exact Nat.le_of_lt h64) fun h' tk hS => h h' tk _ hS ?_
  rw [Array.toList_map, ha]
 unfold ksk_end
 try dsimp only
 simp only [Bool.false_eq_true, if_false]
 by_cases h2 : ws.toArray.size < 2
 ·rw [if_pos h2, if_pos h2]
  refine wpAny_bind (wpAny_pure ?_)
  rw [StateT.run_pure]
  refine wpAny_bind (wpAny_pure ?_)
  try dsimp only
  refine fin (SortSt.mk' general' (keys.zip ws.toArray) #[] 7 none) ?_ rfl
  show (keys.zip ws.toArray).toList = _
  rw [hzl]
  have hl : (keys.toList.zip ws).length < 2 := by rw [← hzl, Array.length_toList, hzs]; rwa [List.size_toArray] at h2
  exact stab_short hl
 ·rw [if_neg h2, if_neg h2]
  rw [List.size_toArray] at h2
  rw [ksk_kind hk (by rw [hlen]; exact Nat.le_of_not_lt h2)]
  refine wpAny_bind (wpAny_pure ?_)
  refine wpAny_bind (wpAny_mono (wpS_runs (a₀ := keys.zip ws.toArray) (st := SortSt.mk' oneType' (keys.zip ws.toArray) #[] 7 none) (Q := fun _ st' => (arrOf st').toList = stab (keys.zip ws.toArray).toList ∧ failedOf st' = none)
   (ksk_intKeys hk) ⟨Array.Perm.refl _, rfl, rfl, rfl⟩ rfl (by rw [hzs]; exact Nat.le_of_not_lt h2) (by rw [hzs]; exact h64) fun st' a b => ⟨a, b⟩) ?_ fun _ _ e => e)
  rintro ⟨⟨⟩, st'⟩ s' ⟨rfl, ha, hf⟩
  try dsimp only
  rw [hzl] at ha
  exact fin st' ha hf
end
noncomputable def Two (D K : Addr) : Addr → Prop := fun b => b = D ∨ b = K
theorem keysOf_cons {r : Rec} {f : Str} {v : V} {vs : List V} {ks : List (Int × V)} {σ σ' : Sto} (h : keysOf r f (v :: vs) σ = some (ks, σ')) : ∃ i σ₁ ks', r.call f [v] [] σ = some (.int i, σ₁) ∧ keysOf r f vs σ₁ = some (ks', σ') ∧ ks = (i, v) :: ks' := by
 refine M.bindE h fun k σ₁ h1 h => M.bindE h fun ks' σ₂ h2 h => ?_
 cases k with
 | int i =>
  obtain ⟨rfl, rfl⟩ := M.pure_iff.mp h
  exact ⟨i, σ₁, ks', h1, h2, rfl⟩
 | _ => exact M.failE h
theorem keysOf_nil {r : Rec} {f : Str} {ks : List (Int × V)} {σ σ' : Sto} (h : keysOf r f [] σ = some (ks, σ')) : ks = [] ∧ σ = σ' := by
 obtain ⟨rfl, rfl⟩ := M.pure_iff.mp h
 exact ⟨rfl, rfl⟩
section
variable {C : Cx} {r : Rec} {n : Nat} {A : Around} {E : Value → Shared → Prop} {D K ad : Addr} {e1 : Nat} {f : Str} {σ' : Sto}
structure Kst (C : Cx) (D K : Addr) (e1 : Nat) (ρ : List Addr) (σ : Sto) (s : Shared) (kA : Array Value) : Prop where
 st : St ((C.hide D).hide K) ρ σ s
 nD : D ∉ ρ
 nK : K ∉ ρ
 D : s.heap.get? D = some (seqObj "list" #[] e1)
 K : ∃ e, s.heap.get? K = some (seqObj "list" kA e)
theorem sk_loop (S : Snd ((C.hide D).hide K) r n) (hA : Room n A) (hmg : C.mg f = some (.ref ad)) (hne : K ≠ D) (h0K : C.h₀.get? K = none) {body : Value → PUnit → Sem (ForInStep PUnit)}
  (hb : ∀ (x : Value) (Q' : ForInStep PUnit → Shared → Prop) (s : Shared), wpAny (Mdl C) A (call (.ref ad) [x]) (fun k s1 => wpAny (Mdl C) A (Builtin.List.listUpdate (.ref K) (·.push k)) (fun _ s2 => Q' (.yield ⟨⟩) s2) E s1) NoE s → wpAny (Mdl C) A (body x ⟨⟩) Q' E s) :
  ∀ (xs : List V) (ws : List Value) (ks : List (Int × V)) (ρ : List Addr) (σ : Sto) (s : Shared) (kA : Array Value) {Q : PUnit → Shared → Prop}, keysOf r f xs σ = some (ks, σ') → kA.size + ws.length ≤ 64 → Rs ((C.hide D).hide K) ρ s.heap xs ws → Kst C D K e1 ρ σ s kA →
   (∀ s' ρ' kA', Tr (Two D K) ρ ρ' s.heap s'.heap → Kst C D K e1 ρ' σ' s' kA' → (∃ ts, kA'.toList = kA.toList ++ ts ∧ IntsAre ts (ks.map (·.1))) → Q ⟨⟩ s') → wpAny (Mdl C) A (forIn ws PUnit.unit body) Q E s
 | [], ws, ks, ρ, σ, s, kA, Q, h, hl, q, k0, done => by
  obtain ⟨rfl, rfl⟩ := keysOf_nil h
  cases (show ws = [] from q)
  rw [List.forIn_nil]
  exact wpAny_pure (done s ρ kA (Tr.refl _ _ _) k0 ⟨[], (List.append_nil _).symm, .nil⟩)
 | x :: xs, ws, ks, ρ, σ, s, kA, Q, h, hl, q, k0, done => by
  obtain ⟨i, σ₁, ks', h1, h2, rfl⟩ := keysOf_cons h
  obtain ⟨w, ws', rfl, rx, rxs⟩ := q
  rw [List.forIn_cons]
  refine wpAny_bind (hb w _ s (wpAny_mono (S.call h1 hA k0.st hmg (show Ex2 fun _ _ => _ from ⟨w, [], rfl, rx, rfl⟩) (show _ = [] from rfl)) (fun u s₁ o => ?_) fun _ _ x => x))
  obtain ⟨ρ₁, t₁, st₁, t, rfl⟩ := o
  obtain ⟨e, hK⟩ := k0.K
  have hK1 := t₁.keep K _ (fun q => q) k0.nK hK
  have hD1 := t₁.keep D _ (fun q => q) k0.nD k0.D
  have nD1 : D ∉ ρ₁ := notIn_grow t₁.grow k0.nD k0.D
  have nK1 : K ∉ ρ₁ := notIn_grow t₁.grow k0.nK hK
  have sb := Heap.SameBut.update s₁.heap K (Obj.mapSeq (·.push (Value.int i t)))
  have hK2 := get?_update_seq hK1 (·.push (Value.int i t))
  have big : 64 ≤ sizeLine := by rw [sizeLine_eq]; decide
  have hl1 : kA.size + (ws'.length + 1) ≤ 64 := hl
  refine listUpdate_at hK1 rfl ?_ (by lia) (Nat.le_trans (Nat.le_of_eq (Array.size_push ..)) (by lia))
  have hsb : ∀ b o, b ≠ K → s₁.heap.get? b = some o → (s₁.heap.update K (Obj.mapSeq (·.push (Value.int i t)))).get? b = some o := fun b o hb x => (sb.2 b hb).trans x
  have hidK : ((C.hide D).hide K).hid K := .inr rfl
  have g : Grow ((C.hide D).hide K) ρ₁ ρ₁ s₁.heap (s₁.heap.update K (Obj.mapSeq (·.push (Value.int i t)))) := Grow.sameBut hsb fun _ q _ => (q hidK).elim
  have t₂ : Tr (Two D K) ρ₁ ρ₁ s₁.heap (s₁.heap.update K (Obj.mapSeq (·.push (Value.int i t)))) := ⟨⟨[], (List.append_nil _).symm, fun _ h => absurd h List.not_mem_nil⟩, fun b o hb _ x => hsb b o (fun q => hb (.inr q)) x⟩
  have t12 : Tr (Two D K) ρ ρ₁ s.heap (s₁.heap.update K (Obj.mapSeq (·.push (Value.int i t)))) := (t₁.weak fun _ q => q.elim).trans t₂ (fun b q => q.elim (fun q => by rw [q]; exact ⟨_, hD1⟩) fun q => by rw [q]; exact ⟨_, hK1⟩) (st₁.aliveOf t₁)
  refine sk_loop S hA hmg hne h0K hb xs ws' ks' ρ₁ σ₁ { s₁ with heap := s₁.heap.update K (Obj.mapSeq (·.push (Value.int i t))) } (kA.push (.int i t)) h2 (by rw [Array.size_push]; lia) ((rxs.mono t₁.toGrow0).mono g)
   ⟨⟨st₁.rel.sameBut hsb nK1 (fun _ q _ => (q hidK).elim) h0K fun _ => ⟨_, hK2⟩, st₁.gens, st₁.os⟩, nD1, nK1, hsb D _ hne.symm hD1, ⟨_, hK2⟩⟩ fun s' ρ' kA' t₃ k3 hts => ?_
  obtain ⟨ts, e1, e2⟩ := hts
  refine done s' ρ' kA' (t12.trans t₃ (fun b q => q.elim (fun q => by rw [q]; exact ⟨_, hsb D _ hne.symm hD1⟩) fun q => by rw [q]; exact ⟨_, hK2⟩) fun b hb => ?_) k3 ⟨.int i t :: ts, by rw [e1, Array.toList_push, List.append_assoc]; rfl, .cons _ _ e2⟩
  obtain ⟨o, ho⟩ := st₁.aliveOf t₁ b hb
  exact ⟨o, hsb b o (fun q => k0.nK (q ▸ hb)) ho⟩
end
section
variable {C : Cx} {r : Rec} {n : Nat} {A : Around} {E : Value → Shared → Prop} {ρ : List Addr} {h h' : Heap} {D K : Addr} {σ σ' : Sto}
noncomputable def RK (C : Cx) (ρ : List Addr) (h : Heap) : List (Int × V) → List Keyed → Prop
 | [], ks => ks = []
 | p :: l, ks => Ex2 fun k ks' => ks = k :: ks' ∧ kyN k = p.1 ∧ R C ρ h p.2 k.2 ∧ RK C ρ h l ks'
theorem RK.vals : ∀ {l : List (Int × V)} {ks : List Keyed}, RK C ρ h l ks → Rs C ρ h (l.map (·.2)) (ks.map (·.2))
 | [], ks, q => by cases (show ks = [] from q); exact (show _ = [] from rfl)
 | p :: l, ks, q => by
  obtain ⟨k, ks', rfl, _, q1, q2⟩ := q
  exact (show Ex2 fun _ _ => _ from ⟨_, _, rfl, q1, q2.vals⟩)
theorem RK.ins {p : Int × V} {k : Keyed} (hk : kyN k = p.1) (hr : R C ρ h p.2 k.2) : ∀ {l : List (Int × V)} {ks : List Keyed}, RK C ρ h l ks → RK C ρ h (insKey p.1 p.2 l) (insP k ks)
 | [], ks, q => by cases (show ks = [] from q); exact (show Ex2 fun _ _ => _ from ⟨k, [], rfl, hk, hr, rfl⟩)
 | (k', v') :: l, ks, q => by
  obtain ⟨x, ks', rfl, q0, q1, q2⟩ := q
  rw [insKey, insP, hk, q0]
  by_cases lt : p.1 < k'
  ·rw [if_pos lt, if_pos lt]
   exact (show Ex2 fun _ _ => _ from ⟨k, x :: ks', rfl, hk, hr, show Ex2 fun _ _ => _ from ⟨x, ks', rfl, q0, q1, q2⟩⟩)
  ·rw [if_neg lt, if_neg lt]
   exact (show Ex2 fun _ _ => _ from ⟨x, _, rfl, q0, q1, q2.ins hk hr⟩)
theorem RK.fold : ∀ {l a : List (Int × V)} {ks b : List Keyed}, RK C ρ h l ks → RK C ρ h a b → RK C ρ h (l.foldl (fun acc p => insKey p.1 p.2 acc) a) (ks.foldl (fun acc p => insP p acc) b)
 | [], a, ks, b, q, qa => by cases (show ks = [] from q); exact qa
 | p :: l, a, ks, b, q, qa => by
  obtain ⟨k, ks', rfl, q0, q1, q2⟩ := q
  exact q2.fold (qa.ins q0 q1)
theorem RK.sort {l : List (Int × V)} {ks : List Keyed} (q : RK C ρ h l ks) : RK C ρ h (sortKeys l) (stab ks) := q.fold (show _ = [] from rfl)
theorem RK.zip : ∀ {l : List (Int × V)} {ts ws : List Value}, IntsAre ts (l.map (·.1)) → Rs C ρ h (l.map (·.2)) ws → RK C ρ h l (ts.zip ws)
 | [], ts, ws, q, w => by
  cases (show ws = [] from w)
  exact (show _ = [] from List.zip_nil_right)
 | p :: l, ts, ws, q, w => by
  obtain ⟨u, ws', rfl, w1, w2⟩ := w
  cases q with
  | cons i t q => exact (show Ex2 fun _ _ => _ from ⟨(.int p.1 t, u), _, rfl, rfl, w1, RK.zip q w2⟩)
theorem keysOf_vals {f : Str} : ∀ {xs : List V} {ks : List (Int × V)} {σ : Sto}, keysOf r f xs σ = some (ks, σ') → ks.map (·.2) = xs
 | [], ks, σ, q => by obtain ⟨rfl, _⟩ := keysOf_nil q; rfl
 | x :: xs, ks, σ, q => by
  obtain ⟨i, σ₁, ks', _, q2, rfl⟩ := keysOf_cons q
  rw [List.map_cons, keysOf_vals q2]
theorem Rel.two (q : Rel C ρ σ h) (hk : ∀ b o, b ≠ D → b ≠ K → h.get? b = some o → h'.get? b = some o) (nD : D ∉ ρ) (nK : K ∉ ρ) (iD : C.hid D) (iK : C.hid K) (zD : C.h₀.get? D = none) (zK : C.h₀.get? K = none) (aD : ∃ o, h'.get? D = some o) (aK : ∃ o, h'.get? K = some o) : Rel C ρ σ h' ∧ Grow C ρ ρ h h' := by
 have g : Grow C ρ ρ h h' := ⟨⟨[], (List.append_nil _).symm, fun _ h => absurd h List.not_mem_nil⟩, fun b o hb _ x => hk b o (fun e => hb.2 (e ▸ iD)) (fun e => hb.2 (e ▸ iK)) x⟩
 refine ⟨⟨q.len, q.nodup, q.new, fun i a xs ha hx => ?_, fun b o x => hk b o (fun e => by rw [e, zD] at x; cases x) (fun e => by rw [e, zK] at x; cases x) (q.base b o x), fun b hb => ?_⟩, g⟩
 ·obtain ⟨vs, ⟨m, ho⟩, hr⟩ := q.at_ i a xs ha hx
  exact ⟨vs, ⟨m, hk a _ (fun e => nD (e ▸ List.mem_of_getElem? ha)) (fun e => nK (e ▸ List.mem_of_getElem? ha)) ho⟩, hr.mono g⟩
 ·by_cases e : b = D
  ·rw [e]; exact aD
  ·by_cases e' : b = K
   ·rw [e']; exact aK
   ·obtain ⟨o, ho⟩ := q.hid b hb
    exact ⟨o, hk b o e e' ho⟩
end
section
variable {C : Cx} {r : Rec} {n : Nat} {A : Around} {E : Value → Shared → Prop} {ρ : List Addr} {s : Shared} {σ σ' : Sto} {f : Str} {ad l : Addr} {xs : List V} {ws : List Value} {ks : List (Int × V)}
theorem sk_tree (SH : ∀ H, Snd { C with hid := H } r n) (hA : Room n A) (hmg : C.mg f = some (.ref ad)) (hk : keysOf r f xs σ = some (ks, σ')) (h64 : ws.length < 64) {h2 : Heap} {D : Addr} {m : Nat} (st : St C ρ σ s) (q : Rs C ρ s.heap xs ws)
  (hD0 : s.heap.get? D = none) (hkp : ∀ b o, s.heap.get? b = some o → h2.get? b = some o) (hD : h2.get? D = some (seqObj "list" ws.toArray m)) {P : PySem.Fin → Shared → Prop} {tk : Nat}
  (h : ∀ s', Out C Nox ρ s.heap σ' (fun ρ' h' => R C ρ' h' (.list ((sortKeys ks).map (·.2))) (.ref D)) s' → P (.done (.ret .none)) s') : wpAny (Mdl C) A (ksk_tree D (.ref ad) false) P E { s with heap := h2, toks := tk } := by
 have big : 64 ≤ sizeLine := by rw [sizeLine_eq]; decide
 have l64 : ws.length ≤ sizeLine := Nat.le_trans (Nat.le_of_lt h64) big
 have s1 := Heap.SameBut.update h2 D (Obj.mapSeq fun _ => (#[] : Array Value))
 obtain ⟨e1, ho1⟩ : ∃ e1, (h2.update D (Obj.mapSeq fun _ => (#[] : Array Value))).get? D = some (seqObj "list" #[] e1) := ⟨_, get?_update_seq hD fun _ => #[]⟩
 unfold ksk_tree
 refine wpAny_bind (listItems_at hD rfl ?_)
 refine wpAny_bind (listUpdate_at hD rfl ?_ (by rw [List.size_toArray]; exact l64) (Nat.zero_le _))
 refine wpAny_bind (seqEpoch_at ho1 rfl ?_)
 refine wpAny_bind (wpAny_newTuple ?_ l64)
 refine wpAny_bind (wpAny_newList ?_ (Nat.zero_le _))
 refine wpAny_holding ?_
 -- the heaps
 have hne0 : ∀ b o, s.heap.get? b = some o → b ≠ D := fun b o x e => by rw [e, hD0] at x; cases x
 have k3 : ∀ b o, s.heap.get? b = some o → (h2.update D (Obj.mapSeq fun _ => (#[] : Array Value))).get? b = some o := fun b o x => (s1.2 b (hne0 b o x)).trans (hkp b o x)
 generalize h2.update D (Obj.mapSeq fun _ => (#[] : Array Value)) = h3 at ho1 k3
 show wpAny _ _ _ _ _ { s with heap := (h3.push (seqObj "tuple" ws.toArray 0)).push (seqObj "list" #[] 0), toks := tk }
 have k4 : ∀ b o, h3.get? b = some o → (h3.push (seqObj "tuple" ws.toArray 0)).get? b = some o := push_keeps _ _
 generalize h3.push (seqObj "tuple" ws.toArray 0) = h4 at k4
 have k5 : ∀ b o, h4.get? b = some o → (h4.push (seqObj "list" #[] 0)).get? b = some o := push_keeps _ _
 have hK4 : h4.get? h4.objs.size = none := Heap.get?_size h4
 have hK5 : (h4.push (seqObj "list" #[] 0)).get? h4.objs.size = some (seqObj "list" #[] 0) := Heap.get?_push_size _ rfl
 revert hK4 hK5 k5
 generalize h4.push (seqObj "list" #[] 0) = h5
 generalize h4.objs.size = K
 intro k5 hK4 hK5
 have k34 : ∀ b o, s.heap.get? b = some o → h4.get? b = some o := fun b o x => k4 b o (k3 b o x)
 have kA : ∀ b o, s.heap.get? b = some o → h5.get? b = some o := fun b o x => k5 b o (k34 b o x)
 have hKs : s.heap.get? K = none := by
  cases e : s.heap.get? K with
  | none => rfl
  | some o => rw [k34 K o e] at hK4; cases hK4
 have hne : K ≠ D := fun e => by rw [e, k4 D _ ho1] at hK4; cases hK4
 have nD : D ∉ ρ := fun hm => by obtain ⟨o, ho⟩ := st.rel.alive hm; rw [hD0] at ho; cases ho
 have nK : K ∉ ρ := fun hm => by obtain ⟨o, ho⟩ := st.rel.alive hm; rw [hKs] at ho; cases ho
 have zD : C.h₀.get? D = none := by
  cases e : C.h₀.get? D with
  | none => rfl
  | some o => have := st.rel.base D o e; rw [hD0] at this; cases this
 have zK : C.h₀.get? K = none := by
  cases e : C.h₀.get? K with
  | none => rfl
  | some o => have := st.rel.base K o e; rw [hKs] at this; cases this
 have rel2 : Rel ((C.hide D).hide K) ρ σ h5 := (st.rel.hide hD0 k34 ⟨_, k4 D _ ho1⟩).hide hK4 k5 ⟨_, hK5⟩
 have q2 : Rs ((C.hide D).hide K) ρ h5 xs ws := ((q.hide hD0).hide hKs).mono (Tr.toGrow0 (Tr.ofKeeps kA))
 have hD5 : h5.get? D = some (seqObj "list" #[] e1) := k5 D _ (k4 D _ ho1)
 unfold ksk_rest
 refine wpAny_bind (wpAny_rule ?_)
 rw [List.forIn_toArray]
 refine wpAny_bind (sk_loop (C := C) (D := D) (K := K) (SH _) hA hmg hne zK (fun x Q' s' hx => ?_) xs ws ks ρ σ { s with heap := h5, toks := tk } #[] hk (by show 0 + ws.length ≤ 64; rw [Nat.zero_add]; exact Nat.le_of_lt h64) q2 ⟨⟨rel2, st.gens, st.os⟩, nD, nK, hD5, ⟨_, hK5⟩⟩ fun s' ρ' kA' tr kst hts => ?_)
 ·refine wpAny_bind (wpAny_attempt (wpAny_mono hx (fun k s'' hq => ?_) fun _ _ z => z.elim))
  try dsimp only
  exact wpAny_bind (wpAny_mono hq (fun _ _ z => wpAny_pure z) fun _ _ z => z)
 ·obtain ⟨ts, e2, hi⟩ := hts
  have e2 : kA'.toList = ts := e2
  obtain ⟨e, hK'⟩ := kst.K
  have vals := keysOf_vals hk
  have hlen : ts.length = ws.length := by
   have h1 := hi.length
   have h2 := q.length
   rw [List.length_map] at h1
   rw [← vals, List.length_map] at h2
   lia
  try dsimp only
  refine wpAny_bind (listItems_at hK' rfl ?_)
  refine sk_end (ws := ws) (kz := ks.map (·.1)) hK' kst.D hne (by rw [e2]; exact hi) (by rw [← Array.length_toList, e2]; exact hlen) h64 fun h' tk' out hS hout => h _ ?_
  obtain ⟨rel', g'⟩ := kst.st.rel.two hS.keep kst.nD kst.nK (.inl (.inr rfl)) (.inr rfl) zD zK (let ⟨c, x⟩ := hS.list; ⟨_, x⟩) hS.key
  have q3 : Rs ((C.hide D).hide K) ρ' s'.heap xs ws := q2.mono (tr.toGrow fun b o hb hn _ => (hn (show (C.hid b ∨ b = D) ∨ b = K from hb.elim (fun x => .inl (.inr x)) fun x => .inr x)).elim)
  have q4 : Rs C ρ' h' xs ws := (Rs.unhide (Rs.unhide (q3.mono g')).1).1
  have rk : RK C ρ' h' ks (kA'.toList.zip ws) := by rw [e2]; exact RK.zip hi (by rw [vals]; exact q4)
  have rv := rk.sort.vals
  rw [← hout] at rv
  refine ⟨ρ', ⟨?_, fun b o _ hb x => ?_⟩, ⟨rel'.unhide.unhide, kst.st.gens, kst.st.os⟩, ?_⟩
  ·obtain ⟨new, e3, hn⟩ := tr.grow
   refine ⟨new, e3, fun a ha => ?_⟩
   cases e4 : s.heap.get? a with
   | none => rfl
   | some o => have := hn a ha; rw [kA a o e4] at this; cases this
  ·have bD : b ≠ D := hne0 b o x
   have bK : b ≠ K := fun e => by rw [e, hKs] at x; cases x
   exact hS.keep b o bD bK (tr.keep b o (fun z => z.elim bD bK) hb (kA b o x))
  ·obtain ⟨c, hc⟩ := hS.list
   exact (show Ex2 fun _ _ => _ from ⟨D, out.toList, rfl, ⟨c, hc⟩, ⟨kst.nD, fun hh => by obtain ⟨o, ho⟩ := st.rel.hid D hh; rw [hD0] at ho; cases ho⟩, rv⟩)
theorem sorted_key (SH : ∀ H, Snd { C with hid := H } r n) (hA : Room n A.in1.in1) (hmg : C.mg f = some (.ref ad)) (hk : keysOf r f xs σ = some (ks, σ')) (h64 : ws.length < 64) (st : St C ρ σ s) (p : PL s.heap l ws) (q : Rs C ρ s.heap xs ws) :
  wpAny (Mdl C) A (call (.builtin "sorted") [.ref l] [("key", .ref ad)]) (fun u s' => Out C Nox ρ s.heap σ' (fun ρ' h' => R C ρ' h' (.list ((sortKeys ks).map (·.2))) u) s') E s := by
 have big : 64 ≤ sizeLine := by rw [sizeLine_eq]; decide
 have l64 : ws.length ≤ sizeLine := Nat.le_trans (Nat.le_of_lt h64) big
 refine call_function_entry_kw kind_sorted plain_sorted entry_sorted (ksk_s1 _ _) ?_
 unfold Builtin.«sorted»
 refine wpAny_bind (m := checkCount "sorted" 1 1 _) (wpAny_pure ?_)
 refine wpAny_bind (collect_list p.isList ?_ l64)
 refine wpAny_bind (wpAny_newList ?_ l64)
 have hsz : ((s.heap.push (seqObj "list" #[] 0)).update s.heap.objs.size (Obj.mapSeq (· ++ ws.toArray))).objs.size = s.heap.objs.size + 1 := by
  rw [Heap.size_update, size_push']
 have hoL : (((s.heap.push (seqObj "list" #[] 0)).update s.heap.objs.size (Obj.mapSeq (· ++ ws.toArray))).push (seqObj "list" ws.toArray 0)).get? (s.heap.objs.size + 1) = some (seqObj "list" ws.toArray 0) := by
  rw [← hsz]; exact Heap.get?_push_size _ rfl
 have keep : ∀ b o, s.heap.get? b = some o → (((s.heap.push (seqObj "list" #[] 0)).update s.heap.objs.size (Obj.mapSeq (· ++ ws.toArray))).push (seqObj "list" ws.toArray 0)).get? b = some o := fun b o x => by
  have hlt : b < s.heap.objs.size := Heap.lt_size x
  rw [Heap.get?_push_ne _ _ _ (by rw [hsz]; exact Nat.ne_of_lt (Nat.lt_succ_of_lt hlt)), Heap.get?_update_ne _ _ _ _ (Nat.ne_of_lt hlt), Heap.get?_push_ne _ _ _ (Nat.ne_of_lt hlt)]
  exact x
 show wpAny _ _ _ _ _ { s with heap := ((s.heap.push (seqObj "list" #[] 0)).update s.heap.objs.size (Obj.mapSeq (· ++ ws.toArray))).push (seqObj "list" ws.toArray 0) }
 rw [hsz]
 refine wpAny_bind (wpAny_holding (wpAny_call_entry_kw slot_list_sort ⟨_, hoL, rfl⟩ entry_list_sort ?body (ksk_l1 _ _)))
 show wpAny (Mdl C) A.in1.in1 (Builtin.«list.sort» ⟨[.ref (s.heap.objs.size + 1)], [("key", .ref ad)]⟩) _ _ _
 rw [ksk_t1]
 refine sk_tree (s := s) SH hA hmg hk h64 st q (Heap.get?_none_of_le (Nat.le_succ _)) keep hoL (tk := s.toks) fun s' o => ⟨_, rfl, ?_⟩
 exact wpAny_pure ⟨_, rfl, o⟩
end
end Mine.Internal
namespace Mine.Internal
open PySem PyProof.Rows PySem.W PySem.SeqAt PySem.Calls
section
variable {C : Cx} {ρ ρ₁ ρ₂ : List Addr} {σ σ' σ₁ σ₂ : Sto} {s s₁ s₂ : Shared} {A : Around} {h : Heap} {P : List Addr → Heap → Prop} {env : Env} {e : En} {r : Rec} {n : Nat}
theorem evalArgs_any {f : Value} {args : List (Bool × Sem Value)} {keywords : List (Option Str × Sem Value)} {Q : Args → Shared → Prop} (hstar : args.any (·.1) = false)
  (hall : keywords.all (·.1.isSome) = true)
  (h : wpAny (Mdl C) A (spliced args) (fun vs s₁ => wpAny (Mdl C) A (evalAll (keywords.map (·.2))) (fun ks s₂ => Q ⟨vs, (keywords.filterMap (·.1)).zip ks⟩ s₂) NoE s₁) NoE s) :
  wpAny (Mdl C) A (evalArgs f true args keywords) Q NoE s := by
 cases args with
 | nil =>
  unfold evalArgs
  show wpAny (Mdl C) A (spliced [] >>= _) Q NoE s
  refine wpAny_bind (wpAny_mono h (fun vs s₁ h₁ => ?_) fun _ _ x => x)
  refine wpAny_bind (wpAny_pure (wpAny_holding ?_))
  simp only [hall, if_true]
  refine wpAny_bind (wpAny_mono h₁ (fun ks s₂ h₂ => ?_) fun _ _ x => x)
  exact wpAny_bind (wpAny_pure (wpAny_pure h₂))
 | cons a rest =>
  obtain ⟨b, x⟩ := a
  simp only [List.any_cons, Bool.or_eq_false_iff] at hstar
  obtain ⟨rfl, _⟩ := hstar
  exact evalArgs_kw hall h
noncomputable def Keeper (f : Value) (s : Shared) : Prop := (∀ a, f ≠ .ref a) ∨ Ex3 fun a o fd => f = .ref a ∧ s.heap.get? a = some o ∧ o.data = .func fd
theorem callWith_any {pos : Pos} {f : Value} {first : List Value} {args : List (Bool × Sem Value)} {keywords : List (Option Str × Sem Value)} {Q : Value → Shared → Prop} (hstar : args.any (·.1) = false)
  (hall : keywords.all (·.1.isSome) = true)
  (h : wpAny (Mdl C) A (spliced args) (fun vs s₁ => wpAny (Mdl C) A (evalAll (keywords.map (·.2))) (fun ks s₂ => Keeper f s₂ ∧ wpAny (Mdl C) A (call f (first ++ vs) ((keywords.filterMap (·.1)).zip ks)) Q NoE s₂) NoE s₁) NoE s) :
  wpAny (Mdl C) A (callWith pos f first args keywords) Q NoE s := by
 have hs : (args.any (·.1) || keywords.any (·.1.isNone)) = false := by
  rw [hstar, Bool.false_or, List.any_eq_false]
  intro x hx
  have := List.all_eq_true.mp hall x hx
  cases hx1 : x.1 <;> simp_all
 unfold callWith
 refine wpAny_bind (wpAny_holding (evalArgs_any hstar hall (wpAny_mono h (fun vs s₁ h₁ => wpAny_mono h₁ (fun ks s₂ h₂ => wpAny_bind (wpAny_standAt ?_)) fun _ _ x => x) fun _ _ x => x)))
 have tail : ∀ {t : Sem Value}, wpAny (Mdl C) A t Q NoE s₂ → wpAny (Mdl C) A (t >>= fun r => holding [r] point >>= fun _ => pure r) Q NoE s₂ :=
  fun ht => wpAny_bind (wpAny_mono ht (fun r s₂ hr => wpAny_bind (wpAny_holding (wpAny_point (wpAny_pure hr)))) fun _ _ x => x)
 obtain ⟨hk, hc⟩ := h₂
 rw [hs]
 refine wpAny_bind (m := keeperOf f) ?_
 rcases hk with hk | ⟨a, o, fd, rfl, ho, hd⟩
 ·have : keeperOf f = pure .machine := by
   cases f <;> first | rfl | exact absurd rfl (hk _)
  rw [this]
  exact wpAny_pure (tail hc)
 ·unfold keeperOf
  refine wpAny_bind (wpAny_load ho ?_)
  rw [hd]
  refine wpAny_pure ?_
  dsimp only
  split <;> first
   | exact tail hc
   | exact tail (by unfold callMarked; exact wpAny_keep hc)
theorem kw_all {pos : Pos} : ∀ {xs : List Keyword} {vs : List (Str × V)} {σ σ' : Sto}, evKw r e xs σ = some (vs, σ') → (backToKw pos (keywordEach xs env)).all (·.1.isSome) = true
 | [], _, _, _, _ => rfl
 | ⟨none, x, p⟩ :: xs, _, _, _, h => M.failE h
 | ⟨some nm, x, p⟩ :: xs, _, _, _, h => by
  refine M.bindE h fun v σ₁ h1 h => ?_
  refine M.bindE h fun vs' σ₂ h2 h => ?_
  rw [arm_keywordEach_cons]
  simpa [backToKw] using kw_all (pos := pos) h2
theorem evKw_sound (S : Snd C r n) {pos : Pos} : ∀ {xs : List Keyword} {vs : List (Str × V)} {σ σ' : Sto} {s : Shared} {ρ : List Addr} {Q : List Value → Shared → Prop}, evKw r e xs σ = some (vs, σ') → Room n A → Frm C ρ e env s.heap → St C ρ σ s →
  (∀ us s₁ ρ₁, Tr Nox ρ ρ₁ s.heap s₁.heap → St C ρ₁ σ' s₁ → Frm C ρ₁ e env s₁.heap → Rk C ρ₁ s₁.heap vs (((backToKw pos (keywordEach xs env)).filterMap (·.1)).zip us) → Q us s₁) →
   wpAny (Mdl C) A (evalAll ((backToKw pos (keywordEach xs env)).map (·.2))) Q NoE s ∧ (backToKw pos (keywordEach xs env)).all (·.1.isSome) = true
 | [], vs, σ, σ', s, ρ, Q, h, hA, fm, st, k => by
  obtain ⟨rfl, rfl⟩ := M.pure_iff.mp h
  exact ⟨wpAny_evalAll_nil (k [] s ρ (Tr.refl _ _ _) st fm (show _ = [] from rfl)), rfl⟩
 | ⟨some nm, x, p⟩ :: xs, vs, σ, σ', s, ρ, Q, h, hA, fm, st, k => by
  refine M.bindE h fun v σ₁ h1 h => ?_
  refine M.bindE h fun vs' σ₂ h2 h => ?_
  obtain ⟨rfl, rfl⟩ := M.pure_iff.mp h
  rw [arm_keywordEach_cons]
  have all := kw_all (env := env) (pos := pos) h2
  refine ⟨wpAny_evalAll_cons (wpAny_bind (ev_then (S.ev h1 hA fm st) fm fun u s₁ ρ₁ t₁ st₁ fm₁ r₁ _ => wpAny_bind (wpAny_standAt (wpAny_pure ?_)))), by simpa [backToKw] using all⟩
  refine (evKw_sound S h2 hA fm₁ st₁ fun us s₂ ρ₂ t₂ st₂ fm₂ r₂ => k _ s₂ ρ₂ (t₁.then st₁ t₂) st₂ fm₂ ?_).1
  exact (show Ex2 fun _ _ => _ from ⟨u, _, rfl, r₁.mono t₂.toGrow0, r₂⟩)
 | ⟨none, x, p⟩ :: xs, vs, σ, σ', s, ρ, Q, h, hA, fm, st, k => by
  exact (M.fail_iff.mp h).elim
theorem attributeBase_plain {o : Expr} {nm : Str} {whole : Sem Value} (h : plainBase o = true) : attributeBase o nm env whole = whole := by
 cases o <;> first | rfl | exact nomatch h
theorem callMethod_sound (G : Good C) (S : Snd C r n) {o : Expr} {nm : Str} {ap p : Pos} {args : List Expr} {ov v : V} {vs : List V} {σ₃ : Sto} (hb : plainBase o = true) (hl : (ap.endLine == p.line) = true) (hn : args.length ≤ 8)
  (h1 : r.ev e o σ = some (ov, σ₁)) (h2 : evs r e args σ₁ = some (vs, σ₂)) (h3 : callMth C.cfg ov nm vs σ₂ = some (v, σ₃)) (hA : Room n A) (fm : Frm C ρ e env s.heap) (st : St C ρ σ s) :
  wpAny (Mdl C) A (eval (.Call (.Attribute o nm ap) args [] p) env) (fun u s' => Out C Nox ρ s.heap σ₃ (fun ρ' h' => R C ρ' h' v u) s') NoE s := by
 obtain ⟨b1, b2⟩ := backTo_plain (env := env) (pos := p) S h2
 refine wpAny_Call_method_lateS (attributeBase_plain hb) ?_ hl (ev_then (S.ev h1 hA fm st) fm fun uo s₁ ρ₁ t₁ st₁ fm₁ r₁ _ => ?_)
 ·rw [show ((backTo p (starEach args env)).all fun x => !x.1) = true by
   rw [List.all_eq_true]
   intro x hx
   have := List.any_eq_false.mp b1 x hx
   simpa using this]
  rw [show keywordEach [] env = [] from rfl]
  simp [backToKw]
  lia
 ·obtain ⟨T, a1, a2, a3, a4, a5⟩ := mth_head G h3 st₁ r₁
  refine ⟨T, mthId nm, a1, a2, a3, a4, a5, ?_⟩
  refine callWith_any b1 rfl (evs_sound S h2 hA fm₁ st₁ fun us s₂ ρ₂ t₂ st₂ fm₂ r₂ => wpAny_evalAll_nil ⟨.inl (fun _ e => by cases e), ?_⟩)
  exact wpAny_mono (callMth_sound G h3 st₂ (r₁.mono t₂.toGrow0) r₂) (fun _ _ o => Out.from (t₁.then st₁ t₂) st₂ o) fun _ _ x => x
theorem Rk.nil_of {h : Heap} {ks : List (Str × Value)} (r : Rk C ρ h [] ks) : ks = [] := r
theorem callV_sound (G : Good C) (S : Snd C r n) {f v : V} {pos : List V} {kw : List (Str × V)} {uf : Value} {us : List Value} {ks : List (Str × Value)} (h : callV C.cfg r f pos kw σ = some (v, σ')) (hks : (∀ H, Snd { C with hid := H } r n) ∧ Room n A.in1.in1) (hA : Room n A) (st : St C ρ σ s)
  (rf : R C ρ s.heap f uf) (rs : Rs C ρ s.heap pos us) (rk : Rk C ρ s.heap kw ks) :
  Keeper uf s ∧ wpAny (Mdl C) A (call uf us ks) (fun u s' => Out C Nox ρ s.heap σ' (fun ρ' h' => R C ρ' h' v u) s') NoE s := by
 cases f with
 | glob nm =>
  refine M.iteE h fun hd h => rf.globE fun a ha => ?_
  obtain ⟨⟨ar, body, sc⟩, hd⟩ := Option.isSome_iff_exists.mp hd
  obtain ⟨W, f⟩ := G.fns _ _ _ _ hd
  have h1 := f.mg
  rw [h1] at ha; cases ha
  exact ⟨.inr ⟨_, W.o, W.fd, rfl, st.rel.base _ _ f.at_, f.data⟩, S.call h hA st h1 rs rk⟩
 | blt b =>
  refine rf.bltE ⟨.inl (fun _ e => nomatch e), ?_⟩
  cases kw with
  | nil => cases rk.nil_of; exact callB_sound G hA.handled h st rs
  | cons p kw => cases kw with
   | nil =>
    obtain ⟨n1, v1⟩ := p
    obtain ⟨u, ks', rfl, ru, rn⟩ := rk
    cases rn.nil_of
    refine M.iteE h fun hq h => ?_
    rw [Bool.and_eq_true, beq_iff_eq, beq_iff_eq] at hq
    rw [hq.1, show n1 = ("key" : Str) from hq.2]
    refine globOf_R ru h fun g ad hg h => arg1_R rs h fun x w rw' h => listOf_R rw' h fun xs l ws p q h => M.iteE h fun hl h => M.bindE h fun kz σ₁ h1 h => M.pureE h ?_
    exact sorted_key hks.1 hks.2 hg h1 (by rw [q.length]; exact hl) st p q
   | cons => exact M.failE h
 | typ b =>
  refine rf.typE ⟨.inl (fun _ e => nomatch e), M.iteE h fun hq h => ?_⟩
  cases isNil_eq hq
  cases rk.nil_of
  exact callT_sound G hA.handled h st rs
 | _ => exact M.failE h
theorem callName_sound (G : Good C) (S : Snd C r n) {f : Str} {fp p : Pos} {args : List Expr} {kws : List Keyword} {fv v : V} {vs : List V} {kvs : List (Str × V)} {σ₃ σ₄ : Sto} (hks : (∀ H, Snd { C with hid := H } r n) ∧ Room n A.in1.in1)
  (h1 : r.ev e (.Name f fp) σ = some (fv, σ₁)) (h2 : evs r e args σ₁ = some (vs, σ₂)) (h3 : evKw r e kws σ₂ = some (kvs, σ₃)) (h4 : callV C.cfg r fv vs kvs σ₃ = some (v, σ₄)) (hA : Room n A) (fm : Frm C ρ e env s.heap) (st : St C ρ σ s) :
  wpAny (Mdl C) A (eval (.Call (.Name f fp) args kws p) env) (fun u s' => Out C Nox ρ s.heap σ₄ (fun ρ' h' => R C ρ' h' v u) s') NoE s := by
 obtain ⟨b1, b2⟩ := backTo_plain (env := env) (pos := p) S h2
 refine wpAny_Call_Name_kw (ev_then (S.ev h1 hA fm st) fm fun uf s₁ ρ₁ t₁ st₁ fm₁ r₁ _ => ?_)
 have all := kw_all (env := env) (pos := p) h3
 refine callWith_any b1 all (evs_sound S h2 hA fm₁ st₁ fun us s₂ ρ₂ t₂ st₂ fm₂ r₂ => ?_)
 refine (evKw_sound S h3 hA fm₂ st₂ fun ks s₃ ρ₃ t₃ st₃ fm₃ r₃ => ?_).1
 obtain ⟨k, c⟩ := callV_sound G S h4 hks hA st₃ ((r₁.mono t₂.toGrow0).mono t₃.toGrow0) (r₂.mono t₃.toGrow0) r₃
 exact ⟨k, wpAny_mono c (fun _ _ o => Out.from ((t₁.then st₁ t₂).then st₂ t₃) st₃ o) fun _ _ x => x⟩
end
section
variable {C : Cx} {ρ ρ₁ ρ₂ : List Addr} {σ σ' σ₁ σ₂ : Sto} {s s₁ s₂ : Shared} {A : Around} {h h' : Heap} {P : List Addr → Heap → Prop} {env : Env} {e : En} {r : Rec} {n : Nat} {I : Addr}
theorem St.notIter (st : St C ρ σ s) {o : Obj} (ho : s.heap.get? I = some o) (hi : IterObj o) : I ∉ ρ := fun hm => by
 obtain ⟨i, hi', rfl⟩ := List.getElem_of_mem hm
 have hs : i < σ.length := st.rel.len ▸ hi'
 obtain ⟨vs, ⟨n, p⟩, _⟩ := st.rel.at_ i _ σ[i] (List.getElem?_eq_getElem hi') (List.getElem?_eq_getElem hs)
 rw [p] at ho; cases ho
 exact hi.1 (by simp [Solid])
theorem Grow.iter {o : Obj} (ho : h.get? I = some o) (hi : IterObj o) (hk : ∀ b o, b ≠ I → h.get? b = some o → h'.get? b = some o) : Grow C ρ ρ h h' :=
 Grow.sameBut hk fun o' _ e => by rw [ho] at e; cases e; exact hi.1
theorem St.iter {t : Nat} (st : St C ρ σ s) {o : Obj} (ho : s.heap.get? I = some o) (hi : IterObj o) (h0 : C.h₀.get? I = none) (hid : ¬ C.hid I) (hk : ∀ b o, b ≠ I → s.heap.get? b = some o → h'.get? b = some o) :
  St C ρ σ { s with heap := h', toks := t } :=
 ⟨st.rel.sameBut hk (st.notIter ho hi) (fun o' _ e => by rw [ho] at e; cases e; exact hi.1) h0 fun q => (hid q).elim, st.gens, st.os⟩
theorem Frm.sameBut {a : Addr} (f : Frm C ρ e env h) (hk : ∀ b o, b ≠ a → h.get? b = some o → h'.get? b = some o) (g : Grow C ρ ρ h h') (hL : a ≠ env.locals) (hC : ∀ x c, env.cells.lookup x = some c → c ≠ a) : Frm C ρ e env h' := by
 obtain ⟨m, ⟨o, es, ep, ho, q⟩, hm⟩ := f.loc
 refine ⟨f.kind, f.glob, f.blt, f.kinds, ⟨m, ⟨o, es, ep, hk _ o (Ne.symm hL) ho, q⟩, fun x hx => (hm x hx).mono g⟩, fun x hx => ?_, f.boxed, f.apart, f.apartL, f.offL, f.offC, f.newL, f.newC, f.hidL, f.hidC⟩
 obtain ⟨c, ov, hc, ⟨o, ho, hd⟩, hr⟩ := f.cel x hx
 exact ⟨c, ov, hc, ⟨o, hk _ o (hC x c hc) ho, hd⟩, hr.mono g⟩
theorem Frm.notIter (f : Frm C ρ e env h) {o : Obj} (ho : h.get? I = some o) (hi : IterObj o) : I ≠ env.locals ∧ ∀ x c, env.cells.lookup x = some c → c ≠ I := by
 obtain ⟨vs, hd⟩ := hi.2
 refine ⟨fun q => ?_, fun x c hc q => ?_⟩
 ·obtain ⟨m, ⟨o', es, ep, ho', hd', _⟩, _⟩ := f.loc
  rw [← q, ho] at ho'; cases ho'
  rw [hd] at hd'; cases hd'
 ·obtain ⟨c', ov, hc', ⟨o', ho', hd'⟩, _⟩ := f.cel x (f.boxed x c hc)
  rw [hc] at hc'; cases hc'
  rw [q, ho] at ho'; cases ho'
  rw [hd] at hd'; cases hd'
theorem Frm.iter (f : Frm C ρ e env h) {o : Obj} (ho : h.get? I = some o) (hi : IterObj o) (hk : ∀ b o, b ≠ I → h.get? b = some o → h'.get? b = some o) : Frm C ρ e env h' :=
 f.sameBut hk (Grow.iter ho hi hk) (f.notIter ho hi).1 (f.notIter ho hi).2
theorem Frm.vars {ns : List (Str × NameKind)} {v₁ v₂ : Vars} (f : Frm C ρ ⟨ns, v₁⟩ env h) (hv : ∀ x, v₁.lookup x = v₂.lookup x) : Frm C ρ ⟨ns, v₂⟩ env h := by
 obtain ⟨m, q, hm⟩ := f.loc
 refine ⟨f.kind, f.glob, f.blt, f.kinds, ⟨m, q, fun x hx => hv x ▸ hm x hx⟩, fun x hx => ?_, f.boxed, f.apart, f.apartL, f.offL, f.offC, f.newL, f.newC, f.hidL, f.hidC⟩
 obtain ⟨c, ov, hc, ho, hr⟩ := f.cel x hx
 exact ⟨c, ov, hc, ho, hv x ▸ hr⟩
theorem lookup_upd (x y : Str) (v : V) : ∀ vars : Vars, (upd x v vars).lookup y = if y = x then some v else vars.lookup y
 | [] => by
  unfold upd
  by_cases q : y = x
  ·subst q; simp
  ·have : (y == x) = false := by simp [q]
   simp [List.lookup, q, this]
 | (z, w) :: l => by
  unfold upd
  split
  ·rename_i hz
   have hz := beq_iff_eq.mp hz
   subst hz
   by_cases q : y = z
   ·subst q; simp
   ·have : (y == z) = false := by simp [q]
    simp [List.lookup, q, this]
  ·rename_i hz
   by_cases q : y = z
   ·subst q
    have : ¬ y = x := fun q => hz (by simp [q])
    simp [List.lookup, this]
   ·have ih := lookup_upd x y v l
    simp only [List.lookup]
    rw [show (y == z) = false by simp [q]]
    exact ih
abbrev NameOut (C : Cx) (ρ : List Addr) (e : En) (env : Env) (h : Heap) (σ : Sto) (x : Str) (v : V) (s' : Shared) : Prop := Tr (Own e env) ρ ρ h s'.heap ∧ St C ρ σ s' ∧ Frm C ρ ⟨e.names, upd x v e.vars⟩ env s'.heap
theorem setLocal_sound {x : Str} {v : V} {u : Value} (fm : Frm C ρ e env s.heap) (st : St C ρ σ s) (ru : R C ρ s.heap v u) (hl : e.names.lookup x = some .local) :
  wpAny (Mdl C) A (storeName env x u) (fun _ s' => NameOut C ρ e env s.heap σ x v s') NoE s := by
 have hkx := fm.kinds x
 rw [hl] at hkx
 obtain ⟨m, ns, hm⟩ := fm.loc
 refine wpAny_storeName_local hkx ns (fun h' ns' hsb => ?_) (by rw [fm.kind]; rfl)
 have hk : ∀ b o, b ≠ env.locals → s.heap.get? b = some o → h'.get? b = some o := fun b o hb e => (hsb.2 b hb).trans e
 have g : Grow C ρ ρ s.heap h' := Grow.sameBut hk fun o _ ho => not_solid_ns ns ho
 refine ⟨⟨⟨[], by simp, by simp⟩, fun b o hb _ ho => hk b o (fun q => hb (.inl q)) ho⟩, ⟨st.rel.sameBut hk fm.offL (fun o _ ho => not_solid_ns ns ho) fm.newL fun q => (fm.hidL q).elim, st.gens, st.os⟩, ?_⟩
 refine ⟨fm.kind, fm.glob, fm.blt, fm.kinds, ⟨_, ns', fun y hy => ?_⟩, fun y hy => ?_, fm.boxed, fm.apart, fm.apartL, fm.offL, fm.offC, fm.newL, fm.newC, fm.hidL, fm.hidC⟩
 ·simp only [lookup_upd]
  by_cases q : y = x
  ·simp only [q, if_true]; exact ⟨u, rfl, ru.mono g⟩
  ·simp only [if_neg q]; exact (hm y hy).mono g
 ·obtain ⟨c, ov, hc, ⟨o, ho, hd⟩, hr⟩ := fm.cel y hy
  refine ⟨c, ov, hc, ⟨o, hk c o (fm.apartL y c hc) ho, hd⟩, ?_⟩
  simp only [lookup_upd]
  rw [if_neg fun q => by subst q; rw [hl] at hy; exact hy]
  exact hr.mono g
theorem setCell_sound {x : Str} {v : V} {u : Value} (fm : Frm C ρ e env s.heap) (st : St C ρ σ s) (ru : R C ρ s.heap v u) (hl : e.names.lookup x = some .cell) :
  wpAny (Mdl C) A (storeName env x u) (fun _ s' => NameOut C ρ e env s.heap σ x v s') NoE s := by
 have hkx := fm.kinds x
 rw [hl] at hkx
 obtain ⟨c, ov, hc, hi, hr⟩ := fm.cel x (by rw [hl]; trivial)
 refine wpAny_storeName_cell fm.kind hkx hc hi fun h' hi' hsb => ?_
 have hk : ∀ b o, b ≠ c → s.heap.get? b = some o → h'.get? b = some o := fun b o hb e => (hsb.2 b hb).trans e
 have g : Grow C ρ ρ s.heap h' := Grow.sameBut hk fun o _ ho => not_solid_cell hi ho
 refine ⟨⟨⟨[], by simp, by simp⟩, fun b o hb _ ho => hk b o (fun q => hb (.inr ⟨x, hl, q ▸ hc⟩)) ho⟩, ⟨st.rel.sameBut hk (fm.offC x c hc) (fun o _ ho => not_solid_cell hi ho) (fm.newC x c hc) fun q => (fm.hidC x c hc q).elim, st.gens, st.os⟩, ?_⟩
 obtain ⟨m, ⟨o, es, ep, ho, q⟩, hm⟩ := fm.loc
 refine ⟨fm.kind, fm.glob, fm.blt, fm.kinds, ⟨m, ⟨o, es, ep, hk _ o (Ne.symm (fm.apartL x c hc)) ho, q⟩, fun y hy => ?_⟩, fun y hy => ?_, fm.boxed, fm.apart, fm.apartL, fm.offL, fm.offC, fm.newL, fm.newC, fm.hidL, fm.hidC⟩
 ·simp only [lookup_upd]
  rw [if_neg fun q => by subst q; rw [hl] at hy; cases hy]
  exact (hm y hy).mono g
 ·obtain ⟨c', ov', hc', ⟨o', ho', hd'⟩, hr'⟩ := fm.cel y hy
  by_cases q : y = x
  ·subst q
   rw [hc] at hc'; cases hc'
   refine ⟨c, some u, hc, hi', ?_⟩
   simp only [lookup_upd, if_true]
   exact ⟨u, rfl, ru.mono g⟩
  ·refine ⟨c', ov', hc', ⟨o', hk c' o' (fun q' => q (fm.apart y x c' hc' (q' ▸ hc))) ho', hd'⟩, ?_⟩
   simp only [lookup_upd, if_neg q]
   exact hr'.mono g
theorem storable_cases {e : En} {x : Str} {P : Prop} (h : storable e x = true) (k1 : e.names.lookup x = some .local → P) (k2 : e.names.lookup x = some .cell → P) : P := by
 unfold storable at h
 cases q : e.names.lookup x with
 | none => rw [q] at h; exact nomatch h
 | some k =>
  rw [q] at h
  cases k with
  | «local» => exact k1 q
  | cell => exact k2 q
  | _ => exact nomatch h
theorem setName_sound {x : Str} {v : V} {u : Value} {vars : Vars} (hs : setName e x v σ = some (vars, σ')) (fm : Frm C ρ e env s.heap) (st : St C ρ σ s) (ru : R C ρ s.heap v u) :
  wpAny (Mdl C) A (bindName env x u) (fun _ s' => vars = upd x v e.vars ∧ Tr (Own e env) ρ ρ s.heap s'.heap ∧ St C ρ σ' s' ∧ Frm C ρ ⟨e.names, vars⟩ env s'.heap) NoE s := by
 refine M.iteE hs fun hst hs => M.pureE hs ?_
 unfold bindName
 refine wpAny_bind (wpAny_holding (wpAny_point (wpAny_bind ?_)))
 exact storable_cases hst (fun hl => wpAny_mono (setLocal_sound fm st ru hl) (fun _ _ o => wpAny_point ⟨rfl, o⟩) fun _ _ x => x) fun hl => wpAny_mono (setCell_sound fm st ru hl) (fun _ _ o => wpAny_point ⟨rfl, o⟩) fun _ _ x => x
theorem Tr.own (t₁ : Tr (Own e env) ρ ρ₁ h s₁.heap) (st₁ : St C ρ₁ σ₁ s₁) {vars : Vars} (f₁ : Frm C ρ₁ ⟨e.names, vars⟩ env s₁.heap) (t₂ : Tr (Own e env) ρ₁ ρ₂ s₁.heap h') : Tr (Own e env) ρ ρ₂ h h' :=
 t₁.trans t₂ (fun _ hb => f₁.own_alive hb) (st₁.aliveOf t₁)
theorem Tr.toOwn {X : Addr → Prop} (t : Tr Nox ρ ρ₁ h h') : Tr X ρ ρ₁ h h' := t.weak fun _ q => q.elim
theorem Frm.growOwn (f : Frm C ρ e env h) (t : Tr (Own e env) ρ ρ₁ h h') : Grow C ρ ρ₁ h h' := t.toGrow fun _ _ hb _ ho => f.own_not_solid hb ho
@[elab_as_elim] theorem setNamesE {names : List (Str × NameKind)} {t : Expr} {ts : List Expr} {v : V} {vs : List V} {vars : Vars} {r : Vars × Sto} {motive : Expr → Prop} (h : setNames names (t :: ts) (v :: vs) vars σ = some r)
  (k : ∀ x p vars₁ σ₁, setName ⟨names, vars⟩ x v σ = some (vars₁, σ₁) → setNames names ts vs vars₁ σ₁ = some r → motive (.Name x p)) : motive t := by
 refine M.bindE h fun x σ₁ h1 h' => ?_
 obtain ⟨h2, rfl⟩ := M.of_iff.mp h1
 cases t with
 | Name y p => cases Option.some.inj h2; exact M.bindE h' fun vars₁ σ₂ h3 h4 => k _ p vars₁ σ₂ h3 h4
 | _ => exact no_none h2
theorem setNames_sound : ∀ {ts : List Expr} {vs : List V} {us : List Value} {vars vars' : Vars} {σ σ' : Sto} {s : Shared}, setNames e.names ts vs vars σ = some (vars', σ') → Frm C ρ ⟨e.names, vars⟩ env s.heap → St C ρ σ s → Rs C ρ s.heap vs us →
  wpAny (Mdl C) A (assignInOrder ((assignEach ts env).map (·.2)) us) (fun _ s' => Tr (Own e env) ρ ρ s.heap s'.heap ∧ St C ρ σ' s' ∧ Frm C ρ ⟨e.names, vars'⟩ env s'.heap) NoE s
 | [], vs, us, vars, vars', σ, σ', s, h, fm, st, rs => by
  refine M.iteE h fun hn h => M.pureE h ?_
  cases isNil_eq hn
  cases Rs.nil_iff.mp rs
  exact wpAny_pure ⟨Tr.refl _ _ _, st, fm⟩
 | t :: ts, [], us, vars, vars', σ, σ', s, h, fm, st, rs => M.failE h
 | t :: ts, v :: vs, us, vars, vars', σ, σ', s, h, fm, st, rs => by
  refine setNamesE h fun x p vars₁ σ₁ h1 h => ?_
  obtain ⟨u, us', rfl, ru, rs⟩ : Ex2 fun u us' => us = u :: us' ∧ R C ρ s.heap v u ∧ Rs C ρ s.heap vs us' := rs
  show wpAny (Mdl C) A (do holding us' (assign (.Name x p) env u); assignInOrder ((assignEach ts env).map (·.2)) us') _ _ _
  refine wpAny_bind (wpAny_holding ?_)
  rw [arm_assign_Name]
  refine wpAny_bind (wpAny_standAt (wpAny_mono (setName_sound h1 fm st ru) (fun _ s₁ o => ?_) fun _ _ x => x))
  exact wpAny_mono (setNames_sound h o.2.2.2 o.2.2.1 (rs.mono (fm.growOwn o.2.1))) (fun _ s₂ o' => ⟨Tr.own o.2.1 o.2.2.1 o.2.2.2 o'.1, o'.2.1, o'.2.2⟩) fun _ _ x => x
theorem unpackItems_sound {v : V} {u : Value} {vs : List V} {Q : List Value → Shared → Prop} (h : unpackV v σ = some (vs, σ')) (hA : A.handled = none) (st : St C ρ σ s) (r : R C ρ s.heap v u)
  (hQ : σ = σ' → ∀ us h' t, (∀ b o, s.heap.get? b = some o → h'.get? b = some o) → Rs C ρ h' vs us → Q us { s with heap := h', toks := t }) : wpAny (Mdl C) A (unpackItems u vs.length none) Q NoE s := by
 cases v with
 | tup xs =>
  obtain ⟨rfl, rfl⟩ := M.pure_iff.mp h
  refine r.tupE fun a ws p _ q => ?_
  have hk : ∀ {h'}, Heap.ExtBut s.heap.objs.size s.heap h' → ∀ b o, s.heap.get? b = some o → h'.get? b = some o := fun he b o e => he b o (fun z => by rw [z, Heap.get?_size] at e; exact nomatch e) e
  rw [← q.length, ← List.size_toArray]
  exact wpAny_unpackItems_tuple hA p.isTuple fun h' he => hQ rfl _ h' s.toks (hk he) (q.mono (Grow.ofKeeps (hk he)))
 | _ => exact M.failE h
theorem assignEach_names : ∀ {ts : List Expr} {vs : List V} {vars vars' : Vars} {σ σ' : Sto}, setNames e.names ts vs vars σ = some (vars', σ') → (assignEach ts env).length = vs.length ∧ (assignEach ts env).findIdx? (·.1) = none
 | [], vs, _, _, _, _, h => M.iteE h fun hn _ => by cases isNil_eq hn; exact ⟨rfl, rfl⟩
 | t :: ts, [], _, _, _, _, h => M.failE h
 | t :: ts, v :: vs, _, _, _, _, h => by
  refine setNamesE h fun x p vars₁ σ₁ h1 h => ?_
  have ih := assignEach_names h
  refine ⟨congrArg Nat.succ ih.1, ?_⟩
  show List.findIdx? (·.1) ((false, _) :: assignEach ts env) = none
  rw [List.findIdx?_cons]
  simp [ih.2]
end
section
variable {C : Cx} {ρ ρ₁ ρ₂ : List Addr} {σ σ' σ₁ σ₂ : Sto} {s s₁ s₂ : Shared} {A : Around} {h h' : Heap} {P : List Addr → Heap → Prop} {env : Env} {e : En} {r : Rec} {n : Nat} {I : Addr}
noncomputable def SetOut (C : Cx) (ρ : List Addr) (e : En) (env : Env) (h : Heap) (σ' : Sto) (vars : Vars) (s' : Shared) : Prop :=
 ∃ ρ', Tr (Own e env) ρ ρ' h s'.heap ∧ St C ρ' σ' s' ∧ Frm C ρ' ⟨e.names, vars⟩ env s'.heap
theorem setTo_sound (S : Snd C r n) {t : Expr} {v : V} {u : Value} {vars : Vars} (h : setTo r e t v σ = some (vars, σ')) (hA : Room n A) (fm : Frm C ρ e env s.heap) (st : St C ρ σ s) (ru : R C ρ s.heap v u) :
  wpAny (Mdl C) A (assign t env u) (fun _ s' => SetOut C ρ e env s.heap σ' vars s') NoE s := by
 cases t with
 | Name =>
  rw [arm_assign_Name]
  exact wpAny_bind (wpAny_standAt (wpAny_mono (setName_sound h fm st ru) (fun _ s₁ o => ⟨ρ, o.2⟩) fun _ _ x => x))
 | Tuple ts =>
  refine M.iteE h fun _ h => M.bindE h fun vs σ₁ h1 h => ?_
  rw [arm_assign_Tuple]
  refine wpAny_bind (wpAny_standAt ?_)
  obtain ⟨a1, a2⟩ := assignEach_names (env := env) h
  unfold unpack
  rw [a1, a2]
  refine wpAny_bind (wpAny_holding (unpackItems_sound h1 hA.handled st ru fun e1 us h' t hk rs => ?_))
  subst e1
  have tr : Tr Nox ρ ρ s.heap h' := Tr.ofKeeps hk
  refine wpAny_mono (setNames_sound (s := { s with heap := h', toks := t }) h (fm.step tr) (st.keeps hk) rs) (fun _ s₁ o => ?_) fun _ _ x => x
  exact ⟨ρ, Tr.own (e := e) (s₁ := { s with heap := h', toks := t }) tr.toOwn (st.keeps hk) (vars := e.vars) (fm.step tr) o.1, o.2⟩
 | Subscript =>
  refine M.bindE h fun ov σ₁ h1 h => M.bindE h fun iv σ₂ h2 h => M.bindE h fun _ σ₃ h3 h => M.pureE h ?_
  rw [arm_assign_Subscript]
  refine wpAny_bind (wpAny_holding (ev_then (S.ev h1 hA fm st) fm fun uo s₁ ρ₁ t₁ st₁ fm₁ r₁ _ => ?_))
  refine wpAny_bind (wpAny_holding (ev_then (S.ev h2 hA fm₁ st₁) fm₁ fun ui s₂ ρ₂ t₂ st₂ fm₂ r₂ _ => ?_))
  refine wpAny_bind (wpAny_standAt (wpAny_bind (wpAny_holding ?_)))
  refine wpAny_mono (putItem_sound h3 st₂ (r₁.mono t₂.toGrow0) r₂ ((ru.mono t₁.toGrow0).mono t₂.toGrow0)) (fun _ s₃ o => wpAny_release ?_) fun _ _ x => x
  obtain ⟨ρ₃, t₃, st₃, _⟩ := o
  exact ⟨ρ₃, ((t₁.then st₁ t₂).then st₂ t₃).toOwn, st₃, fm₂.step t₃⟩
 | _ => exact M.failE h
theorem thaw_sound {t value : Expr} {v v' : V} {u : Value} {h₀ : Heap} {ρ₀ : List Addr} (h : thaw C.cfg t value v σ = some (v', σ')) (tr : Tr Nox ρ₀ ρ h₀ s.heap) (hb : ∀ b o, C.h₀.get? b = some o → h₀.get? b = some o)
  (fm : Frm C ρ₀ e env h₀) (st : St C ρ σ s) (ru : R C ρ s.heap v u) (fr : freshForm value = true → FreshAt C ρ σ h₀ s.heap v u) :
  ∃ ρ', Tr Nox ρ₀ ρ' h₀ s.heap ∧ St C ρ' σ' s ∧ Frm C ρ' e env s.heap ∧ R C ρ' s.heap v' u := by
 have stay : (M.pure v : M V) σ = some (v', σ') → ∃ ρ', Tr Nox ρ₀ ρ' h₀ s.heap ∧ St C ρ' σ' s ∧ Frm C ρ' e env s.heap ∧ R C ρ' s.heap v' u := fun h => M.pureE h ⟨ρ, tr, st, fm.step tr, ru⟩
 cases t with
 | Name x p =>
  cases v with
  | list xs =>
   refine M.ite2 h (fun hc h => ?_) fun _ h => stay h
   rw [Bool.and_eq_true] at hc
   obtain ⟨rfl, rfl⟩ := M.new_iff.mp h
   obtain ⟨a, rfl, ha, hr, vs, p, q⟩ := fr hc.2 _ rfl
   obtain ⟨b, ws, e1, _, of, _⟩ : Ex2 fun b ws => Value.ref a = .ref b ∧ PL s.heap b ws ∧ Off C ρ b ∧ Rs C ρ s.heap xs ws := ru
   cases e1
   have h0 : C.h₀.get? a = none := by
    cases e2 : C.h₀.get? a with
    | none => rfl
    | some o => rw [hb a o e2] at ha; cases ha
   have tr' : Tr Nox ρ₀ (ρ ++ [a]) h₀ s.heap := by
    obtain ⟨new, rfl, hn⟩ := tr.grow
    refine ⟨⟨new ++ [a], by rw [List.append_assoc], fun b hb => ?_⟩, tr.keep⟩
    rcases List.mem_append.mp hb with hb | hb
    ·exact hn b hb
    ·simp at hb; subst hb; exact ha
   exact ⟨ρ ++ [a], tr', ⟨hr.keepList of.1 h0 p q, st.gens, st.os⟩, fm.step tr', R.mkLst (by rw [List.getElem?_append_right (by have := st.rel.len; lia), ← st.rel.len]; simp)⟩
  | _ => exact stay h
 | _ => exact stay h
set_option backward.match.sparseCases true in
theorem own_load {nm : String} {o : Obj} {vs : Array Value} {Q : Unit → Shared → Prop} (a : Int) (ho : s.heap.get? I = some o) (hc : o.cls = .type nm) (hd : o.data = .fields vs) (hn : (["enumerate", "zip", "dict_itemiterator", "dict_reverseitemiterator", "odict_iterator", "itertools.zip_longest", "itertools.pairwise"].contains nm) = false) (h : Q () s) :
  wpAny (Mdl C) A (do
   let o ← load I
   match o.cls, o.data with
   | .type n, .fields vs =>
    if ["enumerate", "zip", "dict_itemiterator", "dict_reverseitemiterator", "odict_iterator", "itertools.zip_longest", "itertools.pairwise"].contains n && vs[0]? == some (rawInt a) then
     rule "for.unpacks-the-owned-tuple"
     updateField I 0 .none
   | _, _ => pure () : Sem Unit) Q NoE s := by
 refine wpAny_bind (wpAny_load ho ?_)
 rw [hc, hd]
 show wpAny (Mdl C) A (if (_ && _) = true then _ else pure ()) Q NoE s
 rw [hn]
 exact wpAny_pure h
theorem owned_quiet {target : Expr} {v : V} {all : List V} {k : Nat} {u : Value} {Q : Unit → Shared → Prop} (it : ItAt C ρ s.heap I v all k) (h : Q () s) : wpAny (Mdl C) A (letOwnedTupleGo target (.ref I) u) Q NoE s := by
 have ty : Ex3 fun o nm vs => s.heap.get? I = some o ∧ o.cls = .type nm ∧ o.data = .fields vs ∧ (["enumerate", "zip", "dict_itemiterator", "dict_reverseitemiterator", "odict_iterator", "itertools.zip_longest", "itertools.pairwise"].contains nm) = false := by
  cases v with
  | list => obtain ⟨_, l, vs, ⟨o, ho, hc, hd⟩, _⟩ := it; exact ⟨o, _, _, ho, hc, hd, by decide⟩
  | lst => obtain ⟨l, ⟨o, ho, hc, hd⟩, _⟩ := it; exact ⟨o, _, _, ho, hc, hd, by decide⟩
  | bytes => obtain ⟨_, t, o, ho, hc, hd⟩ := it; exact ⟨o, _, _, ho, hc, hd, by decide⟩
  | rng => obtain ⟨_, ho⟩ := it; exact ⟨_, _, _, ho, rfl, rfl, by decide⟩
  | _ => exact it.elim
 obtain ⟨o, nm, vs, ho, hc, hd, hn⟩ := ty
 cases target with
 | Tuple => cases u <;> first | exact wpAny_pure h | exact own_load _ ho hc hd hn h
 | List => cases u <;> first | exact wpAny_pure h | exact own_load _ ho hc hd hn h
 | _ => exact wpAny_pure h
theorem St.h0none (st : St C ρ σ s) {a : Addr} (ha : s.heap.get? a = none) : C.h₀.get? a = none := by
 cases e : C.h₀.get? a with
 | none => rfl
 | some o => rw [st.rel.base _ _ e] at ha; cases ha
abbrev LoopEnd (C : Cx) (X : Addr → Prop) (ρ : List Addr) (e : En) (env : Env) (h : Heap) (σ' : Sto) (fl : Fl) (vars : Vars) (f : Flow) (s' : Shared) : Prop :=
 ∃ ρ', Tr X ρ ρ' h s'.heap ∧ St C ρ' σ' s' ∧ Frm C ρ' ⟨e.names, vars⟩ env s'.heap ∧ FlR C ρ' s'.heap fl f
theorem wpAny_same {α : Type} {m : Sem α} {Q Q' : α → Shared → Prop} {E : Value → Shared → Prop} (h : wpAny (Mdl C) A m Q' NoE s) (k : ∀ x s', Q' x s' → Q x s') : wpAny (Mdl C) A m Q E s := wpAny_mono h k fun _ _ x => x.elim
noncomputable def TurnEnd (Z : Shared → Prop) (R : Flow → Shared → Prop) (f : Flow) (s : Shared) : Prop := match f with
 | .next => Z s
 | .ret v => R (.ret v) s
 | _ => False
theorem while_rule {test : Expr} {body : List Stmt} {R : Flow → Shared → Prop} (I : Nat → Shared → Prop)
  (turn : ∀ n s (Z : Shared → Prop), (∀ m s', m < n → I m s' → Z s') → I n s → wpAny (Mdl C) A (isTrue test env (eval test env)) (fun b s₂ => if b = true then wpAny (Mdl C) A (execs body env) (TurnEnd Z R) NoE s₂ else R .next s₂) NoE s) (n : Nat) (h : I n s) :
  codeAny (Mdl C) A (.whileLoop test body [] env) (fun x s' => ∃ f, x = .ok f ∧ R f s') s := by
 refine codeAny_whileLoop I (fun n s hI => wpAny_same (turn n s (fun s' => ∃ m, m < n ∧ I m s') (fun m s' h1 h2 => ⟨m, h1, h2⟩) hI) fun b s₂ h₂ => ?_) n h
 cases b with
 | true =>
  refine wpAny_same h₂ fun f s₃ h₃ => ?_
  cases f with
  | next => exact h₃
  | ret v => exact ⟨_, rfl, h₃⟩
  | _ => exact h₃.elim
 | false => exact wpAny_execs_nil ⟨_, rfl, h₂⟩
theorem for_rule {target : Expr} {it : Value} {body : List Stmt} {R : Flow → Shared → Prop} (I : Nat → Shared → Prop)
  (turn : ∀ n s (Z : Shared → Prop), (∀ m s', m < n → I m s' → Z s') → I n s → wpAny (Mdl C) A (pyNext it) (fun r s₁ => match r with
   | none => R .next s₁
   | some v => wpAny (Mdl C) A (letOwnedTupleGo target it v) (fun _ s₁' => wpAny (Mdl C) A (assign target env v) (fun _ s₂ => wpAny (Mdl C) A (execs body env) (TurnEnd Z R) NoE s₂) NoE s₁') NoE s₁) NoE s) (n : Nat) (h : I n s) :
  codeAny (Mdl C) A (.forLoop target it body [] env) (fun x s' => ∃ f, x = .ok f ∧ R f s') s := by
 refine codeAny_forLoop_any I (fun n s hI => wpAny_same (turn n s (fun s' => ∃ m, m < n ∧ I m s') (fun m s' h1 h2 => ⟨m, h1, h2⟩) hI) fun r s₁ h₁ => ?_) n h
 cases r with
 | none => exact wpAny_execs_nil ⟨_, rfl, h₁⟩
 | some v =>
  refine wpAny_same h₁ fun _ s₁' h₁' => wpAny_same h₁' fun _ s₂ h₂ => wpAny_same h₂ fun f s₃ h₃ => ?_
  cases f with
  | next => exact h₃
  | ret v => exact ⟨_, rfl, h₃⟩
  | _ => exact h₃.elim
noncomputable def WInv (C : Cx) (r : Rec) (e : En) (env : Env) (test : Expr) (body : List Stmt) (ρ₀ : List Addr) (h₀ : Heap) (res : (Fl × Vars) × Sto) (k : Nat) (s : Shared) : Prop :=
 Ex3 fun vars σ ρ => whileN r e test body k vars σ = some res ∧ Frm C ρ ⟨e.names, vars⟩ env s.heap ∧ St C ρ σ s ∧ Tr (Own e env) ρ₀ ρ h₀ s.heap
theorem while_turn (S : Snd C r n) {test : Expr} {body : List Stmt} (hA : Room n A) {k : Nat} {vars vars' : Vars} {σ σ' : Sto} {ρ₀ ρ₁ : List Addr} {h₀ : Heap} {fl : Fl} {Z : Shared → Prop} {R : Flow → Shared → Prop} (h : whileN r e test body k vars σ = some ((fl, vars'), σ'))
  (fm : Frm C ρ₁ ⟨e.names, vars⟩ env s.heap) (st : St C ρ₁ σ s) (tr : Tr (Own e env) ρ₀ ρ₁ h₀ s.heap) (hZ : ∀ m s', m < k → WInv C r e env test body ρ₀ h₀ ((fl, vars'), σ') m s' → Z s') (hR : ∀ f s', LoopEnd C (Own e env) ρ₀ e env h₀ σ' fl vars' f s' → R f s') :
  wpAny (Mdl C) A (isTrue test env (eval test env)) (fun b s₂ => if b = true then wpAny (Mdl C) A (execs body env) (TurnEnd Z R) NoE s₂ else R .next s₂) NoE s := by
 cases k with
 | zero => exact M.failE h
 | succ k =>
  refine M.bindE h fun b σ₁ h1 h => wpAny_same (S.ts h1 hA fm st) fun t s₁ o => ?_
  obtain ⟨ρ₂, t₁, st₁, rfl⟩ := o
  have fm₁ := fm.step t₁
  have tr₁ := Tr.own tr st fm t₁.toOwn
  refine M.ite2 h (fun hb h => ?_) fun hb h => ?_
  ·rw [if_pos hb]
   refine M.bindE2 h fun f vars₁ σ₂ h2 h => wpAny_same (S.ex h2 hA fm₁ st₁) fun fl₂ s₂ o => ?_
   obtain ⟨ρ₃, t₂, st₂, fm₂, hf⟩ := o
   have tr₂ := Tr.own tr₁ st₁ fm₁ t₂
   cases f with
   | next => cases (show fl₂ = .next from hf); exact hZ k s₂ (Nat.lt_succ_self _) ⟨vars₁, σ₂, ρ₃, h, fm₂, st₂, tr₂⟩
   | ret v =>
    obtain ⟨e1, rfl⟩ := M.pure_iff.mp h
    cases e1
    obtain ⟨u, rfl, ru⟩ := hf
    exact hR _ _ ⟨ρ₃, tr₂, st₂, fm₂, u, rfl, ru⟩
  ·rw [if_neg hb]
   obtain ⟨e1, rfl⟩ := M.pure_iff.mp h
   cases e1
   exact hR _ _ ⟨ρ₂, tr₁, st₁, fm₁, rfl⟩
theorem while_sound (S : Snd C r n) {test : Expr} {body : List Stmt} {pos : Pos} (hA : Room n A) (k : Nat) {vars vars' : Vars} {σ σ' : Sto} {s : Shared} {ρ : List Addr} {fl : Fl} (h0 : whileN r e test body k vars σ = some ((fl, vars'), σ'))
  (fm0 : Frm C ρ ⟨e.names, vars⟩ env s.heap) (st0 : St C ρ σ s) : codeAny (Mdl C) A (.whileLoop test body [] env) (fun x s' => ∃ f, x = .ok f ∧ ExOut C ρ e env s.heap σ' fl vars' f s') s :=
 while_rule (R := ExOut C ρ e env s.heap σ' fl vars') (WInv C r e env test body ρ s.heap ((fl, vars'), σ')) (fun k s Z hZ ⟨_, _, _, h, fm, st, tr⟩ => while_turn S hA h fm st tr hZ fun _ _ o => o) k ⟨vars, σ, ρ, h0, fm0, st0, Tr.refl _ _ _⟩
theorem drop_nil_le {α : Type} {all : List α} {k : Nat} (hk : k ≤ all.length) (h : all.drop (all.length - k) = []) : k = 0 := (Nat.sub_sub_self hk).symm.trans (Nat.sub_eq_zero_of_le (List.drop_eq_nil_iff.mp h))
theorem drop_cons_at {α : Type} {all xs : List α} {x : α} {k : Nat} (hk : k ≤ all.length) (h : all.drop (all.length - k) = x :: xs) :
  0 < k ∧ all[all.length - k]? = some x ∧ xs = all.drop (all.length - (k - 1)) ∧ all.length - k + 1 = all.length - (k - 1) := by
 cases k with
 | zero => rw [Nat.sub_zero, List.drop_length] at h; exact nomatch h
 | succ k =>
  have e : all.length - (k + 1) + 1 = all.length - k := by rw [Nat.sub_add_eq, Nat.sub_add_cancel (Nat.sub_pos_of_lt hk)]
  refine ⟨Nat.succ_pos _, by rw [← Nat.add_zero (all.length - (k + 1)), ← List.getElem?_drop, h]; rfl, ?_, e⟩
  have := congrArg List.tail h
  rw [List.tail_drop, e] at this
  exact this.symm
noncomputable def OwnI (e : En) (env : Env) (I : Addr) : Addr → Prop := fun b => Own e env b ∨ b = I
theorem Tr.ownI {s₁ : Shared} {h₂ : Heap} {vars₁ : Vars} (t₁ : Tr (OwnI e env I) ρ ρ₁ h s₁.heap) (st₁ : St C ρ₁ σ₁ s₁) (f₁ : Frm C ρ₁ ⟨e.names, vars₁⟩ env s₁.heap) (al : ∃ o, s₁.heap.get? I = some o) (t₂ : Tr (OwnI e env I) ρ₁ ρ₂ s₁.heap h₂) : Tr (OwnI e env I) ρ ρ₂ h h₂ :=
 t₁.trans t₂ (fun _ hb => hb.elim (fun q => f₁.own_alive q) fun q => q ▸ al) (st₁.aliveOf t₁)
theorem Tr.keepI (t : Tr (Own e env) ρ ρ₁ s.heap h') (fm : Frm C ρ e env s.heap) (st : St C ρ σ s) {o' : Obj} (ho : s.heap.get? I = some o') (hi : IterObj o') : ∀ o, s.heap.get? I = some o → h'.get? I = some o := fun o e => t.keep I o (fun q => by
 rcases q with q | ⟨z, _, q⟩
 ·exact (fm.notIter ho hi).1 q
 ·exact (fm.notIter ho hi).2 z I q rfl) (st.notIter ho hi) e
theorem Tr.iterStep {X : Addr → Prop} (hX : X I) (hk : ∀ b o, b ≠ I → h.get? b = some o → h'.get? b = some o) : Tr X ρ ρ h h' := ⟨⟨[], by simp, by simp⟩, fun b o hb _ e => hk b o (fun q => hb (q ▸ hX)) e⟩
noncomputable def FInv (C : Cx) (r : Rec) (e : En) (env : Env) (target : Expr) (body : List Stmt) (itv : V) (all : List V) (I : Addr) (ρ₀ : List Addr) (h₀ : Heap) (res : (Fl × Vars) × Sto) (k : Nat) (s : Shared) : Prop :=
 Ex3 fun vars σ ρ => k ≤ all.length ∧ forItems r e target body (chkOf itv) all (all.drop (all.length - k)) vars σ = some res ∧ Frm C ρ ⟨e.names, vars⟩ env s.heap ∧ St C ρ σ s ∧ Tr (OwnI e env I) ρ₀ ρ h₀ s.heap ∧ ItAt C ρ s.heap I itv all (all.length - k)
theorem for_turn (S : Snd C r n) {target : Expr} {body : List Stmt} {itv : V} {all : List V} (hA : Room n A) (h0 : C.h₀.get? I = none) (hid : ¬ C.hid I) {k : Nat} {vars vars' : Vars} {σ' : Sto} {ρ₀ : List Addr} {h₀ : Heap} {fl : Fl} {Z : Shared → Prop} {R : Flow → Shared → Prop} (hk : k ≤ all.length)
  (h : forItems r e target body (chkOf itv) all (all.drop (all.length - k)) vars σ = some ((fl, vars'), σ')) (fm : Frm C ρ ⟨e.names, vars⟩ env s.heap) (st : St C ρ σ s) (tr : Tr (OwnI e env I) ρ₀ ρ h₀ s.heap) (it : ItAt C ρ s.heap I itv all (all.length - k))
  (hZ : ∀ m s', m < k → FInv C r e env target body itv all I ρ₀ h₀ ((fl, vars'), σ') m s' → Z s') (hR : ∀ f s', LoopEnd C (OwnI e env I) ρ₀ e env h₀ σ' fl vars' f s' → R f s') :
  wpAny (Mdl C) A (pyNext (.ref I)) (fun r s₁ => match r with
   | none => R .next s₁
   | some v => wpAny (Mdl C) A (letOwnedTupleGo target (.ref I) v) (fun _ s₁' => wpAny (Mdl C) A (assign target env v) (fun _ s₂ => wpAny (Mdl C) A (execs body env) (TurnEnd Z R) NoE s₂) NoE s₁') NoE s₁) NoE s := by
 obtain ⟨o, ho, hi⟩ := it.obj
 cases hd : all.drop (all.length - k) with
 | nil =>
  cases drop_nil_le hk hd
  rw [hd] at h
  refine M.bindE h fun _ σ₁ h1 h => ?_
  obtain ⟨e1, rfl⟩ := M.pure_iff.mp h
  cases e1
  obtain ⟨rfl, _⟩ := still_iff h1
  exact it.stop hA.handled st h1 (by simp) fun h' t hk' => hR _ _ ⟨ρ, tr.ownI st fm ⟨o, ho⟩ (Tr.iterStep (.inr rfl) hk'), st.iter ho hi h0 hid hk', fm.iter ho hi hk', rfl⟩
 | cons x xs =>
  obtain ⟨hk0, hgx, hxs, ek⟩ := drop_cons_at hk hd
  rw [hd] at h
  refine M.bindE h fun _ σ₁ h1 h => M.bindE h fun vars₁ σ₂ h2 h => M.bindE2 h fun f vars₂ σ₃ h3 h => it.next st h1 hgx fun y h' t hsb ry it' => ?_
  obtain ⟨rfl, _⟩ := still_iff h1
  have hkb : ∀ b o, b ≠ I → s.heap.get? b = some o → h'.get? b = some o := fun b o hb e => (hsb.2 b hb).trans e
  have st' : St C ρ σ { s with heap := h', toks := t } := st.iter ho hi h0 hid hkb
  have fm' : Frm C ρ ⟨e.names, vars⟩ env h' := fm.iter ho hi hkb
  have tr' : Tr (OwnI e env I) ρ₀ ρ h₀ h' := tr.ownI st fm ⟨o, ho⟩ (Tr.iterStep (.inr rfl) hkb)
  obtain ⟨o', ho', hi'⟩ := it'.obj
  generalize e₁ : ({ s with heap := h', toks := t } : Shared) = s₁ at st'
  have eh : h' = s₁.heap := by rw [← e₁]
  subst eh
  clear e₁ hsb hkb tr
  refine owned_quiet it' (wpAny_same (setTo_sound S h2 hA fm' st' ry) fun _ s₂ o2 => ?_)
  obtain ⟨ρ₂, t₂, st₂, fm₂⟩ := o2
  have it₂ : ItAt C ρ₂ s₂.heap I itv all (all.length - k + 1) := it'.mono (fm'.growOwn t₂) (t₂.keepI fm' st' ho' hi')
  have tr₂ := tr'.ownI st' fm' ⟨o', ho'⟩ (t₂.weak fun _ q => .inl q)
  refine wpAny_same (S.ex h3 hA fm₂ st₂) fun fl₃ s₃ o3 => ?_
  obtain ⟨ρ₃, t₃, st₃, fm₃, hfl⟩ := o3
  obtain ⟨o2, ho2, hi2⟩ := it₂.obj
  have tr₃ := tr₂.ownI st₂ fm₂ ⟨o2, ho2⟩ (t₃.weak fun _ q => .inl q)
  cases f with
  | next =>
   cases (show fl₃ = .next from hfl)
   exact hZ (k - 1) s₃ (Nat.sub_one_lt (Nat.ne_of_gt hk0)) ⟨vars₂, σ₃, ρ₃, Nat.le_trans (Nat.sub_le ..) hk, hxs ▸ h, fm₃, st₃, tr₃, ek ▸ it₂.mono (fm₂.growOwn t₃) (t₃.keepI fm₂ st₂ ho2 hi2)⟩
  | ret v =>
   obtain ⟨e1, rfl⟩ := M.pure_iff.mp h
   cases e1
   obtain ⟨u, rfl, ru⟩ := hfl
   exact hR _ _ ⟨ρ₃, tr₃, st₃, fm₃, u, rfl, ru⟩
theorem for_sound (S : Snd C r n) {target : Expr} {body : List Stmt} {itv : V} {all : List V} (hA : Room n A) (h0 : C.h₀.get? I = none) (hid : ¬ C.hid I) {vars₀ vars' : Vars} {σ₀ σ' : Sto} {s₀ : Shared} {ρ₀ : List Addr} {fl : Fl}
  (hf : forItems r e target body (chkOf itv) all all vars₀ σ₀ = some ((fl, vars'), σ')) (fm0 : Frm C ρ₀ ⟨e.names, vars₀⟩ env s₀.heap) (st0 : St C ρ₀ σ₀ s₀) (it0 : ItAt C ρ₀ s₀.heap I itv all 0) :
  codeAny (Mdl C) A (.forLoop target (.ref I) body [] env) (fun x s' => ∃ f, x = .ok f ∧ LoopEnd C (OwnI e env I) ρ₀ e env s₀.heap σ' fl vars' f s') s₀ :=
 for_rule (R := LoopEnd C (OwnI e env I) ρ₀ e env s₀.heap σ' fl vars') (FInv C r e env target body itv all I ρ₀ s₀.heap ((fl, vars'), σ')) (fun k s Z hZ ⟨_, _, _, hk, h, fm, st, tr, it⟩ => for_turn S hA h0 hid hk h fm st tr it hZ fun _ _ o => o) all.length
  ⟨vars₀, σ₀, ρ₀, Nat.le_refl _, by rw [Nat.sub_self, List.drop_zero]; exact hf, fm0, st0, Tr.refl _ _ _, by rw [Nat.sub_self]; exact it0⟩
end
section
variable {C : Cx} {ρ ρ₁ ρ₂ : List Addr} {σ σ' σ₁ σ₂ : Sto} {s s₁ s₂ : Shared} {A : Around} {h h' : Heap} {P : List Addr → Heap → Prop} {env cenv : Env} {e : En} {r : Rec} {n : Nat} {I D : Addr}
theorem iterOf_state {v : V} {x : List V × Option Nat} (h : iterOf v σ = some (x, σ')) : σ = σ' := (iterOf_is h).2
theorem tests_sound (S : Snd C r n) (hA : Room n A) : ∀ {ifs : List Expr} {b : Bool} {σ σ' : Sto} {s : Shared} {ρ : List Addr}, tests r e ifs σ = some (b, σ') → Frm C ρ e env s.heap → St C ρ σ s →
  wpAny (Mdl C) A (forIn ifs true fun c r => if r = true then do let ok ← isTrue c env (eval c env); pure (ForInStep.yield ok) else pure (ForInStep.yield r)) (fun t s' => Out C Nox ρ s.heap σ' (fun _ _ => t = b) s') NoE s
 | [], b, σ, σ', s, ρ, h, fm, st => by
  refine M.pureE h ?_
  exact wpAny_pure (Out.here' st rfl)
 | x :: xs, b, σ, σ', s, ρ, h, fm, st => by
  refine M.bindE h fun c σ₁ h1 h => ?_
  rw [List.forIn_cons]
  simp only [if_true]
  refine wpAny_bind (wpAny_bind (wpAny_mono (S.ts h1 hA fm st) (fun t s₁ o => ?_) fun _ _ x => x))
  obtain ⟨ρ₁, t₁, st₁, rfl⟩ := o
  refine wpAny_pure ?_
  split at h
  ·rename_i ht
   subst ht
   exact wpAny_mono (tests_sound S hA h (fm.step t₁) st₁) (fun _ _ o => Out.from t₁ st₁ o) fun _ _ x => x
  ·rename_i ht
   have ht : t = false := by simpa using ht
   subst ht
   refine M.pureE h ?_
   have stay : ∀ (l : List Expr), wpAny (Mdl C) A (forIn l false fun c r => if r = true then do let ok ← isTrue c env (eval c env); pure (ForInStep.yield ok) else pure (ForInStep.yield r)) (fun t s' => Out C Nox ρ s.heap σ₁ (fun _ _ => t = false) s') NoE s₁ := by
    intro l
    induction l with
    | nil => exact wpAny_pure (Out.from t₁ st₁ (Out.here' st₁ rfl))
    | cons y ys ih =>
     rw [List.forIn_cons]
     simp only [Bool.false_eq_true, if_false]
     exact wpAny_bind (wpAny_pure ih)
   exact stay xs
theorem compTurn_wp {elt : Expr} {gens gs : List Comprehension} {scope : Scope} {pos : Pos} {k : Nat} {it acc : Value} {tgt iter : Expr} {ifs : List Expr} {a : Int} {Q : PySem.Fin → Shared → Prop} (hg : gens.drop k = ⟨tgt, iter, ifs, a⟩ :: gs) (ha : a = 0)
  (h : wpAny (Mdl C) A (pyNext it) (fun r s₁ => match r with
   | none => Q (.done .next) s₁
   | some v => wpAny (Mdl C) A (letOwnedTupleGo tgt it v) (fun _ s₂ => wpAny (Mdl C) A (assign tgt env v) (fun _ s₃ =>
     wpAny (Mdl C) A (forIn ifs true fun c r => if r = true then do let ok ← isTrue c env (eval c env); pure (ForInStep.yield ok) else pure (ForInStep.yield r)) (fun ok s₄ =>
      if ok = true then (match gs with
       | [] => wpAny (Mdl C) A (eval elt env) (fun x s₅ => wpAny (Mdl C) A (call (.builtin "list.append") [acc, x]) (fun _ s₆ => Q (.again (.compLoop (.ListComp elt gens scope pos) k it acc env)) s₆) NoE s₅) NoE s₄
       | g' :: _ => g'.is_async = 0 ∧ wpAny (Mdl C) A (eval g'.iter env) (fun x s₅ => foldedSetIterable g'.iter env x = pure x ∧ wpAny (Mdl C) A (pyIter x) (fun it' s₆ =>
         codeAny (Mdl C) A (.compStart (.ListComp elt gens scope pos) (k + 1) it' acc env) (fun r s' => ∃ f, r = .ok f ∧ Q (.again (.compLoop (.ListComp elt gens scope pos) k it acc env)) s') s₆) NoE s₅) NoE s₄)
      else Q (.again (.compLoop (.ListComp elt gens scope pos) k it acc env)) s₄) NoE s₃) NoE s₂) NoE s₁) NoE s) :
  wpAny (Mdl C) A (compTurn (.ListComp elt gens scope pos) k it acc env) Q NoE s := by
 have ea : (a != 0) = false := by rw [ha]; rfl
 have h0 : gens[k]? = some ⟨tgt, iter, ifs, a⟩ := by
  have := congrArg (·[0]?) hg
  simpa using this
 have h1 : gens[k + 1]? = gs[0]? := by
  have := congrArg (·[1]?) hg
  simpa using this
 unfold compTurn
 simp only [h0, h1]
 refine wpAny_bind (wpAny_standAt ?_)
 simp only [ea, Bool.false_eq_true, if_false]
 refine wpAny_bind (wpAny_mono h (fun r s₁ h₁ => ?_) fun _ _ x => x)
 cases r with
 | none => exact wpAny_pure h₁
 | some v =>
  refine wpAny_bind (wpAny_mono h₁ (fun _ s₂ h₂ => ?_) fun _ _ x => x)
  refine wpAny_bind (wpAny_mono h₂ (fun _ s₃ h₃ => ?_) fun _ _ x => x)
  refine wpAny_bind (wpAny_mono h₃ (fun ok s₄ h₄ => ?_) fun _ _ x => x)
  cases ok with
  | false => exact wpAny_pure h₄
  | true =>
   simp only [if_true] at h₄ ⊢
   cases gs with
   | nil =>
    exact wpAny_bind (wpAny_bind (wpAny_mono h₄ (fun x s₅ h₅ => wpAny_bind (wpAny_mono h₅ (fun _ s₆ h₆ => wpAny_pure (wpAny_pure h₆)) fun _ _ x => x)) fun _ _ x => x))
   | cons g' gs' =>
    have hz : (g'.is_async != 0) = false := by rw [h₄.1]; rfl
    simp only [List.getElem?_cons_zero, hz, Bool.false_eq_true, if_false]
    refine wpAny_bind (wpAny_mono h₄.2 (fun x s₅ h₅ => ?_) fun _ _ x => x)
    obtain ⟨hf, h₅⟩ := h₅
    refine wpAny_bind (wpAny_standAt (wpAny_bind (wpAny_of_eq hf (wpAny_bind (wpAny_holding (wpAny_mono h₅ (fun it' s₆ h₆ => ?_) fun _ _ x => x))))))
    refine wpAny_bind (wpAny_runOwn (codeAny_mono h₆ fun r s' hr => ?_))
    obtain ⟨f, rfl, hq⟩ := hr
    exact wpAny_pure hq
end
section
variable {C : Cx} {ρ ρ₁ ρ₂ : List Addr} {σ σ' σ₁ σ₂ : Sto} {s s₁ s₂ : Shared} {A : Around} {h h' : Heap} {P : List Addr → Heap → Prop} {env cenv : Env} {e : En} {r : Rec} {n : Nat} {I D : Addr}
theorem PL.ne_iter {vs : List Value} {o : Obj} (p : PL h D vs) (ho : h.get? I = some o) (hi : IterObj o) : D ≠ I := fun q => by
 obtain ⟨n, p⟩ := p
 rw [q, ho] at p; cases p
 exact hi.1 (by simp [Solid])
theorem PL.not_own {vs : List Value} (p : PL h D vs) (f : Frm C ρ e env h) : ¬ Own e env D := fun q => by
 obtain ⟨n, p⟩ := p
 exact f.own_not_solid q p (by simp [Solid])
theorem PL.apart {vs : List Value} (p : PL h D vs) (f : Frm C ρ e env h) : D ≠ env.locals ∧ ∀ x c, env.cells.lookup x = some c → c ≠ D := by
 obtain ⟨n, p⟩ := p
 refine ⟨fun q => ?_, fun x c hc q => ?_⟩
 ·obtain ⟨m, ns, _⟩ := f.loc
  exact not_solid_ns ns (q ▸ p) (by simp [Solid])
 ·obtain ⟨c', ov, hc', hi, _⟩ := f.cel x (f.boxed x c hc)
  rw [hc] at hc'; cases hc'
  exact not_solid_cell hi (q ▸ p) (by simp [Solid])
theorem ItAt.not_own {v : V} {all : List V} {k : Nat} (it : ItAt C ρ h I v all k) (f : Frm C ρ₁ e env h) : ¬ Own e env I := fun q => by
 obtain ⟨o, ho, hi⟩ := it.obj
 rcases q with q | ⟨z, _, q⟩
 ·exact (f.notIter ho hi).1 q
 ·exact (f.notIter ho hi).2 z I q rfl
theorem PL.keep {vs : List Value} {X : Addr → Prop} (p : PL h D vs) (t : Tr X ρ ρ₁ h h') (hX : ¬ X D) (hD : D ∉ ρ) : PL h' D vs := let ⟨n, e⟩ := p; ⟨n, t.keep D _ hX hD e⟩
theorem folded_quiet (S : Snd C r n) {x : Expr} {v : V} (h : r.ev e x σ = some (v, σ')) (env : Env) (u : Value) : foldedSetIterable x env u = pure u := by
 cases x <;> first | rfl | (rw [S.set] at h; cases h)
structure CSt (C : Cx) (ρ₀ : List Addr) (h₀ : Heap) (e : En) (cenv : Env) (I D : Addr) (itv : V) (all : List V) (k : Nat) (ρ : List Addr) (σ : Sto) (vars : Vars) (acc : List V) (s : Shared) : Prop where
 fm : Frm C ρ ⟨e.names, vars⟩ cenv s.heap
 st : St C ρ σ s
 tr : Tr (OwnID e cenv I D) ρ₀ ρ h₀ s.heap
 it : ItAt C ρ s.heap I itv all k
 hD : D ∉ ρ
 ex : ∃ vs, PL s.heap D vs ∧ Rs C ρ s.heap acc vs
section
variable {ρ₀ : List Addr} {h₀ : Heap} {itv : V} {all : List V} {k : Nat} {vars vars' : Vars} {acc : List V}
theorem PL.alive {vs : List Value} (p : PL h D vs) : ∃ o, h.get? D = some o := let ⟨_, e⟩ := p; ⟨_, e⟩
theorem CSt.trans {h₂ : Heap} (c : CSt C ρ₀ h₀ e cenv I D itv all k ρ σ vars acc s) (t : Tr (OwnID e cenv I D) ρ ρ₂ s.heap h₂) : Tr (OwnID e cenv I D) ρ₀ ρ₂ h₀ h₂ := by
 obtain ⟨fm, st, tr, it, hD, vs, p, q⟩ := c
 obtain ⟨o, ho, hi⟩ := it.obj
 exact tr.trans t (fun b hb => hb.elim (fun q => fm.own_alive q) fun q => q.elim (fun q => q ▸ ⟨o, ho⟩) fun q => q ▸ p.alive) (st.aliveOf tr)
theorem CSt.own (c : CSt C ρ₀ h₀ e cenv I D itv all k ρ σ vars acc s) (t : Tr (Own e cenv) ρ ρ₁ s.heap s₁.heap) (st' : St C ρ₁ σ₁ s₁) (fm' : Frm C ρ₁ ⟨e.names, vars'⟩ cenv s₁.heap) : CSt C ρ₀ h₀ e cenv I D itv all k ρ₁ σ₁ vars' acc s₁ := by
 have tr' := c.trans (t.weak fun _ q => .inl q)
 obtain ⟨fm, st, tr, it, hD, ws, p, q⟩ := c
 have t : Tr (Own ⟨e.names, vars⟩ cenv) ρ ρ₁ s.heap s₁.heap := t
 obtain ⟨o, ho, hi⟩ := it.obj
 obtain ⟨o', ho'⟩ := p.alive
 exact ⟨fm', st', tr', it.mono (fm.growOwn t) (t.keepI fm st ho hi), notIn_grow t.grow hD ho', ws, p.keep t (fun q => p.not_own fm q) hD, q.mono (fm.growOwn t)⟩
theorem CSt.nox (c : CSt C ρ₀ h₀ e cenv I D itv all k ρ σ vars acc s) (t : Tr Nox ρ ρ₁ s.heap s₁.heap) (st' : St C ρ₁ σ₁ s₁) : CSt C ρ₀ h₀ e cenv I D itv all k ρ₁ σ₁ vars acc s₁ := c.own t.toOwn st' (c.fm.step t)
theorem CSt.iter {k' t : Nat} (c : CSt C ρ₀ h₀ e cenv I D itv all k ρ σ vars acc s) (h0I : C.h₀.get? I = none) (hidI : ¬ C.hid I) (hk : ∀ b o, b ≠ I → s.heap.get? b = some o → h'.get? b = some o) (it' : ItAt C ρ h' I itv all k') :
  CSt C ρ₀ h₀ e cenv I D itv all k' ρ σ vars acc { s with heap := h', toks := t } := by
 have tr' := c.trans (Tr.iterStep (.inr (.inl rfl)) hk)
 obtain ⟨fm, st, tr, it, hD, vs, ⟨n, p⟩, q⟩ := c
 obtain ⟨o, ho, hi⟩ := it.obj
 exact ⟨fm.iter ho hi hk, st.iter ho hi h0I hidI hk, tr', it', hD, vs, ⟨n, hk D _ (PL.ne_iter ⟨n, p⟩ ho hi) p⟩, q.mono (Grow.iter ho hi hk)⟩
theorem CSt.put {vs' : List Value} {acc' : List V} (c : CSt C ρ₀ h₀ e cenv I D itv all k ρ σ vars acc s) (hidD : C.hid D) (h0D : C.h₀.get? D = none) (hk : ∀ b o, b ≠ D → s.heap.get? b = some o → h'.get? b = some o) (p' : PL h' D vs') (q' : Rs C ρ s.heap acc' vs') :
  CSt C ρ₀ h₀ e cenv I D itv all k ρ σ vars acc' { s with heap := h' } := by
 have tr' := c.trans (Tr.iterStep (.inr (.inr rfl)) hk)
 obtain ⟨fm, st, tr, it, hD, vs, p, q⟩ := c
 obtain ⟨o, ho, hi⟩ := it.obj
 have g : Grow C ρ ρ s.heap h' := Grow.sameBut hk fun _ q _ => (q hidD).elim
 exact ⟨fm.sameBut hk g (p.apart fm).1 (p.apart fm).2, ⟨st.rel.sameBut hk hD (fun _ q _ => (q hidD).elim) h0D fun _ => p'.alive, st.gens, st.os⟩, tr', it.mono g (fun o e => hk I o (fun q => p.ne_iter ho hi q.symm) e), hD, vs', p', q'.mono g⟩
noncomputable def CInv (C : Cx) (r : Rec) (e : En) (cenv : Env) (elt tgt : Expr) (ifs : List Expr) (gs : List Comprehension) (itv : V) (all : List V) (I D : Addr) (ρ₀ : List Addr) (h₀ : Heap) (res : (Vars × List V) × Sto) (k : Nat) (s : Shared) : Prop :=
 Ex4 fun vars acc σ ρ => k ≤ all.length ∧ compItems r e.names elt tgt ifs gs (chkOf itv) all (all.drop (all.length - k)) vars acc σ = some res ∧ CSt C ρ₀ h₀ e cenv I D itv all (all.length - k) ρ σ vars acc s
end
theorem comp_turn (S : Snd C r n) (hA : Room n A) {elt : Expr} {gens gs : List Comprehension} {scope : Scope} {pos : Pos} {k₀ : Nat} {tgt iter : Expr} {ifs : List Expr} {a : Int} {itv : V} {all : List V}
  (hg : gens.drop k₀ = ⟨tgt, iter, ifs, a⟩ :: gs) (ha : a = 0) (h0I : C.h₀.get? I = none) (hidI : ¬ C.hid I) (hidD : C.hid D) (h0D : C.h₀.get? D = none)
  {vars vars' : Vars} {acc acc' : List V} {ρ₀ : List Addr} {h₀ : Heap} {k : Nat} {Q : PySem.Fin → Shared → Prop} (hk : k ≤ all.length)
  (h : compItems r e.names elt tgt ifs gs (chkOf itv) all (all.drop (all.length - k)) vars acc σ = some ((vars', acc'), σ')) (c : CSt C ρ₀ h₀ e cenv I D itv all (all.length - k) ρ σ vars acc s)
  (hZ : ∀ m s', m < k → CInv C r e cenv elt tgt ifs gs itv all I D ρ₀ h₀ ((vars', acc'), σ') m s' → Q (.again (.compLoop (.ListComp elt gens scope pos) k₀ (.ref I) (.ref D) cenv)) s') (hR : ∀ s', CompOut C ρ₀ e cenv I D h₀ σ' vars' acc' s' → Q (.done .next) s') :
  wpAny (Mdl C) A (compTurn (.ListComp elt gens scope pos) k₀ (.ref I) (.ref D) cenv) Q NoE s := by
 cases hd : all.drop (all.length - k) with
 | nil =>
  cases drop_nil_le hk hd
  rw [hd] at h
  refine M.bindE h fun _ σ₁ h1 h => ?_
  obtain ⟨e1, rfl⟩ := M.pure_iff.mp h
  cases e1
  obtain ⟨rfl, _⟩ := still_iff h1
  refine compTurn_wp hg ha (c.it.stop hA.handled c.st h1 (by simp) fun h' t hk' => ?_)
  obtain ⟨fm, st, tr, it, hD, vs, ⟨np, ep⟩, q⟩ := id c
  obtain ⟨o, ho, hi⟩ := it.obj
  exact hR _ ⟨ρ, vs, c.trans (Tr.iterStep (.inr (.inl rfl)) hk'), st.iter ho hi h0I hidI hk', fm.iter ho hi hk', ⟨np, hk' D _ (PL.ne_iter ⟨np, ep⟩ ho hi) ep⟩, q.mono (Grow.iter ho hi hk')⟩
 | cons x xs =>
  obtain ⟨hk0, hgx, hxs, ek⟩ := drop_cons_at hk hd
  rw [hd] at h
  refine M.bindE h fun _ σ₁ h1 h => M.bindE h fun vars₁ σ₂ h2 h => M.bindE h fun b σ₃ h3 h => ?_
  obtain ⟨rfl, _⟩ := still_iff h1
  refine compTurn_wp hg ha (c.it.next c.st h1 hgx fun y h' t hsb ry it' => ?_)
  have c := c.iter (t := t) h0I hidI (fun b o hb e => (hsb.2 b hb).trans e) it'
  refine owned_quiet (s := { s with heap := h', toks := t }) it' (wpAny_same (setTo_sound (s := { s with heap := h', toks := t }) S h2 hA c.fm c.st ry) fun _ s₂ o2 => ?_)
  obtain ⟨ρ₂, t₂, st₂, fm₂⟩ := o2
  have c := c.own (s₁ := s₂) t₂ st₂ fm₂
  refine wpAny_same (tests_sound S hA h3 fm₂ st₂) fun ok s₃ o3 => ?_
  obtain ⟨ρ₃, t₃, st₃, rfl⟩ := o3
  have c := c.nox t₃ st₃
  clear t₃ st₃ t₂ st₂ fm₂ it' ry hsb
  refine M.ite2 h (fun hb h => ?_) fun hb h => ?_
  ·rw [if_pos hb]
   cases gs with
   | nil =>
    refine M.bindE h fun v σ₄ h4 h => M.iteE h fun hlen h => ev_then (S.ev h4 hA c.fm c.st) c.fm fun u s₄ ρ₄ t₄ st₄ fm₄ r₄ _ => ?_
    have c := c.nox t₄ st₄
    obtain ⟨vs, p, q⟩ := c.ex
    refine wpAny_list_append_plain p (fun h₅ p₅ hsb => ?_) (by rw [List.size_toArray, q.length, sizeLine_eq]; lia)
    obtain ⟨n5, e5⟩ := p₅
    exact hZ (k - 1) _ (Nat.sub_one_lt (Nat.ne_of_gt hk0)) ⟨vars₁, acc ++ [v], σ₄, ρ₄, Nat.le_trans (Nat.sub_le ..) hk, hxs ▸ h, ek ▸ c.put hidD h0D (fun b o hb e => (hsb.2 b hb).trans e) (vs' := vs ++ [u]) ⟨n5, by rw [e5]; simp⟩ (q.append (Rs.one r₄))⟩
   | cons g' gs' =>
    refine M.iteE h fun hz h => M.bindE h fun it1 σ₄ h4 h => M.bindE2 h fun all1 chk1 σ₅ h5 h => M.bindE2 h fun vars₂ acc₂ σ₆ h6 h7 => ?_
    cases iterOf_state h5
    refine ⟨beq_iff_eq.mp hz, ev_then (S.ev h4 hA c.fm c.st) c.fm fun u s₄ ρ₄ t₄ st₄ fm₄ r₄ _ => ⟨folded_quiet S h4 _ _, iter_start h5 st₄ r₄ fun _ oN hfree itN => ?_⟩⟩
    have c := c.nox t₄ st₄
    have hkN := push_keeps s₄.heap oN
    have hIN := Heap.get?_size s₄.heap
    have gN : Grow C ρ₄ ρ₄ s₄.heap (s₄.heap.push oN) := Grow.ofKeeps hkN
    obtain ⟨fm, st, tr, it, hD, vs, p, q⟩ := id c
    obtain ⟨o4, ho4, hi4⟩ := it.obj
    have fmN := fm.step (Tr.ofKeeps hkN)
    have stN := st.push oN
    have itI : ItAt C ρ₄ (s₄.heap.push oN) I itv all (all.length - k + 1) := it.mono gN fun o e => hkN I o e
    have hdrop : gens.drop (k₀ + 1) = g' :: gs' := by
     have := congrArg List.tail hg
     simpa using this
    refine codeAny_mono (S.comp (s := { s₄ with heap := s₄.heap.push oN }) h6 hA hdrop fmN stN h5 itN (st.h0none hIN) (st.offNew hIN).2 (p.push oN) (q.mono gN) hidD hD h0D) fun rr s' hr => ?_
    obtain ⟨f, rfl, ρ₅, us, t₅, st₅, fm₅, p₅, q₅⟩ := hr
    obtain ⟨oD, hoD⟩ := (p.push oN).alive
    refine ⟨f, rfl, hZ (k - 1) _ (Nat.sub_one_lt (Nat.ne_of_gt hk0)) ⟨vars₂, acc₂, σ₆, ρ₅, Nat.le_trans (Nat.sub_le ..) hk, hxs ▸ h7, fm₅, st₅, c.trans ⟨t₅.grow.imp fun new hnew => ⟨hnew.1, fun a hm => ?_⟩, fun b o hb hbρ eb => t₅.keep b o (fun q => ?_) hbρ (hkN b o eb)⟩, ?_, notIn_grow t₅.grow hD hoD, us, p₅, q₅⟩⟩
    ·cases e1 : s₄.heap.get? a with
     | none => rfl
     | some o => have := hnew.2 a hm; rw [hkN a o e1] at this; cases this
    ·rcases q with q | q | q
     ·exact hb (.inl q)
     ·rw [q, hIN] at eb; cases eb
     ·exact hb (.inr (.inr q))
    ·obtain ⟨oI, hoI, hiI⟩ := itI.obj
     refine ek ▸ itI.mono (t₅.toGrow fun b o hb hnh hob => ?_) fun o e => t₅.keep I o (fun q => ?_) (stN.notIter hoI hiI) e
     ·rcases hb with hb | hb | hb
      ·exact fmN.own_not_solid hb hob
      ·obtain ⟨oN', hoN', hiN'⟩ := itN.obj
       rw [hb] at hob
       rw [hoN'] at hob; cases hob
       exact hiN'.1
      ·exact (hnh (hb ▸ hidD)).elim
     ·rcases q with q | q | q
      ·exact itI.not_own fmN q
      ·rw [q, hIN] at ho4; cases ho4
      ·exact p.ne_iter ho4 hi4 q.symm
  ·rw [if_neg hb]
   exact hZ (k - 1) _ (Nat.sub_one_lt (Nat.ne_of_gt hk0)) ⟨vars₁, acc, σ₃, ρ₃, Nat.le_trans (Nat.sub_le ..) hk, hxs ▸ h, ek ▸ c⟩
theorem compLoop_sound (S : Snd C r n) (hA : Room n A) {elt : Expr} {gens gs : List Comprehension} {scope : Scope} {pos : Pos} {k₀ : Nat} {tgt iter : Expr} {ifs : List Expr} {a : Int} {itv : V} {all : List V}
  (hg : gens.drop k₀ = ⟨tgt, iter, ifs, a⟩ :: gs) (ha : a = 0) (h0I : C.h₀.get? I = none) (hidI : ¬ C.hid I) (hidD : C.hid D) (h0D : C.h₀.get? D = none)
  {vars₀ vars' : Vars} {acc₀ acc' : List V} {σ₀ : Sto} {s₀ : Shared} {ρ₀ : List Addr}
  (h : compItems r e.names elt tgt ifs gs (chkOf itv) all all vars₀ acc₀ σ₀ = some ((vars', acc'), σ')) (c0 : CSt C ρ₀ s₀.heap e cenv I D itv all 0 ρ₀ σ₀ vars₀ acc₀ s₀) :
  codeAny (Mdl C) A (.compLoop (.ListComp elt gens scope pos) k₀ (.ref I) (.ref D) cenv) (fun x s' => ∃ f, x = .ok f ∧ CompOut C ρ₀ e cenv I D s₀.heap σ' vars' acc' s') s₀ := by
 refine codeAny_loop rfl (CInv C r e cenv elt tgt ifs gs itv all I D ρ₀ s₀.heap ((vars', acc'), σ')) (fun k s hI => ?_) all.length
  ⟨vars₀, acc₀, σ₀, ρ₀, Nat.le_refl _, by rw [Nat.sub_self, List.drop_zero]; exact h, by rw [Nat.sub_self]; exact c0⟩
 obtain ⟨vars, acc, σ, ρ, hk, h, c⟩ := hI
 exact wpAny_noted (wpAny_noE (comp_turn S hA hg ha h0I hidI hidD h0D hk h c (fun m s' h1 h2 => ⟨rfl, m, h1, h2⟩) fun s' o => ⟨_, rfl, o⟩))
theorem compStart_sound (S : Snd C r n) (hA : Room n A) {elt : Expr} {gens gs : List Comprehension} {scope : Scope} {pos : Pos} {k : Nat} {itv : V} {all : List V} {chk : Option Nat} {vars vars' : Vars} {acc acc' : List V} {vs : List Value}
  (h : compStep r e elt gs [itv] vars acc σ = some ((vars', acc'), σ')) (hg : gens.drop k = gs) (fm : Frm C ρ ⟨e.names, vars⟩ cenv s.heap) (st : St C ρ σ s) (hi : iterOf itv σ = some ((all, chk), σ)) (it : ItAt C ρ s.heap I itv all 0)
  (h0I : C.h₀.get? I = none) (hidI : ¬ C.hid I) (p : PL s.heap D vs) (q : Rs C ρ s.heap acc vs) (hidD : C.hid D) (hD : D ∉ ρ) (h0D : C.h₀.get? D = none) :
  codeAny (Mdl C) A (.compStart (.ListComp elt gens scope pos) k (.ref I) (.ref D) cenv) (fun r s' => ∃ f, r = .ok f ∧ CompOut C ρ e cenv I D s.heap σ' vars' acc' s') s := by
 cases gs with
 | nil => exact M.failE h
 | cons g gs' =>
   obtain ⟨tgt, iter, ifs, a⟩ := g
   refine M.iteE h fun ha h => M.bindE2 h fun xs chk' σ₁ h1 h => ?_
   have ha : a = 0 := beq_iff_eq.mp ha
   rw [hi] at h1; cases h1
   have hc := iterOf_chk hi
   subst hc
   have go := compLoop_sound S hA (elt := elt) (scope := scope) (pos := pos) hg ha h0I hidI hidD h0D h ⟨fm, st, Tr.refl _ _ _, it, hD, vs, p, q⟩
   have hgk : gens[k]? = some ⟨tgt, iter, ifs, a⟩ := by
    have := congrArg (·[0]?) hg
    simpa using this
   have hz : (a != 0) = false := by rw [ha]; rfl
   refine codeAny_of_tree ?_
   show wpAny _ _ ((compStart (.ListComp elt gens scope pos) k (.ref I) (.ref D) cenv).onRaise (fun x => do noteFrame x cenv; standAt theWindowsPlace)) _ _ s
   refine wpAny_notedAt (wpAny_noE ?_)
   unfold compStart
   show wpAny (Mdl C) A (if ((clausesOf (.ListComp elt gens scope pos))[k]?).elim false (fun x => x.is_async != 0) = true then _ else _) _ _ _
   have hcl : clausesOf (.ListComp elt gens scope pos) = gens := rfl
   rw [hcl, hgk]
   simp only [Option.elim_some, hz, Bool.false_eq_true, if_false]
   show wpAny _ _ (ask >>= _) _ _ s
   refine wpAny_bind (wpAny_askSetting (wpAny_ite ?_))
   split
   ·first
     | exact wpAny_bind (wpAny_pure (wpAny_pure (And.intro rfl go)))
     | exact wpAny_pure (And.intro rfl go)
   ·refine wpAny_bind (wpAny_rule ?_)
    refine wpAny_bind (wpAny_standAt ?_)
    exact wpAny_bind (it.again (wpAny_pure ⟨rfl, go⟩))
end
section
variable {C : Cx} {ρ ρ₁ ρ₂ : List Addr} {σ σ' σ₁ σ₂ : Sto} {s s₁ s₂ : Shared} {A : Around} {h h' : Heap} {env cenv : Env} {e : En} {r : Rec} {n : Nat} {I D L : Addr}
theorem cellsFrom_app : ∀ (names : List (Str × NameKind)) (k : Nat) (acc : List (Str × Addr)), cellsFrom k names acc = cellsFrom k names [] ++ acc
 | [], _, _ => rfl
 | (x, kd) :: r, k, acc => by
  unfold cellsFrom
  split
  ·rw [cellsFrom_app r (k + 1) ((x, k) :: acc), cellsFrom_app r (k + 1) [(x, k)], List.append_assoc]; rfl
  ·exact cellsFrom_app r k acc
theorem cellsFrom_mem : ∀ (names : List (Str × NameKind)) (k : Nat) {x : Str} {c : Addr}, (x, c) ∈ cellsFrom k names [] → (x, NameKind.cell) ∈ names
 | [], _, _, _, h => by simp [cellsFrom] at h
 | (y, kd) :: r, k, x, c, h => by
  unfold cellsFrom at h
  split at h
  ·rename_i hk
   rw [cellsFrom_app] at h
   rcases List.mem_append.mp h with h | h
   ·exact List.mem_cons_of_mem _ (cellsFrom_mem r _ h)
   ·simp at h
    have hk : kd = .cell := beq_iff_eq.mp hk
    rw [h.1, ← hk]; exact List.mem_cons_self
  ·exact List.mem_cons_of_mem _ (cellsFrom_mem r _ h)
theorem cellsFrom_has : ∀ (names : List (Str × NameKind)) (k : Nat) {x : Str}, (x, NameKind.cell) ∈ names → ∃ c, (x, c) ∈ cellsFrom k names []
 | [], _, _, h => by simp at h
 | (y, kd) :: r, k, x, h => by
  unfold cellsFrom
  rcases List.mem_cons.mp h with h | h
  ·cases h
   simp only [beq_self_eq_true, if_true]
   rw [cellsFrom_app]
   exact ⟨k, List.mem_append_right _ (by simp)⟩
  ·split
   ·rw [cellsFrom_app]
    obtain ⟨c, hc⟩ := cellsFrom_has r (k + 1) h
    exact ⟨c, List.mem_append_left _ hc⟩
   ·exact cellsFrom_has r k h
theorem lookup_of_mem {α : Type} : ∀ {l : List (Str × α)} {x : Str} {c : α}, (x, c) ∈ l → ∃ d, l.lookup x = some d
 | (y, d) :: r, x, c, h => by
  rw [List.lookup_cons]
  cases hb : x == y with
  | true => exact ⟨d, rfl⟩
  | false =>
   rcases List.mem_cons.mp h with h | h
   ·cases h; simp at hb
   ·exact lookup_of_mem h
theorem lookup_append {α : Type} {l m : List (Str × α)} {x : Str} : (l ++ m).lookup x = (l.lookup x).or (m.lookup x) := by
 induction l with
 | nil => simp
 | cons p l ih =>
  obtain ⟨y, d⟩ := p
  rw [List.cons_append, List.lookup_cons, List.lookup_cons]
  cases x == y <;> simp [ih]
theorem nodup_iff : ∀ {l : List Str}, nodup l = true ↔ l.Nodup
 | [] => by simp [nodup]
 | x :: l => by simp [nodup, nodup_iff (l := l)]
theorem lookup_nodup {α : Type} : ∀ {l : List (Str × α)} {x : Str} {k : α}, (l.map (·.1)).Nodup → (x, k) ∈ l → l.lookup x = some k
 | (y, d) :: r, x, k, hn, h => by
  rw [List.lookup_cons]
  obtain ⟨h1, h2⟩ := List.nodup_cons.mp hn
  rcases List.mem_cons.mp h with h | h
  ·cases h; simp
  ·have : (x == y) = false := by
    simp only [beq_eq_false_iff_ne, ne_eq]
    intro q
    exact h1 (List.mem_map.mpr ⟨_, h, q⟩)
   rw [this]
   exact lookup_nodup h2 h
theorem lookup_filter {α : Type} (p : Str → Bool) : ∀ (l : List (Str × α)) (x : Str), (l.filter fun q => p q.1).lookup x = if p x then l.lookup x else none
 | [], x => by simp
 | (y, d) :: r, x => by
  rw [List.filter_cons, List.lookup_cons]
  cases hb : x == y with
  | true =>
   have : x = y := beq_iff_eq.mp hb
   subst this
   cases hp : p x with
   | true => simp [List.lookup_cons]
   | false => simp [lookup_filter p r x, hp]
  | false =>
   split
   ·rw [List.lookup_cons, hb]; exact lookup_filter p r x
   ·exact lookup_filter p r x
theorem compVars_lookup (e : En) (sc : Scope) (x : Str) : (compVars e sc).lookup x = if (sc.names.lookup x == some .free) = true then e.vars.lookup x else none := lookup_filter (fun y => sc.names.lookup y == some .free) e.vars x
theorem relabel_lookup {env : Env} : ∀ (names : List (Str × NameKind)) (x : Str),
  (names.map fun (n, k) => if (k == NameKind.free && env.scope.kind == .function && env.kindOf n == some .cell) then (n, NameKind.cell) else (n, k)).lookup x =
   (names.lookup x).map fun k => if (k == NameKind.free && env.scope.kind == .function && env.kindOf x == some .cell) then NameKind.cell else k
 | [], x => rfl
 | (y, k) :: r, x => by
  have ih := relabel_lookup (env := env) r x
  rw [List.map_cons]
  show List.lookup x ((if (k == NameKind.free && env.scope.kind == .function && env.kindOf y == some .cell) = true then (y, NameKind.cell) else (y, k)) :: _) = _
  rw [List.lookup_cons (as := r)]
  by_cases hc : (k == NameKind.free && env.scope.kind == .function && env.kindOf y == some .cell) = true
  ·rw [if_pos hc, List.lookup_cons]
   cases hb : x == y with
   | true => have : x = y := beq_iff_eq.mp hb; subst this; simp only [Option.map_some, hc, if_true]
   | false => exact ih
  ·rw [if_neg hc, List.lookup_cons]
   cases hb : x == y with
   | true => have : x = y := beq_iff_eq.mp hb; subst this; simp only [Option.map_some, hc]; rfl
   | false => exact ih
noncomputable def closL (env : Env) : List (Str × NameKind) → List (Str × Addr) → List (Str × Addr)
 | [], acc => acc
 | (x, k) :: r, acc => if k == .free then closL env r ((x, (env.cells.lookup x).getD 0) :: acc) else closL env r acc
theorem closL_mem (env : Env) : ∀ (names : List (Str × NameKind)) (acc : List (Str × Addr)) (p : Str × Addr), p ∈ closL env names acc ↔ p ∈ acc ∨ ((p.1, NameKind.free) ∈ names ∧ p.2 = (env.cells.lookup p.1).getD 0)
 | [], acc, p => by simp [closL]
 | (x, k) :: r, acc, p => by
  unfold closL
  split
  ·rename_i hk
   have hk : k = .free := beq_iff_eq.mp hk
   subst hk
   rw [closL_mem env r]
   obtain ⟨y, c⟩ := p
   simp only [List.mem_cons, Prod.mk.injEq, and_true]
   constructor
   ·rintro ((⟨rfl, rfl⟩ | h) | h)
    ·exact .inr ⟨.inl rfl, rfl⟩
    ·exact .inl h
    ·exact .inr ⟨.inr h.1, h.2⟩
   ·rintro (h | ⟨rfl | h, h2⟩)
    ·exact .inl (.inr h)
    ·exact .inl (.inl ⟨rfl, h2⟩)
    ·exact .inr ⟨h, h2⟩
  ·rename_i hk
   rw [closL_mem env r]
   have : ∀ y, (y, NameKind.free) = (x, k) ↔ False := fun y => by
    simp only [iff_false, Prod.mk.injEq, not_and]
    rintro _ rfl; exact hk rfl
   simp only [List.mem_cons, this, false_or]
theorem closure_eq {sc : Scope} {env : Env} (h : ∀ x, (x, NameKind.free) ∈ sc.names → ∃ c, env.cells.lookup x = some c) : closureFor sc env = pure (closL env sc.names []) := by
 have key : ∀ (names : List (Str × NameKind)) (acc : List (Str × Addr)), (∀ x, (x, NameKind.free) ∈ names → ∃ c, env.cells.lookup x = some c) →
   (forIn names acc fun (p : Str × NameKind) cs => (if p.2 == .free then do let c ← cellOf env p.1; pure (ForInStep.yield ((p.1, c) :: cs)) else pure (ForInStep.yield cs) : Sem _)) = pure (closL env names acc) := by
  intro names
  induction names with
  | nil => intro acc _; rfl
  | cons p r ih =>
   intro acc hp
   obtain ⟨x, k⟩ := p
   rw [List.forIn_cons]
   unfold closL
   split
   ·rename_i hk
    have hk : k = .free := beq_iff_eq.mp hk
    subst hk
    obtain ⟨c, hc⟩ := hp x List.mem_cons_self
    simp only [cellOf, hc, Option.getD_some, pure_bind]
    exact ih _ fun y hy => hp y (List.mem_cons_of_mem _ hy)
   ·simp only [pure_bind]
    exact ih _ fun y hy => hp y (List.mem_cons_of_mem _ hy)
 unfold closureFor
 have := key sc.names [] h
 simpa using this
end
section
variable {C : Cx} {ρ ρ₁ ρ₂ : List Addr} {σ σ' σ₁ σ₂ : Sto} {s s₁ s₂ : Shared} {A : Around} {h h' : Heap} {env cenv : Env} {e : En} {r : Rec} {n : Nat} {I D L : Addr}
theorem freeOk_boxed {sc : Scope} {x : Str} (h : freeOk e sc = true) (hx : (x, NameKind.free) ∈ sc.names) : isBoxed (e.names.lookup x) := by
 have := List.all_eq_true.mp h _ hx
 simp only [bne_self_eq_false, Bool.false_or] at this
 cases q : e.names.lookup x with
 | none => rw [q] at this; exact nomatch this
 | some k => rw [q] at this; cases k <;> first | trivial | exact nomatch this
theorem comp_frm {sc : Scope} {L : Addr} {h₂ h₃ h₄ : Heap} (fm : Frm C ρ e env h₂) (hnd : noDup sc = true) (hkind : sc.kind = .function) (hfree : freeOk e sc = true)
  (h23 : ∀ b o, h₂.get? b = some o → h₃.get? b = some o) (hD : h₂.get? D = none) (hD3 : ∃ o, h₃.get? D = some o) (hL : h₃.get? L = none) (hLs : L = h₃.objs.size)
  (e4 : h₄ = pushCells (h₃.push { cls := .type "dict", data := .dict #[] }) sc.names) (hρ : ∀ a, h₃.get? a = none → a ∉ ρ ∧ C.h₀.get? a = none ∧ ¬ C.hid a) :
  closureFor sc env = pure (closL env sc.names []) ∧
  Frm (C.hide D) ρ ⟨sc.names, compVars e sc⟩ { newEnv sc L env.globals (cellsFrom (L + 1) sc.names (closL env sc.names [])) env.qual none .none (some env) builtinsNs with scope := relabel sc env } h₄ := by
 have hnd' : (sc.names.map (·.1)).Nodup := nodup_iff.mp hnd
 have hcl : ∀ x, (x, NameKind.free) ∈ sc.names → ∃ c, env.cells.lookup x = some c := fun x hx => by
  obtain ⟨c, _, hc, _⟩ := fm.cel x (freeOk_boxed hfree hx)
  exact ⟨c, hc⟩
 refine ⟨closure_eq hcl, ?_⟩
 have k34 : ∀ b o, h₃.get? b = some o → h₄.get? b = some o := fun b o eb => by
  rw [e4]; exact pushCells_keeps _ _ b o (push_keeps _ _ b o eb)
 have k24 : ∀ b o, h₂.get? b = some o → h₄.get? b = some o := fun b o eb => k34 b o (h23 b o eb)
 have g : Grow (C.hide D) ρ ρ h₂ h₄ := Grow.ofKeeps k24
 have ok := cellsFrom_ok sc.names (h₃.push { cls := .type "dict", data := .dict #[] }) (L + 1) [] ⟨fun _ _ hm => (nomatch hm), List.Pairwise.nil⟩ (by rw [Heap.size_push, hLs]; exact Nat.le_refl _)
 rw [Heap.size_push, ← hLs, ← e4] at ok
 have cells : ∀ x, (cellsFrom (L + 1) sc.names (closL env sc.names [])).lookup x = ((cellsFrom (L + 1) sc.names []).lookup x).or ((closL env sc.names []).lookup x) := fun x => by rw [cellsFrom_app, lookup_append]
 have own : ∀ x c, (cellsFrom (L + 1) sc.names []).lookup x = some c → sc.names.lookup x = some .cell ∧ h₄.IsCell c none ∧ L + 1 ≤ c := fun x c hc => by
  have hm := mem_of_lookup hc
  exact ⟨lookup_nodup hnd' (cellsFrom_mem _ _ hm), ok.empty _ _ hm⟩
 have clo : ∀ x c, (closL env sc.names []).lookup x = some c → sc.names.lookup x = some .free ∧ env.cells.lookup x = some c := fun x c hc => by
  have hm := (closL_mem env sc.names [] _).mp (mem_of_lookup hc)
  rcases hm with hm | ⟨hm, hv⟩
  ·exact nomatch hm
  ·refine ⟨lookup_nodup hnd' hm, ?_⟩
   obtain ⟨d, hd⟩ := hcl x hm
   rw [hd] at hv ⊢
   simp only [Option.getD_some] at hv
   rw [hv]
 have new : ∀ c, L + 1 ≤ c → h₃.get? c = none := fun c hc => Heap.get?_none_of_le (hLs ▸ Nat.le_of_succ_le hc)
 have newL : h₃.get? L = none := hL
 have old : ∀ x c, env.cells.lookup x = some c → ∃ o, h₂.get? c = some o := fun x c hc => fm.aliveC hc
 have split : ∀ x c, (cellsFrom (L + 1) sc.names (closL env sc.names [])).lookup x = some c →
   (sc.names.lookup x = some .cell ∧ h₄.IsCell c none ∧ L + 1 ≤ c ∧ (cellsFrom (L + 1) sc.names []).lookup x = some c) ∨ (sc.names.lookup x = some .free ∧ env.cells.lookup x = some c) := fun x c hc => by
  rw [cells x] at hc
  cases h1 : (cellsFrom (L + 1) sc.names []).lookup x with
  | some d => rw [h1] at hc; simp at hc; subst hc; have := own x d h1; exact .inl ⟨this.1, this.2.1, this.2.2, rfl⟩
  | none => rw [h1] at hc; simp at hc; exact .inr (clo x c hc)
 refine ⟨hkind, fm.glob, fm.blt, fun x => ?_, ⟨fun _ => none, ?_, fun x hx => ?_⟩, fun x hx => ?_, fun x c hc => ?_, fun x y c hx hy => ?_, fun x c hc => ?_, (hρ L newL).1, fun x c hc => ?_, (hρ L newL).2.1, fun x c hc => ?_, ?_, fun x c hc => ?_⟩
 ·show KindOk (sc.names.lookup x) ((relabel sc env).names.lookup x)
  unfold relabel
  rw [relabel_lookup]
  cases hk : sc.names.lookup x with
  | none => trivial
  | some k =>
   cases k with
   | «local» => rfl
   | cell => rfl
   | free =>
    simp only [Option.map_some, KindOk]
    split <;> simp
   | globalImplicit => rfl
   | globalExplicit => trivial
 ·have hn := Heap.Ns.new h₃ (.type "dict")
  rw [← hLs] at hn
  rw [e4]
  exact hn.keeps (pushCells_keeps _ _)
 ·have hx : sc.names.lookup x = some .local := hx
  show RO (C.hide D) ρ h₄ ((compVars e sc).lookup x) none
  rw [compVars_lookup, hx]
  rfl
 ·show Ex2 fun c ov => (cellsFrom (L + 1) sc.names (closL env sc.names [])).lookup x = some c ∧ h₄.IsCell c ov ∧ RO (C.hide D) ρ h₄ ((compVars e sc).lookup x) ov
  have hx : isBoxed (sc.names.lookup x) := hx
  rw [compVars_lookup, cells x]
  cases hk : sc.names.lookup x with
  | none => rw [hk] at hx; exact hx.elim
  | some k =>
   rw [hk] at hx
   cases k with
   | cell =>
    obtain ⟨c, hc⟩ := cellsFrom_has sc.names (L + 1) (mem_of_lookup hk)
    obtain ⟨d, hd⟩ := lookup_of_mem hc
    rw [hd]
    exact ⟨d, none, rfl, (own x d hd).2.1, rfl⟩
   | free =>
    have h1 : (cellsFrom (L + 1) sc.names []).lookup x = none := by
     cases h1 : (cellsFrom (L + 1) sc.names []).lookup x with
     | none => rfl
     | some d => have := (own x d h1).1; rw [hk] at this; cases this
    obtain ⟨c, hc⟩ := hcl x (mem_of_lookup hk)
    have hm : (x, c) ∈ closL env sc.names [] := (closL_mem env _ _ _).mpr (.inr ⟨mem_of_lookup hk, by rw [hc]; rfl⟩)
    obtain ⟨d, hd⟩ := lookup_of_mem hm
    have := (clo x d hd).2
    rw [hc] at this; cases this
    rw [h1, hd]
    obtain ⟨c', ov, hc', ⟨o, ho, hdt⟩, hr⟩ := fm.cel x (fm.boxed x c hc)
    rw [hc] at hc'; cases hc'
    refine ⟨c, ov, rfl, ⟨o, k24 c o ho, hdt⟩, ?_⟩
    simp only [beq_self_eq_true, if_true]
    have : RO (C.hide D) ρ h₂ (e.vars.lookup x) ov := by
     cases hv : e.vars.lookup x with
     | none => rw [hv] at hr; exact hr
     | some v => rw [hv] at hr; obtain ⟨u, rfl, hu⟩ := hr; exact ⟨u, rfl, hu.hide hD⟩
    exact this.mono g
   | _ => exact hx.elim
 ·show isBoxed (sc.names.lookup x)
  rcases split x c hc with h1 | h1
  ·rw [h1.1]; trivial
  ·rw [h1.1]; trivial
 ·rcases split x c hx with ⟨_, _, h1, h2⟩ | ⟨_, h1⟩ <;> rcases split y c hy with ⟨_, _, h3, h4⟩ | ⟨_, h3⟩
  ·exact name_of_addr ok.apart (mem_of_lookup h2) (mem_of_lookup h4)
  ·obtain ⟨o, ho⟩ := old y c h3
   have := new c h1; rw [h23 c o ho] at this; cases this
  ·obtain ⟨o, ho⟩ := old x c h1
   have := new c h3; rw [h23 c o ho] at this; cases this
  ·exact fm.apart x y c h1 h3
 ·show c ≠ L
  rcases split x c hc with ⟨_, _, h1, h2⟩ | ⟨_, h1⟩
  ·exact Nat.ne_of_gt h1
  ·intro q
   obtain ⟨o, ho⟩ := old x c h1
   rw [q] at ho; have := h23 L o ho; rw [newL] at this; cases this
 ·rcases split x c hc with ⟨_, _, h1, h2⟩ | ⟨_, h1⟩
  ·exact (hρ c (new c h1)).1
  ·exact fm.offC x c h1
 ·rcases split x c hc with ⟨_, _, h1, h2⟩ | ⟨_, h1⟩
  ·exact (hρ c (new c h1)).2.1
  ·exact fm.newC x c h1
 ·show ¬ (C.hid L ∨ L = D)
  rintro (q | q)
  ·exact (hρ L newL).2.2 q
  ·obtain ⟨o, ho⟩ := hD3; rw [← q, newL] at ho; cases ho
 ·show ¬ (C.hid c ∨ c = D)
  rcases split x c hc with ⟨_, _, h1, h2⟩ | ⟨_, h1⟩
  ·rintro (q | q)
   ·exact (hρ c (new c h1)).2.2 q
   ·obtain ⟨o, ho⟩ := hD3; rw [← q, new c h1] at ho; cases ho
  ·rintro (q | q)
   ·exact fm.hidC x c h1 q
   ·obtain ⟨o, ho⟩ := old x c h1; rw [q, hD] at ho; cases ho
structure CompEnd (C : Cx) (ρ : List Addr) (h : Heap) (σ' : Sto) (acc : List V) (D L : Addr) (ρ' : List Addr) (us : List Value) (s' : Shared) : Prop where
 tr : Tr Nox ρ ρ' h s'.heap
 st : St (C.hide D) ρ' σ' s'
 pl : PL s'.heap D us
 rs : Rs (C.hide D) ρ' s'.heap acc us
 newD : h.get? D = none
 offD : D ∉ ρ'
 hidD : ¬ C.hid D
 ns : ∃ m, s'.heap.Ns L m
 newL : h.get? L = none
 offL : L ∉ ρ'
 hidL : ¬ C.hid L
 neq : L ≠ D
 baseL : C.h₀.get? L = none
theorem comp_core (S : ∀ H, Snd { C with hid := H } r n) (hA : Room n A) {elt : Expr} {g : Comprehension} {gs : List Comprehension} {sc : Scope} {pos p' : Pos} {itv : V} {x : List V × Option Nat} {vars' : Vars} {acc : List V} {use : Option (Value → Sem Unit)} {Q : Value → Shared → Prop}
  (hnd : noDup sc = true) (hkind : sc.kind = .function) (hfree : freeOk e sc = true) (h1 : r.ev e g.iter σ = some (itv, σ₁)) (h2 : iterOf itv σ₁ = some (x, σ₂))
  (h3 : r.comp ⟨sc.names, compVars e sc⟩ elt (g :: gs) [itv] (compVars e sc) [] σ₂ = some ((vars', acc), σ')) (fm : Frm C ρ e env s.heap) (st : St C ρ σ s)
  (k : ∀ f D L ρ' us s', CompEnd C ρ s.heap σ' acc D L ρ' us s' → compPost (Mdl C) A NoE use Q (.ref D) L (.ok f) s') :
  wpAny (Mdl C) A (comprehension (.ListComp elt (g :: gs) sc pos) sc env p' (newList []) false (eval g.iter env) use) Q NoE s := by
 have S0 : Snd C r n := S C.hid
 cases iterOf_state h2
 obtain ⟨all, chk⟩ := x
 have hb : ∀ x, (x, NameKind.free) ∈ sc.names → ∃ c, env.cells.lookup x = some c := fun x hx => by
  obtain ⟨c, _, hc, _⟩ := fm.cel x (freeOk_boxed hfree hx)
  exact ⟨c, hc⟩
 refine wpAny_comprehension_free (g := g) (gs := gs) rfl (folded_quiet S0 h1 env) (closure_eq hb) hkind (fun x hx hl => ?_) ?_
 ·obtain ⟨y, kd⟩ := x
  subst hl
  exact lookup_nodup (nodup_iff.mp hnd) hx
 refine ev_then (S0.ev h1 hA fm st) fm fun u s₁ ρ₁ t₁ st₁ fm₁ r₁ _ => ?_
 refine iter_start h2 st₁ r₁ fun _ oI hfI itI => ?_
 -- the state after the iterator
 have st₂ := st₁.push oI
 have t₂ : Tr Nox ρ₁ ρ₁ s₁.heap (s₁.heap.push oI) := Tr.ofKeeps (push_keeps _ _)
 have fm₂ := fm₁.step t₂
 have hI : s₁.heap.get? s₁.heap.objs.size = none := Heap.get?_size _
 refine wpAny_newList (items := []) ?_ (Nat.zero_le _)
 -- the list
 have hD : (s₁.heap.push oI).get? (s₁.heap.push oI).objs.size = none := Heap.get?_size _
 have k23 := push_keeps (s₁.heap.push oI) { cls := .type "list", data := .seq (List.toArray []) }
 have pD : PL ((s₁.heap.push oI).push { cls := .type "list", data := .seq (List.toArray []) }) (s₁.heap.push oI).objs.size [] := ⟨0, Heap.get?_push_size _ rfl⟩
 -- the block
 simp only [newFunctionEnv, Option.isSome_some, if_true]
 refine wpAny_bind (wpAny_alloc ?_)
 refine wpAny_bind (wpAny_layCells _ (fun name kind cells => by cases hkc : kind == NameKind.cell <;> simp [hkc]) _ _ _ _ ?_)
 simp only [List.forIn_nil]
 refine wpAny_bind (wpAny_pure (wpAny_pure ?_))
 have none3 : ∀ a, ((s₁.heap.push oI).push { cls := .type "list", data := .seq (List.toArray []) }).get? a = none → (s₁.heap.push oI).get? a = none := fun a ha => by
  cases e1 : (s₁.heap.push oI).get? a with
  | none => rfl
  | some o => rw [k23 a o e1] at ha; cases ha
 obtain ⟨_, fmC⟩ := comp_frm (D := (s₁.heap.push oI).objs.size) (L := ((s₁.heap.push oI).push { cls := .type "list", data := .seq (List.toArray []) }).objs.size)
  (h₃ := (s₁.heap.push oI).push { cls := .type "list", data := .seq (List.toArray []) }) fm₂ hnd hkind hfree k23 hD ⟨_, Heap.get?_push_size _ rfl⟩ (Heap.get?_size _) rfl rfl
  (fun a ha => ⟨(st₂.offNew (none3 a ha)).1, st₂.h0none (none3 a ha), (st₂.offNew (none3 a ha)).2⟩)
 generalize hh₃ : (s₁.heap.push oI).push { cls := .type "list", data := .seq (List.toArray []) } = h₃ at *
 generalize hDD : (s₁.heap.push oI).objs.size = D at *
 have k34 : ∀ b o, h₃.get? b = some o → (pushCells (h₃.push { cls := .type "dict", data := .dict #[] }) sc.names).get? b = some o := fun b o eb => pushCells_keeps _ _ b o (push_keeps _ _ b o eb)
 generalize hh₄ : pushCells (h₃.push { cls := .type "dict", data := .dict #[] }) sc.names = h₄ at *
 have k24 : ∀ b o, (s₁.heap.push oI).get? b = some o → h₄.get? b = some o := fun b o eb => k34 b o (k23 b o eb)
 have pD4 : PL h₄ D [] := let ⟨n, e1⟩ := pD; ⟨n, k34 _ _ e1⟩
 have relD : Rel (C.hide D) ρ₁ σ₁ h₄ := st₂.rel.hide hD k24 (let ⟨n, e1⟩ := pD4; ⟨_, e1⟩)
 have st₄ : St (C.hide D) ρ₁ σ₁ { s₁ with heap := h₄ } := ⟨relD, st₁.gens, st₁.os⟩
 have g24 : Grow C ρ₁ ρ₁ (s₁.heap.push oI) h₄ := Grow.ofKeeps k24
 have hDI : s₁.heap.objs.size ≠ D := fun q => by
  obtain ⟨o, ho, _⟩ := itI.obj
  rw [q, hD] at ho; cases ho
 have itC : ItAt (C.hide D) ρ₁ h₄ s₁.heap.objs.size itv all 0 := by
  have g24' : Grow (C.hide D) ρ₁ ρ₁ (s₁.heap.push oI) h₄ := Grow.ofKeeps k24
  refine ItAt.mono ?_ g24' fun o e1 => k24 _ o e1
  have of : ∀ {l : Addr} {o : Obj}, Off C ρ₁ l → (s₁.heap.push oI).get? l = some o → Off (C.hide D) ρ₁ l := fun a ho => ⟨a.1, fun q => q.elim a.2 fun q => by rw [q, hD] at ho; cases ho⟩
  cases itv with
  | list => obtain ⟨a1, l, vs, a2, ⟨np, ep⟩, a4, a5⟩ := itI; exact ⟨a1, l, vs, a2, ⟨np, ep⟩, of a4 ep, a5.hide hD⟩
  | _ => exact itI
 have hsz : (h₃.push { cls := .type "dict", data := .dict #[] }).objs.size = h₃.objs.size + 1 := Heap.size_push ..
 rw [hsz]
 have S1 : Snd (C.hide D) r n := S _
 have hD1 : D ∉ ρ₁ := (st₂.offNew hD).1
 have hidD : ¬ C.hid D := (st₂.offNew hD).2
 refine codeAny_mono (S1.comp (k := 0) (s := { s₁ with heap := h₄ }) h3 hA rfl fmC st₄ h2 itC (st₁.h0none hI) (fun q => q.elim (st₁.offNew hI).2 hDI) pD4 (show _ = [] from rfl) (.inr rfl) hD1 (st₂.h0none hD)) fun rr s' hr => ?_
 obtain ⟨f, rfl, ρ', us, tr, stE, fmE, plE, rsE⟩ := hr
 have none1 : ∀ a, (s₁.heap.push oI).get? a = none → s₁.heap.get? a = none := fun a ha => by
  cases e1 : s₁.heap.get? a with
  | none => rfl
  | some o => rw [push_keeps _ _ a o e1] at ha; cases ha
 have hL3 : h₃.get? h₃.objs.size = none := Heap.get?_size _
 have hLs : s₁.heap.get? h₃.objs.size = none := none1 _ (none3 _ hL3)
 have newL : s.heap.get? h₃.objs.size = none := t₁.fresh st₁ hLs
 have newD : s.heap.get? D = none := t₁.fresh st₁ (none1 _ hD)
 have aliveL : ∃ o, h₄.get? h₃.objs.size = some o := fmC.own_alive (.inl rfl)
 have aliveD : ∃ o, h₄.get? D = some o := let ⟨n, e1⟩ := pD4; ⟨_, e1⟩
 refine k f D h₃.objs.size ρ' us s' ⟨?_, stE, plE, rsE, newD, ?_, hidD, ?_, newL, ?_, (st₁.offNew hLs).2, ?_, st₁.h0none hLs⟩
 ·refine t₁.then st₁ ⟨tr.grow.imp fun new hn => ⟨hn.1, fun a ha => ?_⟩, fun b o _ hb eb => ?_⟩
  ·have := hn.2 a ha
   cases e1 : s₁.heap.get? a with
   | none => rfl
   | some o => have e2 := k24 a o (push_keeps _ _ a o e1); rw [e2] at this; cases this
  ·have e2 := k24 b o (push_keeps _ _ b o eb)
   refine tr.keep b o (fun q => ?_) hb e2
   rcases q with q | q | q
   ·rcases q with q | ⟨z, hz, hc⟩
    ·have q : b = h₃.objs.size := q
     rw [q, hLs] at eb; cases eb
    ·-- an own cell is new
     have hz : sc.names.lookup z = some .cell := hz
     have hc : (cellsFrom (h₃.objs.size + 1) sc.names (closL env sc.names [])).lookup z = some b := hc
     obtain ⟨c, hcm⟩ := cellsFrom_has sc.names (h₃.objs.size + 1) (mem_of_lookup hz)
     obtain ⟨d, hd⟩ := lookup_of_mem hcm
     rw [cellsFrom_app, lookup_append, hd] at hc
     simp at hc
     have ok := cellsFrom_ok sc.names (h₃.push { cls := .type "dict", data := .dict #[] }) (h₃.objs.size + 1) [] ⟨fun _ _ hm => (nomatch hm), List.Pairwise.nil⟩ (by rw [Heap.size_push]; exact Nat.le_refl _)
     rw [Heap.size_push] at ok
     have := (ok.empty _ _ (mem_of_lookup hd)).2
     rw [hc] at this
     exact absurd (Heap.lt_size (k23 b o (push_keeps _ _ b o eb))) (Nat.not_lt.mpr (Nat.le_of_succ_le this))
   ·rw [q, hI] at eb; cases eb
   ·rw [q, none1 _ hD] at eb; cases eb
 ·obtain ⟨o, ho⟩ := aliveD; exact notIn_grow tr.grow hD1 ho
 ·obtain ⟨m, ns, _⟩ := fmE.loc; exact ⟨m, ns⟩
 ·obtain ⟨o, ho⟩ := aliveL; exact notIn_grow tr.grow (st₁.offNew hLs).1 ho
 ·intro q
  obtain ⟨np, ep⟩ := pD
  rw [← q, hL3] at ep; cases ep
theorem CompEnd.after {acc : List V} {us : List Value} {s' : Shared} (ce : CompEnd C ρ s.heap σ' acc D L ρ₁ us s') {h' : Heap} (hs : Heap.SameBut L s'.heap h') (st0 : St C ρ σ s) :
  Tr Nox ρ ρ₁ s.heap h' ∧ St C ρ₁ σ' { s' with heap := h' } ∧ R C ρ₁ h' (.list acc) (.ref D) ∧ FreshAt C ρ₁ σ' s.heap h' (.list acc) (.ref D) := by
 have hk : ∀ b o, b ≠ L → s'.heap.get? b = some o → h'.get? b = some o := fun b o hb e => (hs.2 b hb).trans e
 obtain ⟨m, ns⟩ := ce.ns
 have hns : ∀ o, ¬ (C.hide D).hid L → s'.heap.get? L = some o → ¬ Solid o := fun o _ ho => not_solid_ns ns ho
 have hidL' : ¬ (C.hide D).hid L := fun q => q.elim ce.hidL ce.neq
 have g : Grow (C.hide D) ρ₁ ρ₁ s'.heap h' := Grow.sameBut hk hns
 have rel : Rel (C.hide D) ρ₁ σ' h' := ce.st.rel.sameBut hk ce.offL hns ce.baseL fun q => (hidL' q).elim
 obtain ⟨np, ep⟩ := ce.pl
 have pl : PL h' D us := ⟨np, hk D _ (Ne.symm ce.neq) ep⟩
 have rs := ce.rs.mono g
 refine ⟨⟨ce.tr.grow, fun b o hb hρ eb => ?_⟩, ⟨rel.unhide, ce.st.gens, ce.st.os⟩, ?_, fun xs ex => ?_⟩
 ·exact hk b o (fun q => by rw [q, ce.newL] at eb; cases eb) (ce.tr.keep b o hb hρ eb)
 ·exact R.mkList pl ⟨ce.offD, ce.hidD⟩ rs.unhide.1
 ·cases ex
  exact ⟨D, rfl, ce.newD, rel, us, pl, rs⟩
end
section
variable {C : Cx} {ρ ρ₁ ρ₂ : List Addr} {σ σ' σ₁ σ₂ : Sto} {s s₁ s₂ : Shared} {A : Around} {h h' : Heap} {env cenv : Env} {e : En} {r : Rec} {n : Nat} {I D L : Addr}
theorem compE_parts {elt : Expr} {sc : Scope} {gens : List Comprehension} {v : V} {P : Prop} (h : compE r e elt sc gens σ = some (v, σ'))
  (k : ∀ g gs itv σ₁ x σ₂ vars' acc, gens = g :: gs → noDup sc = true → sc.kind = .function → freeOk e sc = true → g.is_async = 0 → r.ev e g.iter σ = some (itv, σ₁) → iterOf itv σ₁ = some (x, σ₂) →
   r.comp ⟨sc.names, compVars e sc⟩ elt (g :: gs) [itv] (compVars e sc) [] σ₂ = some ((vars', acc), σ') → v = .list acc → P) : P := by
 cases gens with
 | nil => exact M.failE h
 | cons g gs =>
  refine M.iteE h fun hc h => M.bindE h fun itv σ₁ a1 h => M.bindE h fun x σ₂ a2 h => M.bindE2 h fun vars' acc σ₃ a3 h => ?_
  simp only [Bool.and_eq_true, beq_iff_eq] at hc
  obtain ⟨rfl, rfl⟩ := M.pure_iff.mp h
  exact k g gs itv σ₁ x σ₂ vars' acc rfl hc.1.1.1 (by have := hc.1.1.2; cases hk : sc.kind <;> simp_all) hc.1.2 hc.2 a1 a2 a3 rfl
theorem firstAsync_no {g : Comprehension} {gs : List Comprehension} (h : g.is_async = 0) : firstAsync (g :: gs) = false := by
 obtain ⟨_, _, _, a⟩ := g
 cases (show a = 0 from h); rfl
theorem listComp_sound (S : ∀ H, Snd { C with hid := H } r n) (hA : Room n A) {elt : Expr} {gens : List Comprehension} {sc : Scope} {pos : Pos} {v : V} (h : compE r e elt sc gens σ = some (v, σ')) (fm : Frm C ρ e env s.heap) (st : St C ρ σ s) :
  EvOk C A true (eval (.ListComp elt gens sc pos) env) ρ s σ' v := by
 refine compE_parts h fun g gs itv σ₁ x σ₂ vars' acc eg h1 h2 h3 h4 a1 a2 a3 ev => ?_
 subst eg ev
 have e1 : eval (.ListComp elt (g :: gs) sc pos) env = comprehension (.ListComp elt (g :: gs) sc pos) sc env (firstIterPos (g :: gs) pos) (newList []) false (eval g.iter env) := by
  rw [eval_ListComp, firstAsync_no h4]
  cases g; rfl
 rw [e1]
 refine comp_core S hA h1 h2 h3 a1 a2 a3 fm st fun f D L ρ' us s' ce => ?_
 obtain ⟨m, ns⟩ := ce.ns
 refine ⟨m, ns, fun h' hs => ?_⟩
 obtain ⟨b1, b2, b3, b4⟩ := ce.after hs st
 exact ⟨ρ', b1, b2, b3, fun _ => b4⟩
theorem Assign_any {t value : Expr} {pos : Pos} {b : Bool} {sw : Option (List Str)} {Q : Flow → Shared → Prop} (hst : assignEach [t] env = [(false, assign t env)]) (hs : swapsWithSole [t] value pos.line env = pure b)
  (hw : b = false → swappedStores [t] value env = pure sw)
  (h : if b = true then wpAny (Mdl C) A (evalThenUse value env fun v => assign t env v) (fun _ => Q .next) NoE s
   else wpAny (Mdl C) A (eval value env) (fun v s₁ => wpAny (Mdl C) A (assignStores env v sw [assign t env]) Q NoE s₁) NoE s) :
  wpAny (Mdl C) A (exec (.Assign [t] value pos) env) Q NoE s := by
 show wpAny (Mdl C) A (do
  standAt pos
  if ← swapsWithSole [t] value pos.line env then do
   evalThenUse value env fun v => assignAll v ((assignEach [t] env).map (·.2))
   pure .next
  else do
   let v ← eval value env
   assignStores env v (← swappedStores [t] value env) ((assignEach [t] env).map (·.2))) _ _ _
 rw [hs, hst]
 refine wpAny_bind (wpAny_standAt (wpAny_bind (wpAny_pure ?_)))
 cases b with
 | true =>
  simp only [if_true] at h ⊢
  exact wpAny_bind (wpAny_mono h (fun _ _ q => wpAny_pure q) fun _ _ x => x)
 | false =>
  simp only [Bool.false_eq_true, if_false] at h ⊢
  rw [hw rfl]
  exact wpAny_bind (wpAny_mono h (fun _ _ q => wpAny_bind (wpAny_pure q)) fun _ _ x => x)
theorem filterMap_full {α : Type} {f : Expr → Option α} {g : Expr → Option α} (hfg : ∀ x y, f x = some y → g x = some y) : ∀ {l : List Expr}, (l.filterMap f).length = l.length → l.filterMap f = l.filterMap g
 | [], _ => rfl
 | x :: l, h => by
  cases hx : f x with
  | none =>
   rw [List.filterMap_cons_none hx] at h
   have := List.length_filterMap_le f l
   simp at h; lia
  | some y =>
   rw [List.filterMap_cons_some hx] at h ⊢
   rw [List.filterMap_cons_some (hfg x y hx), filterMap_full hfg (by simpa using h)]
theorem iteP {α : Type} {c : Prop} [Decidable c] {x y : α} {P : α → Prop} (h1 : c → P x) (h2 : ¬ c → P y) : P (if c then x else y) := by
 by_cases q : c
 ·rw [if_pos q]; exact h1 q
 ·rw [if_neg q]; exact h2 q
theorem iteO {α : Type} {c : Prop} [Decidable c] {x : Option α} {b : α} {P : Prop} (h : (if c then x else none) = some b) (k : c → x = some b → P) : P := by
 by_cases q : c
 ·rw [if_pos q] at h; exact k q h
 ·rw [if_neg q] at h; exact no_none h
noncomputable def SwP (ts : List Expr) (z : Sem (Option (List Str))) : Prop := z = pure none ∨ ∃ names, z = pure (some names) ∧ names.length = ts.length ∧ names = ts.filterMap nameOfE
theorem swapped_cases {t value : Expr} (ho : orderOk t value = true) (hl : ∀ ts p, t ≠ .List ts p) : swappedStores [t] value env = pure none ∨
  Ex4 fun ts k p names => t = .Tuple ts k p ∧ swappedStores [t] value env = pure (some names) ∧ names.length = ts.length ∧ names = ts.filterMap nameOfE := by
 cases t with
 | List ts p => exact (hl ts p rfl).elim
 | Tuple ts k p =>
  cases value with
  | Tuple vs k' p' =>
   have ho : (vs.all (foldedForSure 8) || !vs.all (constantsAlone 8)) = true := (Bool.and_eq_true_iff.mp ho).2
   have key : SwP ts (swappedStores [.Tuple ts k p] (.Tuple vs k' p') env) := by
    refine iteP (fun _ => .inl rfl) fun _ => iteP (fun _ => .inl rfl) fun _ => iteP (fun _ => .inl rfl) fun hlen => iteP (fun _ => .inl rfl) fun hf => iteP (fun hc => ?_) fun _ => ?_
    ·rw [Bool.or_eq_true] at ho
     rcases ho with ho | ho
     ·exact (hf ho).elim
     ·rw [hc] at ho; cases ho
    ·have hlen := fun q => hlen (Bool.or_eq_true_iff.mpr (.inl (bne_iff_ne.mpr q)))
     have hlen := Decidable.byContradiction hlen
     refine .inr ⟨_, rfl, hlen, filterMap_full (fun x y hx => ?_) hlen⟩
     cases x with
     | Name id q => exact iteO hx fun _ h => h
     | _ => exact no_none hx
   exact key.imp id fun ⟨names, h⟩ => ⟨ts, k, p, names, rfl, h⟩
  | _ => exact .inl rfl
 | _ => exact .inl rfl
theorem fold_lookup : ∀ (ps : List (Str × V)) (vars : Vars) (y : Str), (ps.map (·.1)).Nodup → (ps.foldl (fun a p => upd p.1 p.2 a) vars).lookup y = (ps.lookup y).or (vars.lookup y)
 | [], vars, y, _ => by simp
 | (x, v) :: r, vars, y, h => by
  obtain ⟨h1, h2⟩ := List.nodup_cons.mp h
  rw [List.foldl_cons, fold_lookup r _ y h2, lookup_upd, List.lookup_cons]
  by_cases q : y = x
  ·subst q
   have : r.lookup y = none := by
    cases e1 : r.lookup y with
    | none => rfl
    | some d => exact (h1 (List.mem_map.mpr ⟨_, mem_of_lookup e1, rfl⟩)).elim
   simp [this]
  ·have : (y == x) = false := by simp [q]
   simp [this, q]
theorem nodup_rev {α : Type} {l : List α} (h : l.Nodup) : l.reverse.Nodup := List.pairwise_reverse.mpr (List.Pairwise.imp Ne.symm h)
theorem lookup_reverse {ps : List (Str × V)} (h : (ps.map (·.1)).Nodup) (y : Str) : ps.reverse.lookup y = ps.lookup y := by
 have h' : (ps.reverse.map (·.1)).Nodup := by rw [List.map_reverse]; exact nodup_rev h
 cases e1 : ps.lookup y with
 | some v => exact lookup_nodup h' (List.mem_reverse.mpr (mem_of_lookup e1))
 | none =>
  cases e2 : ps.reverse.lookup y with
  | none => rfl
  | some d =>
   have := lookup_nodup h (List.mem_reverse.mp (mem_of_lookup e2))
   rw [e1] at this; cases this
theorem setNames_fold {ns : List (Str × NameKind)} : ∀ {ts : List Expr} {vs : List V} {vars vars' : Vars} {σ σ' : Sto}, setNames ns ts vs vars σ = some (vars', σ') →
  (ts.filterMap nameOfE).length = vs.length ∧ σ = σ' ∧ (∀ x ∈ ts.filterMap nameOfE, ∀ w, storable ⟨ns, w⟩ x = true) ∧ vars' = ((ts.filterMap nameOfE).zip vs).foldl (fun a p => upd p.1 p.2 a) vars
 | [], vs, vars, vars', σ, σ', h => M.iteE h fun hn h => by
  cases isNil_eq hn
  exact M.pureE h ⟨rfl, rfl, by simp, rfl⟩
 | t :: ts, [], _, _, _, _, h => M.failE h
 | t :: ts, v :: vs, vars, vars', σ, σ', h => by
  refine setNamesE h fun x p vars₁ σ₁ h1 h => M.iteE h1 fun hs h1 => ?_
  obtain ⟨rfl, rfl⟩ := M.pure_iff.mp h1
  obtain ⟨a1, a2, a3, a4⟩ := setNames_fold h
  rw [List.filterMap_cons_some (show nameOfE (.Name x p) = some x from rfl)]
  refine ⟨by rw [List.length_cons, List.length_cons, a1], a2, fun y hy w => ?_, a4⟩
  rcases List.mem_cons.mp hy with rfl | hy
  ·exact hs
  ·exact a3 y hy w
theorem bindNames_sound : ∀ {ns : List Str} {vs : List V} {us : List Value} {vars : Vars} {s : Shared}, ns.length = vs.length → (∀ x ∈ ns, ∀ w, storable ⟨e.names, w⟩ x = true) → Frm C ρ ⟨e.names, vars⟩ env s.heap → St C ρ σ s → Rs C ρ s.heap vs us →
  wpAny (Mdl C) A (assignInOrder (ns.map fun n => bindName env n) us) (fun _ s' => Tr (Own e env) ρ ρ s.heap s'.heap ∧ St C ρ σ s' ∧ Frm C ρ ⟨e.names, (ns.zip vs).foldl (fun a p => upd p.1 p.2 a) vars⟩ env s'.heap) NoE s
 | [], [], us, vars, s, _, _, fm, st, rs => by
  cases (show _ = [] from rs)
  exact wpAny_pure ⟨Tr.refl _ _ _, st, fm⟩
 | [], _ :: _, _, _, _, h, _, _, _, _ => by simp at h
 | _ :: _, [], _, _, _, h, _, _, _, _ => by simp at h
 | x :: ns, v :: vs, us, vars, s, hl, hs, fm, st, rs => by
  obtain ⟨u, us', rfl, ru, rs⟩ := rs
  show wpAny (Mdl C) A (do holding us' (bindName env x u); assignInOrder (ns.map fun n => bindName env n) us') _ _ _
  have h1 : setName ⟨e.names, vars⟩ x v σ = some (upd x v vars, σ) := by
   unfold setName
   rw [if_pos (hs x List.mem_cons_self vars)]
   rfl
  refine wpAny_bind (wpAny_holding (wpAny_mono (setName_sound h1 fm st ru) (fun _ s₁ o => ?_) fun _ _ x => x))
  obtain ⟨_, t₁, st₁, fm₁⟩ := o
  have g : Grow C ρ ρ s.heap s₁.heap := fm.growOwn t₁
  refine wpAny_mono (bindNames_sound (by simpa using hl) (fun y hy => hs y (List.mem_cons_of_mem _ hy)) fm₁ st₁ (rs.mono g)) (fun _ s₂ o => ?_) fun _ _ x => x
  obtain ⟨t₂, st₂, fm₂⟩ := o
  exact ⟨Tr.own t₁ st₁ fm₁ t₂, st₂, fm₂⟩
theorem reverse_zip {α β : Type} : ∀ {l : List α} {m : List β}, l.length = m.length → l.reverse.zip m.reverse = (l.zip m).reverse
 | [], [], _ => rfl
 | [], _ :: _, h => by simp at h
 | _ :: _, [], h => by simp at h
 | x :: l, y :: m, h => by
  have hl : l.length = m.length := by simpa using h
  simp only [List.reverse_cons, List.zip_cons_cons]
  rw [List.zip_append (by simpa using hl), reverse_zip hl]
  rfl
theorem stores_sound (S : Snd C r n) {t value : Expr} (ho : orderOk t value = true) (hl : ∀ ts p, t ≠ .List ts p) (hA : Room n A) : ∃ sw, swappedStores [t] value env = pure sw ∧ ∀ {v : V} {u : Value} {vars : Vars} {σ σ' : Sto} {s : Shared} {ρ : List Addr}, setTo r e t v σ = some (vars, σ') →
  Frm C ρ e env s.heap → St C ρ σ s → R C ρ s.heap v u →
  wpAny (Mdl C) A (assignStores env u sw [assign t env]) (fun f s' => f = .next ∧ SetOut C ρ e env s.heap σ' vars s') NoE s := by
 rcases swapped_cases (env := env) ho hl with hn | ⟨ts, k, p, names, rfl, hs, hlen, hnm⟩
 ·refine ⟨none, hn, fun {v u vars σ σ' s ρ} h fm st ru => ?_⟩
  unfold assignStores
  exact wpAny_bind (wpAny_mono (setTo_sound S h hA fm st ru) (fun _ _ o => wpAny_pure ⟨rfl, o⟩) fun _ _ x => x)
 ·refine ⟨some names, hs, fun {v u vars σ σ' s ρ} h fm st ru => ?_⟩
  refine M.iteE h fun hnd h => M.bindE h fun vs σ₁ h1 h => ?_
  obtain ⟨a1, rfl, a3, a4⟩ := setNames_fold h
  rw [← hnm] at a1 a3 a4 hnd
  unfold assignStores
  refine wpAny_bind (wpAny_rule ?_)
  rw [a1]
  refine wpAny_bind (unpackItems_sound h1 hA.handled st ru fun e1 us h' tk hk rs => ?_)
  subst e1
  have st' : St C ρ σ { s with heap := h', toks := tk } := st.keeps hk
  have tr : Tr Nox ρ ρ s.heap h' := Tr.ofKeeps hk
  refine wpAny_bind (wpAny_mono (bindNames_sound (s := { s with heap := h', toks := tk }) (e := e) (vars := e.vars) (by simpa using a1) (fun x hx => a3 x (List.mem_reverse.mp hx)) (fm.step tr) st' rs.reverse) (fun _ s₁ o => wpAny_pure ⟨rfl, ρ, ?_, o.2.1, ?_⟩) fun _ _ x => x)
  ·exact Tr.own (e := e) (s₁ := { s with heap := h', toks := tk }) tr.toOwn st' (vars := e.vars) (fm.step tr) o.1
  ·refine o.2.2.vars fun y => ?_
   rw [reverse_zip a1, a4]
   have hk : ((names.zip vs).map (·.1)).Nodup := by
    rw [List.map_fst_zip (by lia)]
    exact nodup_iff.mp hnd
   rw [fold_lookup _ _ _ (by rw [List.map_reverse]; exact nodup_rev hk), fold_lookup _ _ _ hk, lookup_reverse hk]
end
section
variable {C : Cx} {ρ ρ₁ ρ₂ : List Addr} {σ σ' σ₁ σ₂ : Sto} {s s₁ s₂ : Shared} {A : Around} {h h' : Heap} {env cenv : Env} {e : En} {r : Rec} {n : Nat} {I D L : Addr}
theorem St.notNs {m : Str → Option Value} (st : St C ρ σ s) (ns : s.heap.Ns L m) : L ∉ ρ := fun hm => by
 obtain ⟨i, hi', rfl⟩ := List.getElem_of_mem hm
 have hs : i < σ.length := st.rel.len ▸ hi'
 obtain ⟨vs, ⟨n, p⟩, _⟩ := st.rel.at_ i _ σ[i] (List.getElem?_eq_getElem hi') (List.getElem?_eq_getElem hs)
 exact not_solid_ns ns p (by simp [Solid])
theorem assign_plain (S : Snd C r n) (hA : Room n A) {t value : Expr} {pos : Pos} {v v' : V} {vars : Vars} (ho : orderOk t value = true) (hl : ∀ ts p, t ≠ .List ts p) (hst : assignEach [t] env = [(false, assign t env)])
  (hs : swapsWithSole [t] value pos.line env = pure false) (h1 : EvOk C A (freshForm value) (eval value env) ρ s σ₁ v) (h2 : thaw C.cfg t value v σ₁ = some (v', σ₂)) (h3 : setTo r e t v' σ₂ = some (vars, σ'))
  (fm : Frm C ρ e env s.heap) (st : St C ρ σ s) : wpAny (Mdl C) A (exec (.Assign [t] value pos) env) (fun f s' => ExOut C ρ e env s.heap σ' .next vars f s') NoE s := by
 obtain ⟨sw, hw, sto⟩ := stores_sound (env := env) (e := e) S ho hl hA
 refine Assign_any (b := false) hst hs (fun _ => hw) ?_
 rw [if_neg Bool.false_ne_true]
 refine wpAny_same h1 fun u s₁ ⟨ρ₁, t₁, st₁, r₁, f₁⟩ => ?_
 obtain ⟨ρ₂, t₂, st₂, fm₂, r₂⟩ := thaw_sound h2 t₁ st.rel.base fm st₁ r₁ f₁
 refine wpAny_mono (sto h3 fm₂ st₂ r₂) (fun f s₃ o => ?_) fun _ _ x => x
 obtain ⟨rfl, ρ₃, t₃, st₃, fm₃⟩ := o
 exact ⟨ρ₃, Tr.own (e := e) t₂.toOwn st₂ (vars := e.vars) fm₂ t₃, st₃, fm₃, rfl⟩
theorem use_tail (S0 : Snd C r n) (hA : Room n A) {x : Str} {xp : Pos} {elt : Expr} {gens : List Comprehension} {sc : Scope} {p : Pos} {v' : V} {vars : Vars} {acc : List V} {us : List Value} {s' : Shared} {ρ' : List Addr}
  (h2 : thaw C.cfg (.Name x xp) (.ListComp elt gens sc p) (.list acc) σ₁ = some (v', σ₂)) (h3 : setTo r e (.Name x xp) v' σ₂ = some (vars, σ')) (fm : Frm C ρ e env s.heap) (st : St C ρ σ s) (ce : CompEnd C ρ s.heap σ₁ acc D L ρ' us s') :
  wpAny (Mdl C) A (assign (.Name x xp) env (.ref D)) (fun _ s'' => ∃ m, s''.heap.Ns L m ∧ ∀ h', Heap.SameBut L s''.heap h' → ExOut C ρ e env s.heap σ' .next vars .next { s'' with heap := h' }) NoE s' := by
 obtain ⟨m, ns⟩ := ce.ns
 obtain ⟨c1, c2, c3, c4⟩ := ce.after (Heap.SameBut.refl ..) st
 have c2 : St C ρ' σ₁ s' := c2
 obtain ⟨ρ₂, t₂, st₂, fm₂, r₂⟩ := thaw_sound h2 c1 st.rel.base fm c2 c3 (fun _ => c4)
 refine wpAny_same (setTo_sound S0 h3 hA fm₂ st₂ r₂) fun _ s₃ o => ?_
 obtain ⟨ρ₃, t₃, st₃, fm₃⟩ := o
 have hLown : ¬ Own e env L := fun q => by
  obtain ⟨o, ho⟩ := fm.own_alive q
  rw [ce.newL] at ho; cases ho
 have ns₃ : s₃.heap.Ns L m := let ⟨o, es, ep, ho, q⟩ := ns; ⟨o, es, ep, t₃.keep L o hLown (st₂.notNs ns) ho, q⟩
 refine ⟨m, ns₃, fun h' hsb => ?_⟩
 have hk : ∀ b o, b ≠ L → s₃.heap.get? b = some o → h'.get? b = some o := fun b o hb e => (hsb.2 b hb).trans e
 have hL3 : L ∉ ρ₃ := st₃.notNs ns₃
 have g : Grow C ρ₃ ρ₃ s₃.heap h' := Grow.sameBut hk fun o _ ho => not_solid_ns ns₃ ho
 have tr := Tr.own (e := e) t₂.toOwn st₂ (vars := e.vars) fm₂ t₃
 refine ⟨ρ₃, ⟨tr.grow, fun b o hb hρ eb => hk b o (fun q => by rw [q, ce.newL] at eb; cases eb) (tr.keep b o hb hρ eb)⟩, ⟨st₃.rel.sameBut hk hL3 (fun o _ ho => not_solid_ns ns₃ ho) ce.baseL fun q => (ce.hidL q).elim, st₃.gens, st₃.os⟩, ?_, rfl⟩
 refine fm₃.sameBut hk g (fun q => hLown (.inl q)) fun z c hc q => ?_
 obtain ⟨o, ho⟩ := fm.aliveC hc
 rw [q, ce.newL] at ho; cases ho
theorem assign_use (S : ∀ H, Snd { C with hid := H } r n) (hA : Room n A) {x : Str} {xp : Pos} {elt : Expr} {gens : List Comprehension} {sc : Scope} {p pos : Pos} {v v' : V} {vars : Vars}
  (hs : swapsWithSole [.Name x xp] (.ListComp elt gens sc p) pos.line env = pure true) (h1 : compE r e elt sc gens σ = some (v, σ₁))
  (h2 : thaw C.cfg (.Name x xp) (.ListComp elt gens sc p) v σ₁ = some (v', σ₂)) (h3 : setTo r e (.Name x xp) v' σ₂ = some (vars, σ')) (fm : Frm C ρ e env s.heap) (st : St C ρ σ s) :
  wpAny (Mdl C) A (exec (.Assign [.Name x xp] (.ListComp elt gens sc p) pos) env) (fun f s' => ExOut C ρ e env s.heap σ' .next vars f s') NoE s := by
 refine Assign_any (b := true) (sw := none) rfl hs (fun q => nomatch q) ?_
 rw [if_pos rfl]
 refine compE_parts h1 fun g gs itv σ₃ y σ₄ vars' acc eg b1 b2 b3 b4 a1 a2 a3 ev => ?_
 subst eg ev
 have e1 : evalThenUse (.ListComp elt (g :: gs) sc p) env (fun v => assign (.Name x xp) env v) = (do
   let _ ← comprehension (.ListComp elt (g :: gs) sc p) sc env (firstIterPos (g :: gs) p) (newList []) false (eval g.iter env) (some fun v => assign (.Name x xp) env v)) := by
  show (do let _ ← comprehension (.ListComp elt (g :: gs) sc p) sc env (firstIterPos (g :: gs) p) (newList []) (firstAsync (g :: gs)) (firstIter (g :: gs) env) (some fun v => assign (.Name x xp) env v)) = _
  rw [firstAsync_no b4]
  cases g; rfl
 rw [e1]
 refine wpAny_bind ?_
 refine comp_core (Q := fun _ s₁ => wpAny (Mdl C) A (pure ()) (fun _ s' => ExOut C ρ e env s.heap σ' .next vars .next s') NoE s₁) S hA b1 b2 b3 a1 a2 a3 fm st fun f D L ρ' us s' ce => ?_
 show wpAny (Mdl C) A (assign (.Name x xp) env (.ref D)) (fun _ s'' => ∃ m, s''.heap.Ns L m ∧ ∀ h', Heap.SameBut L s''.heap h' → _) NoE s'
 exact wpAny_same (use_tail (S C.hid) hA h2 h3 fm st ce) fun _ s'' ⟨m, hm, hq⟩ => ⟨m, hm, fun h' hs => wpAny_pure (hq h' hs)⟩
theorem isLC_eq {x : Expr} (h : isLC x = true) : Ex4 fun a b c d => x = .ListComp a b c d := by cases x <;> first | exact ⟨_, _, _, _, rfl⟩ | exact nomatch h
theorem swaps_no {t value : Expr} {l : Nat} (ho : orderOk t value = true) (h : isLC value = false) : swapsWithSole [t] value l env = pure false := by
 cases value with
 | ListComp => exact nomatch h
 | SetComp => exact nomatch ho
 | DictComp => exact nomatch ho
 | _ => rfl
theorem setTo_target {t : Expr} {v : V} {r' : Vars × Sto} (h : setTo r e t v σ = some r') : (∀ ts p, t ≠ .List ts p) ∧ assignEach [t] env = [(false, assign t env)] := by
 refine ⟨fun ts p q => by subst q; exact M.failE h, ?_⟩
 cases t <;> first | rfl | exact M.failE h
theorem assign_sound (S : ∀ H, Snd { C with hid := H } r n) (hA : Room n A) {t value : Expr} {pos : Pos} {v v' : V} {vars : Vars} (ho : orderOk t value = true) (h1 : evV C.cfg r e value σ = some (v, σ₁)) (h2 : thaw C.cfg t value v σ₁ = some (v', σ₂))
  (h3 : setTo r e t v' σ₂ = some (vars, σ')) (fm : Frm C ρ e env s.heap) (st : St C ρ σ s) : wpAny (Mdl C) A (exec (.Assign [t] value pos) env) (fun f s' => ExOut C ρ e env s.heap σ' .next vars f s') NoE s := by
 obtain ⟨hl, hst⟩ := setTo_target (env := env) h3
 refine M.ite2 h1 (fun hv h1 => ?_) fun hv h1 => ?_
 ·obtain ⟨elt, gens, sc, p, rfl⟩ := isLC_eq hv
  have h1 : compE r e elt sc gens σ = some (v, σ₁) := h1
  have ev := listComp_sound (pos := p) S hA h1 fm st
  cases t with
  | Name x xp =>
   cases hb : (env.blockKind == .function && env.kindOf x == some .local && xp.line == p.line && !(sc.names.any fun (n, k) => n == x && (k == .local || k == .cell))) with
   | true => exact assign_use S hA (by show (pure _ : Sem Bool) = _; exact congrArg pure hb) h1 h2 h3 fm st
   | false => exact assign_plain (S C.hid) hA ho hl hst (by show (pure _ : Sem Bool) = _; exact congrArg pure hb) ev h2 h3 fm st
  | _ => exact assign_plain (S C.hid) hA ho hl hst rfl ev h2 h3 fm st
 ·exact assign_plain (S C.hid) hA ho hl hst (swaps_no ho (by cases q : isLC value <;> first | rfl | exact (hv q).elim)) ((S C.hid).ev h1 hA fm st) h2 h3 fm st
theorem if_sound (S0 : Snd C r n) (hA : Room n A) {t : Expr} {a b : List Stmt} {pos : Pos} {fl : Fl} {vars : Vars} {c : Bool} (h1 : r.ts e t σ = some (c, σ₁)) (h : r.ex e (if c = true then a else b) σ₁ = some ((fl, vars), σ')) (fm : Frm C ρ e env s.heap) (st : St C ρ σ s) :
  wpAny (Mdl C) A (exec (.If t a b pos) env) (fun f s' => ExOut C ρ e env s.heap σ' fl vars f s') NoE s := by
 refine wpAny_If (wpAny_same (S0.ts h1 hA fm st) fun t s₁ o => ?_)
 obtain ⟨ρ₁, t₁, st₁, rfl⟩ := o
 have fm₁ := fm.step t₁
 have go : wpAny (Mdl C) A (execs (if t = true then a else b) env) (fun f s' => ExOut C ρ e env s.heap σ' fl vars f s') NoE s₁ :=
  wpAny_same (S0.ex h hA fm₁ st₁) fun _ _ ⟨ρ₂, t₂, x⟩ => ⟨ρ₂, Tr.own (e := e) t₁.toOwn st₁ (vars := e.vars) fm₁ t₂, x⟩
 cases t <;> exact go
theorem forStmt_sound (S0 : Snd C r n) (hA : Room n A) {tgt it : Expr} {body : List Stmt} {pos : Pos} {fl : Fl} {vars : Vars} {v : V} {xs : List V} {chk : Option Nat} (h1 : r.ev e it σ = some (v, σ₁)) (h2 : iterOf v σ₁ = some ((xs, chk), σ₂))
  (h : forItems r e tgt body chk xs xs e.vars σ₂ = some ((fl, vars), σ')) (fm : Frm C ρ e env s.heap) (st : St C ρ σ s) :
  wpAny (Mdl C) A (exec (.For tgt it body [] pos) env) (fun f s' => ExOut C ρ e env s.heap σ' fl vars f s') NoE s := by
 cases iterOf_state h2
 cases iterOf_chk h2
 refine wpAny_For (ev_then (S0.ev h1 hA fm st) fm fun u s₁ ρ₁ t₁ st₁ fm₁ r₁ _ => iter_start h2 st₁ r₁ fun _ o hf it => ?_) (folded_quiet S0 h1 env)
 have hI := Heap.get?_size s₁.heap
 have fm₂ := fm₁.step (Tr.ofKeeps (push_keeps s₁.heap o))
 refine codeAny_mono (for_sound (s₀ := { s₁ with heap := s₁.heap.push o }) S0 hA (st₁.h0none hI) (st₁.offNew hI).2 h fm₂ (st₁.push o) it) fun rr s' hr => ?_
 obtain ⟨f, rfl, ρ₃, t₃, x⟩ := hr
 refine ⟨ρ₃, Tr.own (e := e) t₁.toOwn st₁ (vars := e.vars) fm₁ ⟨t₃.grow.imp fun new hn => ⟨hn.1, fun a ha => ?_⟩, fun b o' hb hρ eb => t₃.keep b o' (fun q => ?_) hρ (push_keeps _ _ b o' eb)⟩, x⟩
 ·cases e1 : s₁.heap.get? a with
  | none => rfl
  | some o' => have := hn.2 a ha; rw [push_keeps _ _ a o' e1] at this; cases this
 ·rcases q with q | q
  ·exact hb q
  ·rw [q, hI] at eb; cases eb
theorem call_no {x : Expr} {l : Nat} (h : isCallE x = true) : swapsWith x none l env = pure false := by cases x <;> first | rfl | exact nomatch h
theorem exStep_sound (S : ∀ H, Snd { C with hid := H } r n) (hA : Room n A) {stmt : Stmt} {fl : Fl} {vars : Vars} (h : exStep C.cfg r e stmt σ = some ((fl, vars), σ')) (fm : Frm C ρ e env s.heap) (st : St C ρ σ s) :
  wpAny (Mdl C) A (exec stmt env) (fun f s' => ExOut C ρ e env s.heap σ' fl vars f s') NoE s := by
 have S0 : Snd C r n := S C.hid
 cases stmt with
 | Expr x pos =>
  refine M.iteE h fun hc h => M.bindE h fun v σ₁ h1 h => ?_
  obtain ⟨e1, rfl⟩ := M.pure_iff.mp h
  cases e1
  exact wpAny_Expr_any (ev_then (S0.ev h1 hA fm st) fm fun u s₁ ρ₁ t₁ st₁ fm₁ r₁ _ => ⟨ρ₁, t₁.toOwn, st₁, fm₁, rfl⟩) (by unfold interactive; rw [fm.kind]; rfl) (call_no hc)
 | Assign ts value pos =>
  refine only1E h fun t et h => M.iteE h fun ho h => M.bindE h fun v σ₁ h1 h => M.bindE h fun v' σ₂ h2 h => M.bindE h fun vars' σ₃ h3 h4 => ?_
  subst et
  obtain ⟨e1, rfl⟩ := M.pure_iff.mp h4
  cases e1
  exact assign_sound S hA ho h1 h2 h3 fm st
 | Return o pos =>
  cases o with
  | none => exact M.failE h
  | some x =>
   refine M.bindE h fun v σ₁ h1 h => ?_
   obtain ⟨e1, rfl⟩ := M.pure_iff.mp h
   cases e1
   exact wpAny_Return_some (ev_then (S0.ev h1 hA fm st) fm fun u s₁ ρ₁ t₁ st₁ fm₁ r₁ _ => ⟨ρ₁, t₁.toOwn, st₁, fm₁, u, rfl, r₁⟩)
 | If t a b pos =>
  refine M.bindE h fun c σ₁ h1 h => if_sound S0 hA h1 ?_ fm st
  cases c <;> exact h
 | While t a b pos =>
  refine M.iteE h fun hn h => ?_
  cases isNil_eq hn
  refine wpAny_While (codeAny_mono (while_sound (pos := pos) S0 hA 4096 h fm st) fun rr s' hr => ?_)
  obtain ⟨f, rfl, o⟩ := hr
  exact o
 | For tgt it body b pos =>
  refine M.iteE h fun hn h => M.bindE h fun v σ₁ h1 h => M.bindE2 h fun xs chk σ₂ h2 h4 => ?_
  cases isNil_eq hn
  exact forStmt_sound S0 hA h1 h2 h4 fm st
 | _ => exact M.failE h
theorem exAll_sound (S : ∀ H, Snd { C with hid := H } r n) (hA : Room n A) : ∀ {ss : List Stmt} {e : En} {fl : Fl} {vars : Vars} {σ σ' : Sto} {s : Shared} {ρ : List Addr}, exAll C.cfg r e ss σ = some ((fl, vars), σ') → Frm C ρ e env s.heap → St C ρ σ s →
  wpAny (Mdl C) A (execs ss env) (fun f s' => ExOut C ρ e env s.heap σ' fl vars f s') NoE s
 | [], e, fl, vars, σ, σ', s, ρ, h, fm, st => by
  obtain ⟨e1, rfl⟩ := M.pure_iff.mp h
  cases e1
  exact wpAny_execs_nil ⟨ρ, Tr.refl _ _ _, st, fm, rfl⟩
 | t :: ts, e, fl, vars, σ, σ', s, ρ, h, fm, st => by
  refine M.bindE2 h fun f vars₁ σ₁ h1 h => wpAny_execs_cons (wpAny_same (exStep_sound S hA h1 fm st) fun fl₁ s₁ o => ?_)
  obtain ⟨ρ₁, t₁, st₁, fm₁, hf⟩ := o
  cases f with
  | next =>
   cases (show fl₁ = .next from hf)
   exact wpAny_same (exAll_sound S hA h fm₁ st₁) fun _ s₂ ⟨ρ₂, t₂, x⟩ => ⟨ρ₂, Tr.own t₁ st₁ fm₁ t₂, x⟩
  | ret v =>
   obtain ⟨e1, rfl⟩ := M.pure_iff.mp h
   cases e1
   obtain ⟨u, rfl, ru⟩ := hf
   exact ⟨ρ₁, t₁, st₁, fm₁, u, rfl, ru⟩
theorem callE_sound (G : Good C) (S0 : Snd C r n) (hks : (∀ H, Snd { C with hid := H } r n) ∧ Room n A.in1.in1) (hA : Room n A) {f : Expr} {args : List Expr} {kws : List Keyword} {p : Pos} {v : V} (h : callE C.cfg r e f args kws p σ = some (v, σ')) (fm : Frm C ρ e env s.heap) (st : St C ρ σ s) :
  wpAny (Mdl C) A (eval (.Call f args kws p) env) (fun u s' => Out C Nox ρ s.heap σ' (fun ρ' h' => R C ρ' h' v u) s') NoE s := by
 cases f with
 | Attribute o nm ap =>
  refine M.iteE h fun hq h => M.bindE h fun ov σ₁ h1 h => M.bindE h fun vs σ₂ h2 h4 => ?_
  simp only [Bool.and_eq_true, decide_eq_true_eq] at hq
  cases isNil_eq hq.1.1.1
  exact callMethod_sound G S0 hq.1.1.2 hq.1.2 hq.2 h1 h2 h4 hA fm st
 | Name fn fp => exact M.iteE h fun _ h => M.bindE h fun fv σ₁ h1 h => M.bindE h fun vs σ₂ h2 h => M.bindE h fun kvs σ₃ h3 h => callName_sound G S0 hks h1 h2 h3 h hA fm st
 | _ => exact M.failE h
theorem evStep_sound (G : Good C) (S : ∀ H, Snd { C with hid := H } r n) (hks : (∀ H, Snd { C with hid := H } r n) ∧ Room n A.in1.in1) (hA : Room n A) {x : Expr} {v : V} (h : evStep C.cfg r e x σ = some (v, σ')) (fm : Frm C ρ e env s.heap) (st : St C ρ σ s) :
  EvOk C A (freshForm x) (eval x env) ρ s σ' v := by
 cases x with
 | ListComp elt gens sc p => exact listComp_sound S hA h fm st
 | Call f args kws p => exact ev_plain (callE_sound G (S C.hid) hks hA h fm st)
 | _ => exact evPlain_sound G (S C.hid) rfl rfl h hA fm st
end
theorem zip_lookups : ∀ {ns : List Str} {us : List Value}, us.length = ns.length → ns.Nodup → (ns.filterMap fun n => ((ns.zip us).lookup n).map (n, ·)) = ns.zip us := by
 have key : ∀ (ms : List Str) (ws : List Value) (ps : List (Str × Value)), ms.length = ws.length → (∀ x u, (x, u) ∈ ms.zip ws → ps.lookup x = some u) → (ms.filterMap fun n => (ps.lookup n).map (n, ·)) = ms.zip ws := by
  intro ms
  induction ms with
  | nil => intro ws ps _ _; rfl
  | cons m ms ih =>
   intro ws ps hl hp
   cases ws with
   | nil => simp at hl
   | cons w ws =>
    rw [List.zip_cons_cons, List.filterMap_cons_some (b := (m, w)) (by rw [hp m w (by simp)]; rfl), ih ws ps (by simpa using hl) fun x u hx => hp x u (by simp [hx])]
 intro ns us hl hn
 refine key ns us _ hl.symm fun x u hx => lookup_nodup (by rw [List.map_fst_zip (by lia)]; exact hn) hx
theorem zip_isSome {ns : List Str} {us : List Value} (hl : us.length = ns.length) {x : Str} (hx : x ∈ ns) : ∃ u, (ns.zip us).lookup x = some u := by
 obtain ⟨i, hi, rfl⟩ := List.getElem_of_mem hx
 exact lookup_of_mem (c := us[i]'(by lia)) (List.mem_iff_getElem.mpr ⟨i, by simp; lia, by simp⟩)
theorem wpAny_if_false {α : Type} {M : Model} {A : Around} {s : Shared} {E : Value → Shared → Prop} {a b : Sem α} {c : Bool} {Q : α → Shared → Prop} (hc : c = false) (h : wpAny M A b Q E s) : wpAny M A (if c = true then a else b) Q E s := by rw [hc]; exact h
theorem wpAny_if_true {α : Type} {M : Model} {A : Around} {s : Shared} {E : Value → Shared → Prop} {a b : Sem α} {c : Bool} {Q : α → Shared → Prop} (hc : c = true) (h : wpAny M A a Q E s) : wpAny M A (if c = true then a else b) Q E s := by rw [hc]; exact h
noncomputable def fillOne (S : List (Str × Value)) (p : Str × Value) : List (Str × Value) := if (S.lookup p.1).isNone = true then S ++ [p] else S
theorem fill_loop : ∀ (l S : List (Str × Value)), (forIn l S fun x S => (match x with
  | (name, d) => if (List.lookup name S).isNone = true then pure (ForInStep.yield (S ++ [(name, d)])) else pure (ForInStep.yield S) : Sem (ForInStep (List (Str × Value))))) = pure (l.foldl fillOne S)
 | [], S => rfl
 | (n, d) :: l, S => by
  rw [List.forIn_cons, List.foldl_cons, ← fill_loop l]
  unfold fillOne
  by_cases q : (List.lookup n S).isNone = true
  ·simp only [if_pos q]; rfl
  ·simp only [if_neg q]; rfl
inductive KwFill (M : Model) (A : Around) (s : Shared) (kV : Value) (S : List (Str × Value)) : List Str → List (Str × Value) → Prop
 | none : KwFill M A s kV S [] S
 | given {k : Str} (h : (S.lookup k).isNone = false) : KwFill M A s kV S [k] S
 | dflt {k : Str} {K : Addr} {v : Value} (h : (S.lookup k).isNone = true) (e : kV = .ref K) (g : ∀ {Q : Option Value → Shared → Prop}, Q (some v) s → wpAny M A (nsGet K k) Q NoE s) : KwFill M A s kV S [k] (S ++ [(k, v)])
inductive KwGiven (ns ks : List Str) (S : List (Str × Value)) : List (Str × Value) → List (Str × Value) → Prop
 | none : KwGiven ns ks S [] S
 | one {n : Str} {v : Value} (h : (ns.contains n || ks.contains n) = true) (g : (S.lookup n).isSome = false) : KwGiven ns ks S [(n, v)] (S ++ [(n, v)])
theorem bind_gen {fd : FuncData} {M : Model} {A : Around} {s : Shared} {Q : List (Str × Value) → Shared → Prop} {us : List Value} {kw S0 S2 : List (Str × Value)} {ns ks : List Str} {dopt : Option (Array Value)} (h1 : fd.params.posonlyargs = []) (h2 : fd.params.vararg = none) (h3 : fd.params.kwarg = none)
  (hn : fd.params.args.map (·.arg) = ns) (hk : fd.params.kwonlyargs.map (·.arg) = ks) (hkw : KwGiven ns ks (ns.zip us) kw S0) (hd : ∀ {Q : Option (Array Value) → Shared → Prop}, Q dopt s → wpAny M A (seqItems? fd.defaults) Q NoE s) (hl : us.length ≤ ns.length) (hdl : (dopt.getD #[]).toList.length ≤ ns.length)
  (hm : (List.take (ns.length - (dopt.getD #[]).toList.length) ns).filter (fun n => (S0.lookup n).isNone) = [])
  (h4 : KwFill M A s fd.kwdefaults (((List.drop (ns.length - (dopt.getD #[]).toList.length) ns).zip (dopt.getD #[]).toList).foldl fillOne S0) ks S2) (hq : Q ((ns ++ ks).filterMap fun n => (S2.lookup n).map (n, ·)) s) : wpAny M A (bindArgs fd ⟨us, kw⟩) Q NoE s := by
 obtain ⟨nm, qn, params, body, scope, globals, closure, ct, code, bl, dflt, kwd, ann, pm, doc⟩ := fd
 obtain ⟨po, args, va, ko, kwdf, kwa, df⟩ := params
 cases h1; cases h2; cases h3; cases hn; cases hk
 generalize hds : (dopt.getD #[]).toList = ds at *
 have hl' : us.length ≤ (args.map (·.arg)).length := hl
 have e0 : ds.length - (args.map (·.arg)).length = 0 := Nat.sub_eq_zero_of_le hdl
 clear hl hdl
 show wpAny M A (forIn kw ((args.map (·.arg)).zip us, ([] : List (Str × Value))) _ >>= _) Q NoE s
 refine wpAny_bind (wpAny_mono (Q := fun r s' => r = (S0, []) ∧ s' = s) ?_ (fun r s' hr => ?_) fun _ _ x => x)
 ·cases hkw with
  | none => exact wpAny_pure ⟨rfl, rfl⟩
  | one h g =>
   rw [List.forIn_cons]
   exact wpAny_bind (wpAny_if_true h (wpAny_if_false g (wpAny_pure (wpAny_pure ⟨rfl, rfl⟩))))
 obtain ⟨rfl, rfl⟩ := hr
 refine wpAny_bind (hd ?_)
 refine wpAny_if_false (c := decide (us.length > (args.map (·.arg)).length) && true) (by rw [decide_eq_false (Nat.not_lt.mpr hl')]; rfl) ?_
 refine wpAny_if_false (c := !(List.filter (fun n => (List.lookup n S0).isNone) (List.take ((args.map (·.arg)).length - (List.drop ((dopt.getD #[]).toList.length - (args.map (·.arg)).length) (dopt.getD #[]).toList).length) (args.map (·.arg)))).isEmpty) (by rw [hds, e0, List.drop_zero, hm]; rfl) ?_
 show wpAny M A (forIn ((List.drop ((args.map (·.arg)).length - (List.drop ((dopt.getD #[]).toList.length - (args.map (·.arg)).length) (dopt.getD #[]).toList).length) (args.map (·.arg))).zip (List.drop ((dopt.getD #[]).toList.length - (args.map (·.arg)).length) (dopt.getD #[]).toList)) S0 _ >>= _) Q NoE s'
 rw [hds, e0, List.drop_zero]
 refine wpAny_bind (wpAny_of_eq (fill_loop _ _) ?_)
 generalize List.foldl fillOne S0 _ = S1 at h4
 refine wpAny_bind (wpAny_mono (Q := fun r s₂ => r = (S2, []) ∧ s₂ = s') ?_ (fun r s₂ hr => ?_) fun _ _ x => x)
 ·generalize ko.map (·.arg) = kz at h4
  cases h4 with
  | none => exact wpAny_pure ⟨rfl, rfl⟩
  | given h =>
   rw [List.forIn_cons]
   exact wpAny_bind (wpAny_if_false h (wpAny_pure (wpAny_pure ⟨rfl, rfl⟩)))
  | dflt h e g =>
   cases e
   rw [List.forIn_cons]
   exact wpAny_bind (wpAny_if_true h (wpAny_bind (g (wpAny_pure (wpAny_pure ⟨rfl, rfl⟩)))))
 obtain ⟨rfl, rfl⟩ := hr
 exact wpAny_if_false rfl (wpAny_pure hq)
theorem bind_plain {fd : FuncData} {M : Model} {A : Around} {s : Shared} {Q : List (Str × Value) → Shared → Prop} {us : List Value} (hp : plainArgs fd.params = true) (hd : fd.defaults = .none)
  (hl : us.length = (argNames fd.params).length) (hn : (argNames fd.params).Nodup) (h : Q ((argNames fd.params).zip us) s) : wpAny M A (bindArgs fd ⟨us, []⟩) Q NoE s := by
 simp only [plainArgs, Bool.and_eq_true, List.isEmpty_iff, Option.isNone_iff_eq_none] at hp
 refine bind_gen (ks := []) (S2 := (argNames fd.params).zip us) (dopt := none) hp.1.1.1.1.1 hp.1.1.1.1.2 hp.1.2 rfl (by rw [hp.1.1.1.2]; rfl) .none (fun h => by rw [hd]; exact wpAny_pure h) (Nat.le_of_eq hl) (Nat.zero_le _) ?_ (by rw [show (none.getD #[] : Array Value).toList = [] from rfl, List.zip_nil_right]; exact .none) (by rw [List.append_nil]; exact (zip_lookups hl hn).symm ▸ h)
 rw [List.filter_eq_nil_iff]
 intro x hx
 obtain ⟨u, hu⟩ := zip_isSome hl (List.mem_of_mem_take hx)
 rw [show List.lookup x ((fd.params.args.map (·.arg)).zip us) = some u from hu]
 exact Bool.false_ne_true
noncomputable abbrev bN : List Str := [Str.ofString "a", Str.ofString "x", Str.ofString "lo", Str.ofString "hi"]
section
variable {fd : FuncData} {M : Model} {A : Around} {s : Shared} {Q : List (Str × Value) → Shared → Prop} {T K : Addr} {o : Obj} {nT : Nat} {t : Tok} {l u v x y : Value}
theorem bind_bis {us : List Value} {kw S0 S2 bs : List (Str × Value)} (hp : bisectArgs fd.params = true) (hd : fd.defaults = .ref T) (hT : s.heap.get? T = some o) (hTd : o.data = .seq #[.int 0 t, .none] nT) (hkw : KwGiven bN [Str.ofString "key"] (bN.zip us) kw S0) (hl : us.length ≤ 4)
  (hm : [Str.ofString "a", Str.ofString "x"].filter (fun n => (S0.lookup n).isNone) = []) (h4 : KwFill M A s fd.kwdefaults ([(Str.ofString "lo", .int 0 t), (Str.ofString "hi", .none)].foldl fillOne S0) [Str.ofString "key"] S2)
  (e : ((bN ++ [Str.ofString "key"]).filterMap fun n => (S2.lookup n).map (n, ·)) = bs) (hq : Q bs s) : wpAny M A (bindArgs fd ⟨us, kw⟩) Q NoE s := by
 simp only [bisectArgs, Bool.and_eq_true, List.isEmpty_iff, Option.isNone_iff_eq_none, beq_iff_eq] at hp
 exact bind_gen (ns := bN) (dopt := some #[.int 0 t, .none]) hp.1.1.1.1.1.1 hp.1.1.1.1.1.2 hp.1.1.1.1.2 hp.1.1.1.2 hp.1.1.2 hkw (fun h => by rw [hd]; exact wpAny_seqItems hT hTd h) hl (show (2 : Nat) ≤ 4 by decide) hm h4 (e ▸ hq)
variable (hp : bisectArgs fd.params = true) (hd : fd.defaults = .ref T) (hT : s.heap.get? T = some o) (hTd : o.data = .seq #[.int 0 t, .none] nT) (hk : fd.kwdefaults = .ref K) (hK : s.heap.Ns K (fun x => if x = Str.ofString "key" then some .none else none))
include hp hd hT hTd
theorem kw_no {S : List (Str × Value)} (hk : fd.kwdefaults = .ref K) (hK : s.heap.Ns K (fun x => if x = Str.ofString "key" then some .none else none)) (h : (S.lookup (Str.ofString "key")).isNone = true) : KwFill M A s fd.kwdefaults S [Str.ofString "key"] (S ++ [(Str.ofString "key", .none)]) :=
 .dflt h hk fun q => wpAny_nsGet hK (by rw [if_pos rfl]; exact q)
include hk hK
theorem bind_bisect1 (hq : Q [(Str.ofString "a", x), (Str.ofString "x", y), (Str.ofString "lo", Value.int 0 t), (Str.ofString "hi", Value.none), (Str.ofString "key", Value.none)] s) : wpAny M A (bindArgs fd ⟨[x, y], []⟩) Q NoE s :=
 bind_bis hp hd hT hTd .none (show (2 : Nat) ≤ 4 by decide) (by kernel_rfl) (kw_no hp hd hT hTd hk hK (by kernel_rfl)) (by kernel_rfl) hq
theorem bind_bisect2 (hq : Q [(Str.ofString "a", x), (Str.ofString "x", y), (Str.ofString "lo", l), (Str.ofString "hi", Value.none), (Str.ofString "key", Value.none)] s) : wpAny M A (bindArgs fd ⟨[x, y, l], []⟩) Q NoE s :=
 bind_bis hp hd hT hTd .none (show (3 : Nat) ≤ 4 by decide) (by kernel_rfl) (kw_no hp hd hT hTd hk hK (by kernel_rfl)) (by kernel_rfl) hq
theorem bind_bisect3 (hq : Q [(Str.ofString "a", x), (Str.ofString "x", y), (Str.ofString "lo", l), (Str.ofString "hi", u), (Str.ofString "key", Value.none)] s) : wpAny M A (bindArgs fd ⟨[x, y, l, u], []⟩) Q NoE s :=
 bind_bis hp hd hT hTd .none (show (4 : Nat) ≤ 4 by decide) (by kernel_rfl) (kw_no hp hd hT hTd hk hK (by kernel_rfl)) (by kernel_rfl) hq
omit hk hK in
theorem bind_bisect4 (hq : Q [(Str.ofString "a", x), (Str.ofString "x", y), (Str.ofString "lo", Value.int 0 t), (Str.ofString "hi", Value.none), (Str.ofString "key", v)] s) : wpAny M A (bindArgs fd ⟨[x, y], [(Str.ofString "key", v)]⟩) Q NoE s :=
 bind_bis hp hd hT hTd (.one (by kernel_rfl) (by kernel_rfl)) (show (2 : Nat) ≤ 4 by decide) (by kernel_rfl) (.given (by kernel_rfl)) (by kernel_rfl) hq
theorem bind_bisect5 (hq : Q [(Str.ofString "a", x), (Str.ofString "x", y), (Str.ofString "lo", Value.int 0 t), (Str.ofString "hi", v), (Str.ofString "key", Value.none)] s) : wpAny M A (bindArgs fd ⟨[x, y], [(Str.ofString "hi", v)]⟩) Q NoE s :=
 bind_bis hp hd hT hTd (.one (by kernel_rfl) (by kernel_rfl)) (show (2 : Nat) ≤ 4 by decide) (by kernel_rfl) (kw_no hp hd hT hTd hk hK (by kernel_rfl)) (by kernel_rfl) hq
omit hk hK in
theorem bind_bisect6 (hq : Q [(Str.ofString "a", x), (Str.ofString "x", y), (Str.ofString "lo", l), (Str.ofString "hi", u), (Str.ofString "key", v)] s) : wpAny M A (bindArgs fd ⟨[x, y, l, u], [(Str.ofString "key", v)]⟩) Q NoE s :=
 bind_bis hp hd hT hTd (.one (by kernel_rfl) (by kernel_rfl)) (show (4 : Nat) ≤ 4 by decide) (by kernel_rfl) (.given (by kernel_rfl)) (by kernel_rfl) hq
end
section
variable {C : Cx} {ρ ρ₁ ρ₂ : List Addr} {σ σ' σ₁ σ₂ : Sto} {s s₁ s₂ : Shared} {A : Around} {h h' : Heap} {env cenv : Env} {e : En} {r : Rec} {n : Nat} {I D L : Addr}
theorem Rk.keys {h : Heap} : ∀ {vs : List (Str × V)} {bs : List (Str × Value)}, Rk C ρ h vs bs → bs.map (·.1) = vs.map (·.1)
 | [], _, r => by cases (show _ = [] from r); rfl
 | (x, v) :: vs, bs, r => by
  obtain ⟨u, bs', rfl, _, r'⟩ := r
  simp [r'.keys]
theorem Rk.lookup {h : Heap} (x : Str) : ∀ {vs : List (Str × V)} {bs : List (Str × Value)}, Rk C ρ h vs bs → RO C ρ h (vs.lookup x) (bs.lookup x)
 | [], _, r => by cases (show _ = [] from r); exact (show _ = none from rfl)
 | (y, v) :: vs, bs, r => by
  obtain ⟨u, bs', rfl, ru, r'⟩ := r
  rw [List.lookup_cons, List.lookup_cons]
  cases x == y with
  | true => exact ⟨u, rfl, ru⟩
  | false => exact r'.lookup x
theorem Rk.zip {h : Heap} : ∀ {ns : List Str} {vs : List V} {us : List Value}, Rs C ρ h vs us → Rk C ρ h (ns.zip vs) (ns.zip us)
 | [], _, _, _ => show _ = [] from rfl
 | _ :: _, [], _, r => by cases (show _ = [] from r); exact (show _ = [] from rfl)
 | x :: ns, v :: vs, us, r => by
  obtain ⟨u, us', rfl, ru, r'⟩ := r
  exact (show Ex2 fun _ _ => _ from ⟨u, _, rfl, ru, Rk.zip r'⟩)
theorem R.zero {h : Heap} (t : Tok) : R C ρ h (.int 0) (.int 0 t) := R.mkInt
theorem Rk.five {h : Heap} {x y l u k : V} {x' y' l' u' k' : Value} (rx : R C ρ h x x') (ry : R C ρ h y y') (rl : R C ρ h l l') (ru : R C ρ h u u') (rk : R C ρ h k k') :
  Rk C ρ h (binds5 x y l u k) [(Str.ofString "a", x'), (Str.ofString "x", y'), (Str.ofString "lo", l'), (Str.ofString "hi", u'), (Str.ofString "key", k')] :=
 ⟨_, _, rfl, rx, _, _, rfl, ry, _, _, rfl, rl, _, _, rfl, ru, _, _, rfl, rk, rfl⟩
@[elab_as_elim] theorem Rk.oneE {h : Heap} {p : Str × V} {ks : List (Str × Value)} {motive : List (Str × Value) → Prop} (r : Rk C ρ h [p] ks) (k : ∀ u, R C ρ h p.2 u → motive [(p.1, u)]) : motive ks := by
 obtain ⟨n, v⟩ := p
 obtain ⟨u, ks', rfl, ru, rfl⟩ : Ex2 fun u ks' => ks = (n, u) :: ks' ∧ R C ρ h v u ∧ ks' = [] := r
 exact k u ru
@[elab_as_elim] theorem Rs.threeE {h : Heap} {x y z : V} {vs : List Value} {motive : List Value → Prop} (r : Rs C ρ h [x, y, z] vs) (k : ∀ u v w, R C ρ h x u → R C ρ h y v → R C ρ h z w → motive [u, v, w]) : motive vs := by
 obtain ⟨u, v, w, rfl, q, q', q''⟩ := Rs.three_iff.mp r; exact k u v w q q' q''
@[elab_as_elim] theorem Rs.fourE {h : Heap} {x y z a : V} {vs : List Value} {motive : List Value → Prop} (r : Rs C ρ h [x, y, z, a] vs) (k : ∀ u v w b, R C ρ h x u → R C ρ h y v → R C ρ h z w → R C ρ h a b → motive [u, v, w, b]) : motive vs := by
 obtain ⟨u, vs', rfl, q, r'⟩ : Ex2 fun u vs' => vs = u :: vs' ∧ R C ρ h x u ∧ Rs C ρ h [y, z, a] vs' := r
 exact r'.threeE fun v w b q1 q2 q3 => k u v w b q q1 q2 q3
theorem bindB_cases {pos : List V} {kw : List (Str × V)} {vars : Vars} {P : Prop} (h : bindB pos kw = some vars) (k1 : ∀ x y, pos = [x, y] → kw = [] → vars = binds5 x y (.int 0) .none .none → P)
  (k2 : ∀ x y l, pos = [x, y, l] → kw = [] → vars = binds5 x y l .none .none → P) (k3 : ∀ x y l u, pos = [x, y, l, u] → kw = [] → vars = binds5 x y l u .none → P)
  (k4 : ∀ x y k, pos = [x, y] → kw = [(Str.ofString "key", k)] → vars = binds5 x y (.int 0) .none k → P) (k5 : ∀ x y u, pos = [x, y] → kw = [(Str.ofString "hi", u)] → vars = binds5 x y (.int 0) u .none → P)
  (k6 : ∀ x y l u k, pos = [x, y, l, u] → kw = [(Str.ofString "key", k)] → vars = binds5 x y l u k → P) : P := by
 have one : ∀ {c : Bool} {o w : Option Vars} {Q : Prop}, (if c = true then o else w) = some vars → (c = true → o = some vars → Q) → (c = false → w = some vars → Q) → Q := fun {c o w Q} h a b => by
  cases c with
  | true => exact a rfl h
  | false => exact b rfl h
 cases pos with
 | nil => cases kw with
  | nil => exact no_none h
  | cons p kw => cases kw <;> exact no_none h
 | cons x pos => cases pos with
  | nil => cases kw with
   | nil => exact no_none h
   | cons p kw => cases kw <;> exact no_none h
  | cons y pos => cases kw with
   | nil => cases pos with
    | nil => exact k1 x y rfl rfl (Option.some.inj h).symm
    | cons l pos => cases pos with
     | nil => exact k2 x y l rfl rfl (Option.some.inj h).symm
     | cons u pos => cases pos with
      | nil => exact k3 x y l u rfl rfl (Option.some.inj h).symm
      | cons => exact no_none h
   | cons p kw => cases kw with
    | cons => exact no_none h
    | nil =>
     obtain ⟨n, v⟩ := p
     cases pos with
     | nil => exact one h (fun hn h => k4 x y v rfl (by rw [show n = _ from eq_of_beq hn]) (Option.some.inj h).symm) fun _ h => one h (fun hn h => k5 x y v rfl (by rw [show n = _ from eq_of_beq hn]) (Option.some.inj h).symm) fun _ h => no_none h
     | cons l pos => cases pos with
      | nil => exact no_none h
      | cons u pos => cases pos with
       | nil => exact one h (fun hn h => k6 x y l u v rfl (by rw [show n = _ from eq_of_beq hn]) (Option.some.inj h).symm) fun _ h => no_none h
       | cons => exact no_none h
theorem bindV_sound {fd : FuncData} {M : Model} {A : Around} {pos : List V} {kw : List (Str × V)} {us : List Value} {ks : List (Str × Value)} {vars : Vars} {Q : List (Str × Value) → Shared → Prop} (hb : bindV fd.params pos kw = some vars)
  (hdf : DfltAt C.h₀ fd.params fd.defaults fd.kwdefaults) (st : St C ρ σ s) (rs : Rs C ρ s.heap pos us) (rk : Rk C ρ s.heap kw ks) (hnd : (vars.map (·.1)).Nodup) (hq : ∀ binds, Rk C ρ s.heap vars binds → Q binds s) :
  wpAny M A (bindArgs fd ⟨us, ks⟩) Q NoE s := by
 by_cases hp : plainArgs fd.params = true
 ·have hb : (if plainArgs fd.params = true then _ else _) = some vars := hb
  rw [if_pos hp] at hb
  by_cases hk : (isNil kw && pos.length == (argNames fd.params).length) = true
  ·rw [if_pos hk] at hb
   cases hb
   rw [Bool.and_eq_true, beq_iff_eq] at hk
   cases isNil_eq hk.1
   cases rk.nil_of
   rcases hdf with ⟨_, h1, h2⟩ | ⟨h1, _⟩
   ·exact bind_plain hp h1 (by rw [rs.length, hk.2]) (by rw [List.map_fst_zip (by lia)] at hnd; exact hnd) (hq _ (Rk.zip rs))
   ·simp only [plainArgs, Bool.and_eq_true, List.isEmpty_iff] at hp
    simp only [bisectArgs, Bool.and_eq_true, beq_iff_eq] at h1
    have := h1.1.1.2
    rw [hp.1.1.1.2] at this
    cases this
  ·rw [if_neg hk] at hb; exact no_none hb
 ·have hb : (if plainArgs fd.params = true then _ else if bisectArgs fd.params = true then bindB pos kw else none) = some vars := hb
  rw [if_neg hp] at hb
  by_cases hbi : bisectArgs fd.params = true
  ·rw [if_pos hbi] at hb
   rcases hdf with ⟨h1, _⟩ | ⟨_, T, o, nT, t, e1, hT, _, hTd, K, e2, hK⟩
   ·exact (hp h1).elim
   have hT' := st.rel.base _ _ hT
   have hK' : s.heap.Ns K (fun x => if x = Str.ofString "key" then some .none else none) := let ⟨o, es, ep, ho, q⟩ := hK; ⟨o, es, ep, st.rel.base _ _ ho, q⟩
   clear hK hT hnd hp
   refine bindB_cases hb (fun x y ep ek ev => ?_) (fun x y l ep ek ev => ?_) (fun x y l u ep ek ev => ?_) (fun x y k ep ek ev => ?_) (fun x y u ep ek ev => ?_) (fun x y l u k ep ek ev => ?_) <;> subst ep ek ev
   ·cases rk.nil_of
    exact rs.twoE fun x' y' rx ry => bind_bisect1 hbi e1 hT' hTd e2 hK' (hq _ (Rk.five rx ry (R.zero t) R.mkNone R.mkNone))
   ·cases rk.nil_of
    exact rs.threeE fun x' y' l' rx ry rl => bind_bisect2 hbi e1 hT' hTd e2 hK' (hq _ (Rk.five rx ry rl R.mkNone R.mkNone))
   ·cases rk.nil_of
    exact rs.fourE fun x' y' l' u' rx ry rl ru => bind_bisect3 hbi e1 hT' hTd e2 hK' (hq _ (Rk.five rx ry rl ru R.mkNone))
   ·exact rs.twoE fun x' y' rx ry => rk.oneE fun w rw' => bind_bisect4 hbi e1 hT' hTd (hq _ (Rk.five rx ry (R.zero t) R.mkNone rw'))
   ·exact rs.twoE fun x' y' rx ry => rk.oneE fun w rw' => bind_bisect5 hbi e1 hT' hTd e2 hK' (hq _ (Rk.five rx ry (R.zero t) rw' R.mkNone))
   ·exact rs.fourE fun x' y' l' u' rx ry rl ru => rk.oneE fun w rw' => bind_bisect6 hbi e1 hT' hTd (hq _ (Rk.five rx ry rl ru rw'))
  ·rw [if_neg hbi] at hb; exact no_none hb
theorem bindL_lookup {kindOf : Str → Option NameKind} {x : Str} (hx : kindOf x = some .local) : ∀ (bs : List (Str × Value)) (m : Str → Option Value), (bs.map (·.1)).Nodup → bindL kindOf bs m x = (bs.lookup x).or (m x)
 | [], m, _ => by simp [bindL]
 | (y, v) :: bs, m, hn => by
  obtain ⟨h1, h2⟩ := List.nodup_cons.mp hn
  unfold bindL
  rw [bindL_lookup hx bs _ h2, List.lookup_cons]
  by_cases q : x = y
  ·subst q
   have : bs.lookup x = none := by
    cases e1 : bs.lookup x with
    | none => rfl
    | some d => exact (h1 (List.mem_map.mpr ⟨_, mem_of_lookup e1, rfl⟩)).elim
   simp [this, hx]
  ·have : (x == y) = false := by simp [q]
   simp only [this]
   split <;> simp [q]
theorem bindC_lookup {kindOf : Str → Option NameKind} {x : Str} (hx : kindOf x ≠ some .local) : ∀ (bs : List (Str × Value)) (m : Str → Option Value), (bs.map (·.1)).Nodup → bindC kindOf bs m x = (bs.lookup x).or (m x)
 | [], m, _ => by simp [bindC]
 | (y, v) :: bs, m, hn => by
  obtain ⟨h1, h2⟩ := List.nodup_cons.mp hn
  unfold bindC
  rw [bindC_lookup hx bs _ h2, List.lookup_cons]
  by_cases q : x = y
  ·subst q
   have : bs.lookup x = none := by
    cases e1 : bs.lookup x with
    | none => rfl
    | some d => exact (h1 (List.mem_map.mpr ⟨_, mem_of_lookup e1, rfl⟩)).elim
   simp [this, hx]
  ·have : (x == y) = false := by simp [q]
   simp only [this]
   split <;> simp [q]
noncomputable def retV (fl : Fl) : M V := match fl with
 | .ret v => M.pure v
 | .next => M.pure .none
theorem callStep_body (G : Good C) (S : Snd C r n) {f : Str} {pos : List V} {kw : List (Str × V)} {v : V} {ad : Addr} {us : List Value} {ks : List (Str × Value)} {a : Arguments} {body : List Stmt} {sc : Scope} {vars vars' : Vars} {fl : Fl} (hb : bindV a pos kw = some vars) (hkind : sc.kind = .function) (hn : noDup sc = true)
  (hv : ∀ p ∈ vars, storable ⟨sc.names, []⟩ p.1 = true) (hnd : (vars.map (·.1)).Nodup) (h3 : r.ex ⟨sc.names, vars⟩ body σ = some ((fl, vars'), σ₁)) (h : retV fl σ₁ = some (v, σ')) (hA : Room (n + 1) A) (st : St C ρ σ s)
  (hm : C.mg f = some (.ref ad)) (rs : Rs C ρ s.heap pos us) (rk : Rk C ρ s.heap kw ks) (hf : FnAt C f a body sc) : wpAny (Mdl C) A (call (.ref ad) us ks) (fun u s' => Out C Nox ρ s.heap σ' (fun ρ' h' => R C ρ' h' v u) s') NoE s := by
 obtain ⟨⟨ad', o, fd⟩, c1, c2, c3, c4, c5, c6, c7, c8, c9, c10, c11, c12, c13, c14, c15⟩ := hf
 dsimp only at c1 c2 c3 c4 c5 c6 c7 c8 c9 c10 c11 c15
 rw [hm] at c1; cases c1
 subst c5 c7
 have hnn := nodup_iff.mp (show nodup (fd.scope.names.map (·.1)) = true from hn)
 refine wpAny_call (codeAny_call_function hA.lim (st.rel.base _ _ c2) c4 c12 c13 c6 (c11.keeps st.rel.base) (wpAny_noE ?_))
 refine bindV_sound hb c15 st rs rk hnd fun binds rb => wpAny_noE ?_
 have hkeys := rb.keys
 have hbn : (binds.map (·.1)).Nodup := hkeys ▸ hnd
 rw [c9]
 refine wpAny_newFunctionEnv_cells hkind (fun x hx => ?_) fun env he s' ic => ?_
 ·have hx' : x.1 ∈ vars.map (·.1) := hkeys ▸ List.mem_map.mpr ⟨x, hx, rfl⟩
  obtain ⟨q, hq, hqx⟩ := List.mem_map.mp hx'
  have := hv q hq
  rw [hqx] at this
  refine storable_cases this .inl fun hl => ?_
  obtain ⟨c, hc⟩ := cellsFrom_has fd.scope.names (s.heap.objs.size + 1) (mem_of_lookup hl)
  obtain ⟨d, hd⟩ := lookup_of_mem hc
  exact .inr ⟨hl, by rw [hd]; rfl⟩
 ·have hkof : ∀ x, env.kindOf x = fd.scope.names.lookup x := fun x => by rw [he]; rfl
  have hcl : env.cells = cellsFrom (s.heap.objs.size + 1) fd.scope.names [] := by rw [he]; rfl
  have hLoc : env.locals = s.heap.objs.size := by rw [he]; rfl
  obtain ⟨h', tk, e1⟩ := ic.toInCall.same
  have keep := ic.toInCall.keep
  have st' : St C ρ σ s' := by rw [e1] at keep ⊢; exact st.keeps keep
  have g : Grow C ρ ρ s.heap s'.heap := Grow.ofKeeps keep
  have cellOf : ∀ x c, env.cells.lookup x = some c → fd.scope.names.lookup x = some .cell := fun x c hc => by
   rw [hcl] at hc
   exact lookup_nodup hnn (cellsFrom_mem _ _ (mem_of_lookup hc))
  have gone : ∀ a, env.locals ≤ a → s.heap.get? a = none := fun a ha => Heap.get?_none_of_le (hLoc ▸ ha)
  have above : ∀ x c, env.cells.lookup x = some c → s.heap.get? c = none   := fun x c hc => gone c (Nat.le_of_lt (ic.above x c (mem_of_lookup hc)))
  have fm : Frm C ρ ⟨fd.scope.names, vars⟩ env s'.heap := by
   refine ⟨by rw [he]; exact hkind, by rw [he]; exact c8, by rw [he]; exact c10, fun x => ?_, ⟨_, ic.toInCall.ns, fun x hx => ?_⟩, fun x hx => ?_, fun x c hc => ?_, fun x y c hx hy => name_of_addr ic.apart (mem_of_lookup hx) (mem_of_lookup hy),
    fun x c hc => Nat.ne_of_gt (ic.above x c (mem_of_lookup hc)), (st.offNew (gone _ (Nat.le_refl _))).1, fun x c hc => (st.offNew (above x c hc)).1, st.h0none (gone _ (Nat.le_refl _)), fun x c hc => st.h0none (above x c hc), (st.offNew (gone _ (Nat.le_refl _))).2, fun x c hc => (st.offNew (above x c hc)).2⟩
   ·rw [hkof]
    show KindOk (fd.scope.names.lookup x) (fd.scope.names.lookup x)
    cases hk : fd.scope.names.lookup x with
    | none => trivial
    | some k =>
     cases k with
     | free => exact (c14 _ (mem_of_lookup hk) rfl).elim
     | globalExplicit => trivial
     | _ => rfl
   ·have hx : fd.scope.names.lookup x = some .local := hx
    rw [bindL_lookup (by rw [hkof, hx]) binds _ hbn]
    have := (rb.lookup x).mono g
    simpa using this
   ·have hx : isBoxed (fd.scope.names.lookup x) := hx
    cases hk : fd.scope.names.lookup x with
    | none => rw [hk] at hx; exact hx.elim
    | some k =>
     rw [hk] at hx
     cases k with
     | cell =>
      obtain ⟨c, hc⟩ := cellsFrom_has fd.scope.names (s.heap.objs.size + 1) (mem_of_lookup hk)
      obtain ⟨d, hd⟩ := lookup_of_mem hc
      rw [← hcl] at hd
      refine ⟨d, _, hd, ic.cell x d hd, ?_⟩
      rw [bindC_lookup (by rw [hkof, hk]; simp) binds _ hbn]
      have := (rb.lookup x).mono g
      simpa using this
     | free => exact (c14 _ (mem_of_lookup hk) rfl).elim
     | _ => exact hx.elim
   ·show isBoxed (fd.scope.names.lookup x)
    rw [cellOf x c hc]; trivial
  refine ⟨(G.nolimit.keeps st.rel.base).keeps keep, codeAny_func (wpAny_noE (wpAny_mono (S.ex h3 hA.deeper fm st') (fun f s'' o => ?_) fun _ _ x => x))⟩
  obtain ⟨ρ', t, st'', fm'', hf⟩ := o
  have tr : Tr Nox ρ ρ' s.heap s''.heap := ⟨t.grow.imp fun new hn => ⟨hn.1, fun a ha => by
   cases e2 : s.heap.get? a with
   | none => rfl
   | some o' => have := hn.2 a ha; rw [keep a o' e2] at this; cases this⟩, fun b o' _ hρ eb => t.keep b o' (fun q => by
    rcases q with q | ⟨z, _, q⟩
    ·rw [gone b (by rw [q]; exact Nat.le_refl _)] at eb; cases eb
    ·rw [above z b q] at eb; cases eb) hρ (keep b o' eb)⟩
  cases fl with
  | next =>
   refine M.pureE h ?_
   cases (show f = .next from hf)
   exact ⟨ρ', tr, st'', R.mkNone⟩
  | ret w =>
   refine M.pureE h ?_
   obtain ⟨u, rfl, ru⟩ := hf
   exact ⟨ρ', tr, st'', ru⟩
theorem callStep_sound (G : Good C) (S : Snd C r n) {f : Str} {pos : List V} {kw : List (Str × V)} {v : V} {ad : Addr} {us : List Value} {ks : List (Str × Value)} (h : callStep C.cfg r f pos kw σ = some (v, σ')) (hA : Room (n + 1) A) (st : St C ρ σ s)
  (hm : C.mg f = some (.ref ad)) (rs : Rs C ρ s.heap pos us) (rk : Rk C ρ s.heap kw ks) : wpAny (Mdl C) A (call (.ref ad) us ks) (fun u s' => Out C Nox ρ s.heap σ' (fun ρ' h' => R C ρ' h' v u) s') NoE s := by
 refine M.bindE3 h fun a body sc σ₁ h1 h => M.iteE h fun hs h => M.bindE h fun vars σ₂ h2 h => M.iteE h fun hv h => M.bindE2 h fun fl vars' σ₃ h3 h5 => ?_
 obtain ⟨hd, rfl⟩ := M.of_iff.mp h1
 obtain ⟨hb, rfl⟩ := M.of_iff.mp h2
 rw [Bool.and_eq_true] at hs
 rw [Bool.and_eq_true, List.all_eq_true] at hv
 have hkind : sc.kind = .function := by have := hs.2; cases hk : sc.kind <;> rw [hk] at this <;> first | rfl | exact nomatch this
 have hnd := nodup_iff.mp hv.1
 exact callStep_body G S hb hkind hs.1 hv.2 hnd h3 h5 hA st hm rs rk (G.fns _ _ _ _ hd)
theorem Room.in2 {n : Nat} {A : Around} (r : Room (n + 1) A) : Room n A.in1.in1 := ⟨by have := r.depth; simp; lia, by have := r.units; simp; lia, r.handled⟩
theorem snd_tie (C : Cx) (G : Good C) : ∀ (n : Nat) (H : Addr → Prop), Snd { C with hid := H } (tie C.cfg n) n
 | 0, H => by
  refine ⟨fun _ _ _ _ => rfl, fun _ _ _ _ _ => rfl, ?_, ?_, ?_, ?_, ?_⟩
  ·intro e x σ v σ' ρ s A env h
   exact nomatch (show (none : Option (V × Sto)) = some (v, σ') from h)
  ·intro e x σ v σ' ρ s A env h
   exact nomatch (show (none : Option (Bool × Sto)) = some (v, σ') from h)
  ·intro e x σ fl vars σ' ρ s A env h
   exact nomatch (show (none : Option ((Fl × Vars) × Sto)) = some ((fl, vars), σ') from h)
  ·intro f pos kw σ v σ' ρ s A ad us ks h
   exact nomatch (show (none : Option (V × Sto)) = some (v, σ') from h)
  ·intro e elt gens scope pos k gs itv vars acc σ vars' acc' σ' ρ s A cenv I D vs all chk h
   exact nomatch (show (none : Option ((Vars × List V) × Sto)) = some ((vars', acc'), σ') from h)
 | n + 1, H => by
  have ih := snd_tie C G n
  have G' := G.hid H
  refine ⟨fun _ _ _ _ => rfl, fun _ _ _ _ _ => rfl, ?_, ?_, ?_, ?_, ?_⟩
  ·intro e x σ v σ' ρ s A env h hA fm st
   exact evStep_sound (C := { C with hid := H }) G' ih ⟨ih, hA.in2⟩ (hA.le (Nat.le_succ n)) h fm st
  ·intro e x σ v σ' ρ s A env h hA fm st
   exact tsStep_sound (C := { C with hid := H }) G' (ih H) h (hA.le (Nat.le_succ n)) fm st
  ·intro e x σ fl vars σ' ρ s A env h hA fm st
   exact exAll_sound (C := { C with hid := H }) ih (hA.le (Nat.le_succ n)) h fm st
  ·intro f pos kw σ v σ' ρ s A ad us ks h hA st hm rs rk
   exact callStep_sound (C := { C with hid := H }) G' (ih H) h hA st hm rs rk
  ·intro e elt gens scope pos k gs itv vars acc σ vars' acc' σ' ρ s A cenv I D vs all chk h hA hg fm st hi it h0I hidI p q hidD hD h0D
   exact compStart_sound (C := { C with hid := H }) (ih H) (hA.le (Nat.le_succ n)) h hg fm st hi it h0I hidI p q hidD hD h0D
end
theorem go_no {s s' : Shared} {t : Thread} {o : Outcome} {P : Prop} (h : Step.go s t = .halt o s') : P := nomatch h
theorem halt_no {s s' : Shared} {o : Outcome} {f : Flow} {P : Prop} (h : Step.halt o s = .halt (.done f) s') (k : ∀ f, o ≠ .done f) : P := by
 cases h; exact (k _ rfl).elim
theorem through_of_halt {den : Code → Sem PySem.Fin} {p : Program} {w : World} {s s' : Shared} {t : Thread} {f : Flow} (h : step den p w s t = .halt (.done f) s') : through t = true ∧ s' = s := by
 obtain ⟨heap, gens, drawn, toks, os⟩ := s
 obtain ⟨cur, code, pos, stack⟩ := t
 cases cur with
 | pure r => cases r with
  | again c => exact go_no h
  | done f' => cases stack with
   | nil =>
    have h : finish (.done f') ⟨heap, gens, drawn, toks, os⟩ = .halt (.done f) s' := h
    unfold finish at h
    split at h
    ·exact halt_no h (fun _ q => nomatch q)
    ·cases h; exact ⟨rfl, rfl⟩
   | cons fr rest => cases fr <;> exact go_no h
 | raise e => cases stack with
  | nil =>
   have h : finish (.uncaught e) ⟨heap, gens, drawn, toks, os⟩ = .halt (.done f) s' := h
   unfold finish at h
   split at h <;> exact halt_no h (fun _ q => nomatch q)
  | cons fr rest => cases fr <;> exact go_no h
 | _ => first
  | exact go_no h
  | exact halt_no h (fun _ q => nomatch q)
  | (simp only [step] at h; (repeat' split at h) <;> first | exact go_no h | exact halt_no h (fun _ q => nomatch q))
theorem run_last {den : Code → Sem PySem.Fin} {p : Program} {w : World} : ∀ (n : Nat) {s s' : Shared} {t : Thread} {f : Flow}, runN den p w n s t = .halted (.done f) s' →
  Ex2 fun m t' => runN den p w m s t = .running s' t' ∧ through t' = true ∧ ∀ k, k < m → Ex4 fun s₁ t₁ s₂ t₂ => runN den p w k s t = .running s₁ t₁ ∧ step den p w s₁ t₁ = .go s₂ t₂
 | 0, s, s', t, f, h => by simp [runN] at h
 | n + 1, s, s', t, f, h => by
  unfold runN at h
  cases hs : step den p w s t with
  | go s₂ t₂ =>
   rw [hs] at h
   obtain ⟨m, t', h1, h2, h3⟩ := run_last n h
   refine ⟨m + 1, t', by unfold runN; rw [hs]; exact h1, h2, fun k hk => ?_⟩
   cases k with
   | zero => exact ⟨s, t, s₂, t₂, rfl, hs⟩
   | succ k =>
    obtain ⟨a, b, c, d, h4, h5⟩ := h3 k (by lia)
    exact ⟨a, b, c, d, by unfold runN; rw [hs]; exact h4, h5⟩
  | halt o s₂ =>
   rw [hs] at h
   cases h
   obtain ⟨h1, rfl⟩ := through_of_halt hs
   exact ⟨0, t, rfl, h1, fun k hk => absurd hk (Nat.not_lt_zero k)⟩
theorem thread_through {prog : Program} {w : World} {t : Sem PySem.Fin} {s : Shared} {R : Shared → Prop} (hreg : s.asleep) (hG : s.gens = #[])
  (h : wpAny (model prog w) callerA t (fun fin s' => ∃ f, fin = .done f ∧ R s' ∧ s'.gens = #[]) (fun _ _ => False) s) :
  ∃ s', (Ex2 fun n t' => schedN (denote table) prog w n (.single s ⟨t, .builtin "claim.caller" {}, default, []⟩) = .running (.single s' t') ∧ through t' = true) ∧ s'.heap.life = s.heap.life ∧ R s' := by
 have h' := wp_of_wpAny_done (R := fun r s' => ((∃ f, r = .ok f) ∧ R s' ∧ s'.gens = #[]) ∧ leftWithCleanup s'.gens = false) caller_in
  (wpAny_mono h (fun _ _ ⟨f, e, a, b⟩ => ⟨f, e, ⟨⟨f, rfl⟩, a, b⟩, by rw [b]; simp [leftWithCleanup]⟩) fun _ _ x => x.elim) default
 obtain ⟨n, r, s₁, hn, ⟨f, rfl⟩, hR, hg⟩ := (wp_iff_halts (M := model prog w) (R := fun r s' => (∃ f, r = .ok f) ∧ R s' ∧ s'.gens = #[]) ..).mp h'
 obtain ⟨s₂, hr, hf, hc⟩ := runNI_real _ _ _ hn (outcomeOf_ends _)
 obtain rfl : s₂ = s₁ := Shared.eq_of_forget_eq hf hg
 have hr' : runN (denote table) prog w n s ⟨t, .builtin "claim.caller" {}, default, []⟩ = .halted (.done f) s₂ := hr
 obtain ⟨m, t', h1, h2, h3⟩ := run_last n hr'
 refine ⟨s₂, ⟨m, t', ?_, h2⟩, runN_life _ _ _ hr, hR⟩
 rw [schedN_prefix (denote table) prog w m s _ hreg (fun k s' t'' hk hrun => ⟨hc k s' t'' hrun, fun q => ?_⟩), h1]
 ·rfl
 ·obtain ⟨a, b, c, d, h4, h5⟩ := h3 k hk
  rw [hrun] at h4; cases h4
  rw [q] at h5; cases h5
section
variable {prog : Program} {w : World} {K : Type} [DecidableEq K] {knd : PySem.KeyKind prog w K} {A : Around} {E : Value → Shared → Prop} {s : Shared}
theorem wpAny_dictPut_pairs {d : Addr} {kvs : List (K × Value)} {k : K} {key v : Value} {Q : Unit → Shared → Prop} (hkey : knd.is k key = true) (hm : s.heap.DictOf knd d kvs) (hsz : kvs.length ≤ sizeLine)
  (hQ : ∀ h', h'.DictOf knd d (stored kvs k v) → Heap.SameBut d s.heap h' → Q () { s with heap := h' }) :
  wpAny (model prog w) A (dictPut d (knd.hash k) key v) Q E s := by
 obtain ⟨o, es, ep, ho, hc, hd, hk, hp, hn⟩ := hm
 have hes : es.size ≤ sizeLine := by rw [← Array.length_toList, hp.length]; exact hsz
 unfold dictPut
 refine wpAny_bind (wpAny_dictFind_of hkey ho hd hk ?_)
 have hidx : (es.findIdx? fun e => knd.is k e.key) = kvs.findIdx? fun kv => decide (kv.1 = k) := by
  rw [← hp.findIdx k]; obtain ⟨l⟩ := es; simp
 cases hi : es.findIdx? fun e => knd.is k e.key with
 | some i =>
  refine wpAny_updateDict ho hd (hQ _ ⟨_, _, ep, Heap.get?_update_self _ ho (Obj.isFreed_of_dict (Obj.data_mapDict hd _)), hc.mapDict _, Obj.data_mapDict hd _, hk.modify _ _, ?_, ?_⟩ (Heap.SameBut.update ..))
  ·rw [stored, if_pos (any_of_findIdx_some (hidx ▸ hi))]
   have hl : (es.toList.findIdx? fun e => knd.is k e.key) = some i := by rw [← hi]; obtain ⟨l⟩ := es; simp
   have := hp.modify hn hl v
   obtain ⟨l⟩ := es
   simpa using this
  ·rw [stored, if_pos (any_of_findIdx_some (hidx ▸ hi)), keys_map_store]; exact hn
 | none =>
  have hnot : k ∉ kvs.map (·.1) := not_mem_of_findIdx_none (hidx ▸ hi)
  have hany : ¬ (kvs.any fun kv => decide (kv.1 = k)) = true := by
   rw [List.any_eq_true]; rintro ⟨kv, hkv, he⟩
   exact hnot (List.mem_map.mpr ⟨kv, hkv, of_decide_eq_true he⟩)
  refine wpAny_updateDictKeys (hz := hes) ho hd (hQ _ ⟨_, _, ep + 1, Heap.get?_update_self _ ho (Obj.isFreed_of_dict (Obj.data_mapDictKeys hd _)), hc.mapDictKeys _, Obj.data_mapDictKeys hd _, hk.push hkey _, ?_, ?_⟩ (Heap.SameBut.update ..))
  ·rw [stored, if_neg hany]
   have := hp.append hkey (knd.hash k) v
   obtain ⟨l⟩ := es
   simpa using this
  ·rw [stored, if_neg hany, List.map_append, List.nodup_append]
   refine ⟨hn, by simp, ?_⟩
   intro a ha b hb
   simp only [List.map_cons, List.map_nil, List.mem_singleton] at hb
   subst hb
   exact fun e => hnot (e ▸ ha)
noncomputable def MInv (knd : PySem.KeyKind prog w K) (s : Shared) (d o : Addr) (oo : Obj) (kvs more : List (K × Value)) (n : Nat) (rest : List Nat) (s' : Shared) : Prop :=
 Ex2 fun h' i => s' = { s with heap := h' } ∧ rest = List.range' i (n - i) ∧ i ≤ n ∧ h'.DictOf knd d (merged kvs (more.take i)) ∧ h'.get? o = some oo ∧ Heap.SameBut d s.heap h'
theorem sub_step {n i : Nat} (h : i < n) : n - i = n - (i + 1) + 1 := (Nat.sub_add_cancel (Nat.sub_pos_of_lt h)).symm
theorem range_next {n i x : Nat} {rest : List Nat} (hr : x :: rest = List.range' i (n - i)) : i < n ∧ x = i ∧ rest = List.range' (i + 1) (n - (i + 1)) := by
 have hlt : i < n := by
  rcases Nat.lt_or_ge i n with h | h
  ·exact h
  ·rw [Nat.sub_eq_zero_of_le h] at hr; exact nomatch hr
 rw [sub_step hlt, List.range'_succ] at hr
 injection hr with h1 h2
 exact ⟨hlt, h1, h2⟩
theorem range_end {n i : Nat} (hi : i ≤ n) (hr : [] = List.range' i (n - i)) : i = n := by
 rcases Nat.lt_or_ge i n with h | h
 ·rw [sub_step h, List.range'_succ] at hr; exact nomatch hr
 ·exact Nat.le_antisymm hi h
theorem wpAny_merge {d o : Addr} {kvs more : List (K × Value)} {Q : Unit → Shared → Prop} (hdo : d ≠ o) (hoS : (o == sysModules) = false) (hne : kvs ≠ [])
  (hd : s.heap.DictOf knd d kvs) (ho : s.heap.DictOf knd o more) (hsz : kvs.length + more.length ≤ sizeLine)
  (hQ : ∀ h', h'.DictOf knd d (merged kvs more) → Heap.SameBut d s.heap h' → Q () { s with heap := h' }) :
  wpAny (model prog w) A (mergeMapping d (.ref o) false) Q E s := by
 obtain ⟨od, esd, epd, hod, hcd, hdd, hkd, hpd, hnd⟩ := id hd
 obtain ⟨oo, eso, epo, hoo, hco, hdo', hko, hpo, hno⟩ := id ho
 have hlen : more.length = eso.size := by rw [← hpo.length]; simp
 have hned : esd.isEmpty = false := by
  cases he : esd.isEmpty with
  | false => rfl
  | true =>
   have h0 : esd = #[] := Array.isEmpty_iff.mp he
   have := hpd.length
   rw [h0] at this
   exact absurd (List.length_eq_zero_iff.mp (by simpa using this.symm)) hne
 unfold mergeMapping
 refine wpAny_bind (wpAny_isInstance (T := "dict") (b := true) ho.typeIs F.sub_dict_dict ?_)
 simp only [if_true]
 refine wpAny_bind (wpAny_specialOf ho.typeIs F.slot_dict_iter.lookup (wpAny_bind (wpAny_pure ?_)))
 have e0 : (some (Value.builtin "dict.__iter__") == some (Value.builtin "dict.__iter__")) = true := by simp
 simp only [e0]
 rw [if_neg (by rw [hoS]; exact Bool.false_ne_true)]
 refine wpAny_bind (wpAny_dictEntries hod hdd ?_)
 rw [if_neg (by rw [hned]; exact Bool.false_ne_true)]
 refine wpAny_bind (wpAny_dictEntries hoo hdo' ?_)
 refine wpAny_bind (wpAny_dictEpoch hoo hdo' ?_)
 refine wpAny_bind ?_
 rw [List.range_eq_range']
 refine wpAny_forIn_list _
   (fun rest _ s' => MInv knd s d o oo kvs more eso.size rest s')
   _ ?_ ?_ _ _ ⟨s.heap, 0, rfl, by simp, Nat.zero_le _, by simpa [merged] using hd, hoo, Heap.SameBut.refl _ _⟩
 ·rintro x rest b s' ⟨h', i, rfl, hr, hi, hd', hoo', hs'⟩
  obtain ⟨hlt, rfl, hrest⟩ := range_next hr
  refine wpAny_bind (wpAny_dictEntries hoo' hdo' ?_)
  rw [Array.getElem?_eq_getElem hlt]
  obtain ⟨kv, hkv⟩ : ∃ kv, more[x]? = some kv := ⟨more[x]'(by rw [hlen]; exact hlt), List.getElem?_eq_getElem _⟩
  obtain ⟨k, v⟩ := kv
  obtain ⟨hkey, hval⟩ := hpo.get? (e := eso[x]) (by simp [hlt]) hkv
  obtain ⟨k', hkey', hhash⟩ := hko eso[x] (Array.getElem_mem hlt)
  obtain rfl : k' = k := knd.inj _ _ _ hkey' hkey
  simp only [Bool.false_eq_true, if_false]
  rw [hhash, hval]
  have hmx : (merged kvs (more.take x)).length ≤ sizeLine := by
   have e1 := merged_length_le kvs (more.take x)
   have e2 : (more.take x).length ≤ more.length := by rw [List.length_take]; exact Nat.min_le_right ..
   exact Nat.le_trans e1 (Nat.le_trans (Nat.add_le_add_left e2 _) hsz)
  refine wpAny_bind (wpAny_holding (wpAny_dictPut_pairs hkey hd' hmx fun h'' hd'' hs'' => ?_))
  have hoo'' : h''.get? o = some oo := (hs''.2 o (Ne.symm hdo)).trans hoo'
  refine wpAny_bind (wpAny_dictEpoch hoo'' hdo' ?_)
  rw [if_neg (by simp)]
  exact wpAny_pure ⟨h'', x + 1, rfl, hrest, hlt, by rw [merged_take_succ kvs more x (k', v) hkv]; exact hd'', hoo'', hs'.trans hs''⟩
 ·rintro b s' ⟨h', i, rfl, hr, hi, hd', hoo', hs'⟩
  have hin := range_end hi hr
  refine wpAny_pure (hQ h' ?_ hs')
  rw [hin, ← hlen, List.take_length] at hd'; exact hd'
end
noncomputable def KV : List (Int × Str) → List (Int × Value) → Prop
 | [], kvs => kvs = []
 | (i, x) :: cs, kvs => Ex2 fun t kvs' => kvs = (i, .str x t) :: kvs' ∧ KV cs kvs'
theorem KV.keys : ∀ {cs : List (Int × Str)} {kvs : List (Int × Value)}, KV cs kvs → kvs.map (·.1) = cs.map (·.1)
 | [], _, h => by simp only [KV] at h; subst h; rfl
 | (i, x) :: cs, _, h => by
  simp only [KV] at h
  obtain ⟨t, kvs', rfl, h⟩ := h
  simp [h.keys]
theorem KV.append : ∀ {cs ds : List (Int × Str)} {kvs lvs : List (Int × Value)}, KV cs kvs → KV ds lvs → KV (cs ++ ds) (kvs ++ lvs)
 | [], _, _, _, h, h' => by simp only [KV] at h; subst h; exact h'
 | (i, x) :: cs, ds, _, lvs, h, h' => by
  simp only [KV] at h
  obtain ⟨t, kvs', rfl, h⟩ := h
  simp only [List.cons_append, KV]
  exact ⟨t, _, rfl, h.append h'⟩
theorem KV.length {cs : List (Int × Str)} {kvs : List (Int × Value)} (h : KV cs kvs) : kvs.length = cs.length := by have := congrArg List.length h.keys; simpa using this
noncomputable def keyT (c : Int × Str) : Sem Value := mkInt c.1
noncomputable def valT (pos : Pos) (c : Int × Str) : Sem Value := do let v ← mkText c.2; standAt pos; pure v
noncomputable def pairT (pos : Pos) (c : Int × Str) : Sem Value × Sem Value := (keyT c, valT pos c)
section
variable {p : Program} {w : World} {A : Around} {E : Value → Shared → Prop} {s : Shared}
theorem evalPairs_consts {pos : Pos} : ∀ (cs : List (Int × Str)) (s : Shared) (Q : List (Value × Value) → Shared → Prop),
  (∀ vs kvs t, Carries (intKind p w) vs kvs → KV cs kvs → Q vs { s with toks := t }) → wpAny (model p w) A (evalPairs (cs.map (pairT pos))) Q E s
 | [], s, Q, h => evalPairs_nil (h [] [] s.toks trivial rfl)
 | (i, x) :: cs, s, Q, h => by
  refine evalPairs_cons (wpAny_mkInt (wpAny_bind (wpAny_mkText (wpAny_bind (wpAny_standAt (wpAny_pure ?_))))))
  refine evalPairs_consts cs _ _ fun vs kvs t hc hk => ?_
  refine h _ ((i, .str x (s.toks + 1)) :: kvs) t ⟨int_is i _, rfl, hc⟩ ?_
  simp only [KV]
  exact ⟨_, _, rfl, hk⟩
theorem subDict_consts {pos : Pos} {cs : List (Int × Str)} {Q : Addr → Shared → Prop} (hn : (cs.map (·.1)).Nodup) (hl : cs.length ≤ 17)
  (h : ∀ h' t kvs, (∀ b o, s.heap.get? b = some o → h'.get? b = some o) → h'.DictOf (intKind p w) s.heap.objs.size kvs → KV cs kvs → Q s.heap.objs.size { s with heap := h', toks := t }) :
  wpAny (model p w) A (subDict (cs.map (pairT pos))) Q E s := by
 have fin : ∀ {kvs : List (Int × Value)}, KV cs kvs → merged [] kvs = kvs := fun hk => merged_nil_of_nodup _ (by rw [hk.keys]; exact hn)
 have keep : ∀ {h₁ h' : Heap}, h₁ = s.heap.push { cls := .type "dict", data := .dict #[] } → Heap.SameBut s.heap.objs.size h₁ h' → ∀ b o, s.heap.get? b = some o → h'.get? b = some o := fun e hs b o ho => by
  subst e
  exact (hs.2 b (Nat.ne_of_lt (Heap.lt_size ho))).trans (push_keeps _ _ b o ho)
 by_cases h15 : cs.length ≤ 15
 ·refine wpAny_subDict (knd := intKind p w) (by simpa using h15) (evalPairs_consts cs _ _ fun vs kvs t hc hk => ⟨kvs, hc, Heap.DictOf.new s.heap, fun h' hd hs => ?_⟩)
  rw [fin hk] at hd
  exact h h' _ kvs (keep rfl hs) hd hk
 ·unfold subDict
  refine wpAny_bind (wpAny_alloc (wpAny_bind (wpAny_holding ?_)))
  rw [if_neg (by simpa using h15)]
  refine wpAny_bind (wpAny_rule ?_)
  have loop : ∀ (rs ds : List (Int × Str)) (kvs : List (Int × Value)) (h₁ : Heap) (t : Nat), KV ds kvs → cs = ds ++ rs → h₁.DictOf (intKind p w) s.heap.objs.size kvs → Heap.SameBut s.heap.objs.size (s.heap.push { cls := .type "dict", data := .dict #[] }) h₁ →
    wpAny (model p w) A (forIn (rs.map (pairT pos)) PUnit.unit fun (x : Sem Value × Sem Value) (_ : PUnit) => (do
     let kv ← x.1
     let vv ← holding [kv] x.2
     holding [kv, vv] (dictSet s.heap.objs.size kv vv)
     pure (ForInStep.yield PUnit.unit) : Sem (ForInStep PUnit))) (fun _ s' => Ex3 fun h' t kvs => s' = { s with heap := h', toks := t } ∧ h'.DictOf (intKind p w) s.heap.objs.size kvs ∧ KV cs kvs ∧
      Heap.SameBut s.heap.objs.size (s.heap.push { cls := .type "dict", data := .dict #[] }) h') E { s with heap := h₁, toks := t } := by
   intro rs
   induction rs with
   | nil =>
    intro ds kvs h₁ t hk e hd hs
    rw [List.append_nil] at e
    subst e
    exact wpAny_pure ⟨h₁, t, kvs, rfl, hd, hk, hs⟩
   | cons c rs ih =>
    intro ds kvs h₁ t hk e hd hs
    obtain ⟨i, x⟩ := c
    rw [List.map_cons, List.forIn_cons]
    refine wpAny_bind ?_
    refine wpAny_bind (wpAny_mkInt (wpAny_bind (wpAny_holding (wpAny_bind (wpAny_mkText (wpAny_bind (wpAny_standAt (wpAny_pure ?_))))))))
    have hfresh : i ∉ kvs.map (·.1) := by
     rw [hk.keys]
     rw [e, List.map_append, List.nodup_append] at hn
     intro hm
     exact hn.2.2 i hm i (by simp) rfl
    have hst : stored kvs i (.str x (t + 1)) = kvs ++ [(i, .str x (t + 1))] := by
     rw [stored, if_neg]
     rw [List.any_eq_true]; rintro ⟨kv, hkv, he⟩
     exact hfresh (List.mem_map.mpr ⟨kv, hkv, of_decide_eq_true he⟩)
    have hlen := hk.length
    have hcl := congrArg List.length e
    simp only [List.length_append, List.length_cons] at hcl
    refine wpAny_bind (wpAny_holding (wpAny_dictSet_pairs (knd := intKind p w) (k := i) (int_is i _) hd (fun h₂ hd₂ hs₂ => wpAny_pure ?_) (by rw [sizeLine_eq]; lia)))
    rw [hst] at hd₂
    refine ih (ds ++ [(i, x)]) (kvs ++ [(i, .str x (t + 1))]) h₂ _ (hk.append (by simp only [KV]; exact ⟨_, _, rfl, rfl⟩)) (by rw [e]; simp) hd₂ (hs.trans hs₂)
  refine wpAny_bind (wpAny_mono (loop cs [] [] _ s.toks rfl rfl (Heap.DictOf.new s.heap) (Heap.SameBut.refl ..)) (fun _ s' o => ?_) fun _ _ x => x)
  obtain ⟨h', t, kvs, rfl, hd, hk, hs⟩ := o
  exact wpAny_pure (wpAny_pure (h h' t kvs (keep rfl hs) hd hk))
noncomputable def DInv (p : Program) (w : World) (s : Shared) (dn : List (Int × Str)) (main : Option Addr) (s' : Shared) : Prop := Ex2 fun h' t => s' = { s with heap := h', toks := t } ∧ (∀ b o, s.heap.get? b = some o → h'.get? b = some o) ∧ s.heap.objs.size ≤ h'.objs.size ∧
  (main = none ∧ dn = [] ∨ Ex2 fun d kvs => main = some d ∧ dn ≠ [] ∧ s.heap.objs.size ≤ d ∧ h'.DictOf (intKind p w) d kvs ∧ KV dn kvs)
theorem dict_flush {pos : Pos} {dn cr : List (Int × Str)} {main : Option Addr} {s' : Shared} {Q' : Option Addr → Shared → Prop} (hS : ∃ o, s.heap.get? sysModules = some o) (hc : cr ≠ []) (hlen : cr.length ≤ 17) (htot : (dn ++ cr).length ≤ 65536) (hnd : ((dn ++ cr).map (·.1)).Nodup) (inv : DInv p w s dn main s') (hq : ∀ main' s'', DInv p w s (dn ++ cr) main' s'' → Q' main' s'') :
   wpAny (model p w) A (match main with
    | none => do let d ← subDict (cr.map (pairT pos)); pure (some d)
    | some d => do
     let sub ← holding [.ref d] (subDict (cr.map (pairT pos)))
     (holding [.ref d, .ref sub] (mergeMapping d (.ref sub) false)).onRaise fun x => do let _ ← holding [.ref d, x] (runValue (.builtin "proto.let_go" {}))
     pure (some d)) Q' E s' := by
 obtain ⟨h', t, rfl, hk, hsz, hm⟩ := inv
 have dlt : ∀ {h : Heap} {d : Addr} {kvs : List (Int × Value)}, h.DictOf (intKind p w) d kvs → d < h.objs.size := fun hd => let ⟨o, es, ep, ho, _⟩ := hd; Heap.lt_size ho
 have hnc : (cr.map (·.1)).Nodup := by rw [List.map_append, List.nodup_append] at hnd; exact hnd.2.1
 rcases hm with ⟨rfl, rfl⟩ | ⟨d, kvs, rfl, hdn, hd0, hd, hkv⟩
 ·refine wpAny_bind (subDict_consts (s := { s with heap := h', toks := t }) hnc hlen fun h'' t' kvs hk' hd hkv => wpAny_pure (hq _ _ ⟨h'', t', rfl, fun b o e => hk' b o (hk b o e), Nat.le_trans hsz (Nat.le_of_lt (dlt hd)), .inr ⟨_, kvs, rfl, by simpa using hc, hsz, hd, by simpa using hkv⟩⟩))
 ·refine wpAny_bind (wpAny_holding (subDict_consts (s := { s with heap := h', toks := t }) hnc hlen fun h'' t' lvs hk' hd' hlv => ?_))
  have hd2 : h''.DictOf (intKind p w) d kvs := let ⟨o, es, ep, ho, r⟩ := hd; ⟨o, es, ep, hk' _ _ ho, r⟩
  have hlt : d ≠ h'.objs.size := fun q => by
   obtain ⟨o, es, ep, ho, _⟩ := hd
   rw [q, Heap.get?_size] at ho; cases ho
  have hsys : (h'.objs.size == sysModules) = false := by
   simp only [beq_eq_false_iff_ne, ne_eq]
   intro q
   obtain ⟨o, ho⟩ := hS
   have := hk _ o ho
   rw [← q, Heap.get?_size] at this; cases this
  have hkn : kvs ≠ [] := fun q => by
   have := hkv.length
   rw [q] at this
   exact hdn (List.length_eq_zero_iff.mp this.symm)
  have hl1 := hkv.length
  have hl2 := hlv.length
  simp only [List.length_append] at htot
  refine wpAny_bind (wpAny_onRaise (wpAny_holding (wpAny_merge hlt hsys hkn hd2 hd' (by rw [sizeLine_eq]; lia) fun h3 hd3 hs3 => wpAny_pure (hq _ _ ⟨h3, t', rfl, fun b o e => ?_, by rw [hs3.1]; exact Nat.le_trans hsz (Nat.le_of_lt (dlt hd')), .inr ⟨d, _, rfl, by simp [hdn], hd0, hd3, ?_⟩⟩))))
  ·exact (hs3.2 b (Nat.ne_of_lt (Nat.lt_of_lt_of_le (Heap.lt_size e) hd0))).trans (hk' b o (hk b o e))
  ·have : merged kvs lvs = kvs ++ lvs := merged_append_of_fresh kvs lvs (by rw [List.map_append, hkv.keys, hlv.keys, ← List.map_append]; exact hnd)
   rw [this]
   exact hkv.append hlv
theorem dictDisplay_consts {pos : Pos} {cs : List (Int × Str)} {Q : Value → Shared → Prop} (hn : (cs.map (·.1)).Nodup) (hne : cs ≠ []) (hl : cs.length ≤ 65536) (hS : ∃ o, s.heap.get? sysModules = some o)
  (h : ∀ a h' t kvs, (∀ b o, s.heap.get? b = some o → h'.get? b = some o) → s.heap.objs.size ≤ a → h'.DictOf (intKind p w) a kvs → KV cs kvs → Q (.ref a) { s with heap := h', toks := t }) :
  wpAny (model p w) A (dictDisplay (cs.map fun c => (some (keyT c), valT pos c))) Q E s := by
 unfold dictDisplay
 dsimp only
 refine wpAny_bind (wpAny_mono (wpAny_forIn_list _ (fun rest (b : Option Addr × List (Sem Value × Sem Value)) s' => Ex3 fun dn cr rs => cs = dn ++ cr ++ rs ∧ rest = rs.map (fun c => (some (keyT c), valT pos c)) ∧ b.2 = cr.map (pairT pos) ∧ cr.length < 17 ∧ DInv p w s dn b.1 s')
  (fun (b : Option Addr × List (Sem Value × Sem Value)) s' => Ex2 fun dn cr => cs = dn ++ cr ∧ b.2 = cr.map (pairT pos) ∧ cr.length < 17 ∧ DInv p w s dn b.1 s') ?step ?fin _ _ ⟨[], [], cs, by simp, rfl, rfl, by simp, s.heap, s.toks, rfl, fun _ _ e => e, Nat.le_refl _, .inl ⟨rfl, rfl⟩⟩) (fun b s' o => ?_) fun _ _ x => x)
 case fin =>
  rintro ⟨main, run⟩ s' ⟨dn, cr, rs, e, hr, hrun, hlt, inv⟩
  have : rs = [] := by simpa using hr.symm
  subst this
  exact ⟨dn, cr, by simpa using e, hrun, hlt, inv⟩
 case step =>
  rintro ⟨k, v⟩ rest ⟨main, run⟩ s' ⟨dn, cr, rs, e, hr, hrun, hlt, inv⟩
  simp only at hrun inv
  cases rs with
  | nil => simp at hr
  | cons c rs =>
   simp only [List.map_cons, List.cons.injEq, Prod.mk.injEq] at hr
   obtain ⟨⟨rfl, rfl⟩, rfl⟩ := hr
   subst hrun
   have hp : cr.map (pairT pos) ++ [(keyT c, valT pos c)] = (cr ++ [c]).map (pairT pos) := by simp [pairT]
   simp only [hp]
   have e2 : cs = dn ++ (cr ++ [c]) ++ rs := by rw [e]; simp
   by_cases h17 : cr.length + 1 = 17
   ·rw [if_pos (by simp; lia)]
    refine wpAny_bind ?_
    rw [if_neg (by simp)]
    refine dict_flush hS (by simp) (by simp; lia) (by have := congrArg List.length e2; simp at this ⊢; lia) ?_ inv fun main' s'' inv' => wpAny_pure ⟨dn ++ (cr ++ [c]), [], rs, by rw [e2]; simp, rfl, rfl, by simp, inv'⟩
    rw [e2, List.map_append, List.nodup_append] at hn
    exact hn.1
   ·rw [if_neg (by simp; lia)]
    exact wpAny_pure ⟨dn, cr ++ [c], rs, e2, rfl, rfl, by simp; lia, inv⟩
 ·obtain ⟨main, run⟩ := b
  obtain ⟨dn, cr, e, hrun, hlt, inv⟩ := o
  simp only at hrun inv
  subst hrun
  simp only
  have last : ∀ (main' : Option Addr) (s'' : Shared), DInv p w s cs main' s'' → wpAny (model p w) A (match main' with | some d => pure (Value.ref d) | none => newDict) Q E s'' := by
   rintro main' s'' ⟨h', t, rfl, hk, _, hm⟩
   rcases hm with ⟨_, h0⟩ | ⟨d, kvs, rfl, _, hd0, hd, hkv⟩
   ·exact (hne h0).elim
   ·exact wpAny_pure (h d h' t kvs hk hd0 hd hkv)
  cases cr with
  | nil =>
   rw [List.append_nil] at e
   subst e
   exact wpAny_bind (wpAny_pure (last _ _ inv))
  | cons c cr =>
   refine wpAny_bind ?_
   rw [if_neg (by simp)]
   exact dict_flush hS (by simp) (by lia) (by rw [← e]; exact hl) (by rw [← e]; exact hn) inv fun main' s'' inv' => last _ _ (e ▸ inv')
end
noncomputable def PsOf : List Value → List (Int × Int) → Prop
 | vs, [] => vs = []
 | vs, (l, c) :: ks => Ex4 fun t t' v r => vs = .int l t :: .int c t' :: v :: r ∧ PsOf r ks
theorem PsOf.append : ∀ {ks : List (Int × Int)} {vs : List Value} (l c : Int) (v : Value), PsOf vs ks → PsOf (vs ++ [rawInt l, rawInt c, v]) (ks ++ [(l, c)])
 | [], vs, l, c, v, h => by
  simp only [PsOf] at h; subst h
  simp only [List.nil_append, PsOf]
  exact ⟨0, 0, v, [], rfl, rfl⟩
 | (a, b) :: ks, vs, l, c, v, h => by
  simp only [PsOf] at h
  obtain ⟨t, t', u, r, rfl, h⟩ := h
  simp only [List.cons_append, PsOf]
  exact ⟨t, t', u, _, rfl, h.append l c v⟩
theorem PsOf.none {pos : Pos} : ∀ {ks : List (Int × Int)} {vs : List Value}, PsOf vs ks → ((pos.line : Int), (pos.col : Int)) ∉ ks → codeAmong pos vs = none
 | [], vs, h, _ => by simp only [PsOf] at h; subst h; rfl
 | (a, b) :: ks, vs, h, hn => by
  simp only [PsOf] at h
  obtain ⟨t, t', u, r, rfl, h⟩ := h
  simp only [List.mem_cons, Prod.mk.injEq, not_or, not_and] at hn
  unfold codeAmong
  have : (a == (pos.line : Int) && b == (pos.col : Int)) = false := by
   cases h1 : (a == (pos.line : Int)) with
   | false => rfl
   | true =>
    have := hn.1 (beq_iff_eq.mp h1).symm
    simp only [Bool.true_and, beq_eq_false_iff_ne, ne_eq]
    exact fun q => this q.symm
  rw [this]
  exact h.none hn.2
noncomputable def KwAt (N : Nat) (h : Heap) (a : Arguments) (kV : Value) : Prop :=
 (a.kwonlyargs = [] ∧ a.kw_defaults = [] ∧ kV = .none) ∨
 Ex4 fun k d1 d2 K => a.kwonlyargs.map (·.arg) = [k] ∧ a.kw_defaults = [some (.Constant .none d1 d2)] ∧ kV = .ref K ∧ N ≤ K ∧ h.Ns K (fun x => if x = k then some .none else none)
theorem Option.bindE {α β : Type} {f : α → Option β} {o : Option α} {b : β} {P : Prop} (h : o.bind f = some b) (k : ∀ a, o = some a → f a = some b → P) : P := by
 cases o with
 | none => exact no_none h
 | some a => exact k a rfl h
noncomputable def one1 {α : Type} (l : List α) : Option α := match l with
 | [x] => some x
 | _ => none
theorem one1_eq {α : Type} {l : List α} {x : α} (h : one1 l = some x) : l = [x] := match l, h with
 | [], h => no_none h
 | [_], h => by rw [Option.some.inj h]
 | _ :: _ :: _, h => no_none h
theorem isConst_none {e : Expr} (h : isConst .none e = true) : Ex2 fun p q => e = .Constant .none p q := by
 cases e with
 | Constant c p q => cases (eq_of_beq (show (Const.none == c) = true from h)); exact ⟨_, _, rfl⟩
 | _ => exact nomatch h
theorem isConst_int {e : Expr} (h : isConst (.int 0) e = true) : Ex2 fun p q => e = .Constant (.int 0) p q := by
 cases e with
 | Constant c p q => cases (eq_of_beq (show (Const.int 0 == c) = true from h)); exact ⟨_, _, rfl⟩
 | _ => exact nomatch h
noncomputable def isNoneO (o : Option Expr) : Bool := match o with
 | some e => isConst .none e
 | none => false
noncomputable def noneDef (o : Option (Option Expr)) : Bool := match o with
 | some o => isNoneO o
 | none => false
theorem noneDef_eq {l : List (Option Expr)} (h : noneDef (one1 l) = true) : Ex2 fun p q => l = [some (.Constant .none p q)] := by
 cases q : one1 l with
 | none => rw [q] at h; exact nomatch h
 | some o =>
  rw [q] at h
  cases o with
  | none => exact nomatch h
  | some e =>
   obtain ⟨a, b, rfl⟩ := isConst_none (show isConst .none e = true from h)
   exact ⟨a, b, one1_eq q⟩
noncomputable def kwOkB (a : Arguments) : Bool := (a.kwonlyargs.isEmpty && a.kw_defaults.isEmpty) || (a.kwonlyargs.length == 1 && noneDef (one1 a.kw_defaults))
noncomputable def annFree (a : Arguments) : Bool := (a.args ++ a.posonlyargs ++ a.vararg.toList ++ a.kwonlyargs ++ a.kwarg.toList).all fun x => x.annotation.isNone
noncomputable def defOk (p : Program) (name : Str) (a : Arguments) (sc : Scope) : Bool :=
 kwOkB a && a.defaults.all (·.isPlainConst) && annFree a && sc.names.all (fun x => x.2 != .free) && p.main.scope.names.lookup name == some .local && name != ("__builtins__" : Str)
structure DefW where
 ad : Addr
 c' : Addr
 doc : Value
 dV : Value
 kV : Value
 pm : Value
 vs : List Value
structure DefIs (N : Nat) (name : Str) (a : Arguments) (body : List Stmt) (sc : Scope) (mg : Str → Option Value) (h : Heap) (W : DefW) : Prop where
 mg : mg name = some (.ref W.ad)
 low : N ≤ W.ad
 at_ : h.get? W.ad = some { cls := .type "function", data := .func (defFd name name a body sc mainGlobals W.dV W.kV none W.pm (.ref W.c') W.doc) }
 lowC : N ≤ W.c'
 code : h.CodeRec (.ref W.c') name
 vals : ConstVals a.defaults W.vs
 dflt : h.DefaultsAt N W.vs W.dV
 kw : KwAt N h a W.kV
noncomputable def DefAt (N : Nat) (name : Str) (a : Arguments) (body : List Stmt) (sc : Scope) (mg : Str → Option Value) (h : Heap) : Prop := ∃ W, DefIs N name a body sc mg h W
theorem DefAt.keeps {N : Nat} {name : Str} {a : Arguments} {body : List Stmt} {sc : Scope} {mg mg' : Str → Option Value} {h h' : Heap} (d : DefAt N name a body sc mg h) (hm : mg' name = mg name)
  (hk : ∀ b o, N ≤ b → h.get? b = some o → h'.get? b = some o) : DefAt N name a body sc mg' h' := by
 obtain ⟨W, h1, h2, h3, h4, ⟨c2, o2, vs2, t2, e2, g2, r2⟩, h6, h7, h8⟩ := d
 refine ⟨W, hm.trans h1, h2, hk _ _ h2 h3, h4, ⟨c2, o2, vs2, t2, e2, hk _ _ (by cases e2; exact h4) g2, r2⟩, h6, ?_, ?_⟩
 ·rcases h7 with h7 | ⟨n1, T, e1, hT, hg⟩
  ·exact .inl h7
  ·exact .inr ⟨n1, T, e1, hT, hk _ _ hT hg⟩
 ·rcases h8 with h8 | ⟨k, d1, d2, K, e1, e3, e4, hK, o, es, ep, ho, r⟩
  ·exact .inl h8
  ·exact .inr ⟨k, d1, d2, K, e1, e3, e4, hK, o, es, ep, hk _ _ hK ho, r⟩
section
variable {p : Program} {w : World} {A : Around} {s : Shared} {c Pl F : Addr} {mg : Str → Option Value} {ps : Array Value}
theorem ann_free {a : Arguments} {env : Env} (h : annFree a = true) : annTrees a none env = [] := by
 have key : ∀ l : List Arg, (l.all fun x => x.annotation.isNone) = true → annotationsOf l env = [] := by
  intro l
  induction l with
  | nil => intro _; rfl
  | cons x l ih =>
   intro h
   simp only [List.all_cons, Bool.and_eq_true, Option.isNone_iff_eq_none] at h
   obtain ⟨nm, an, q⟩ := x
   obtain ⟨rfl, h⟩ := h
   exact ih h
 obtain ⟨po, as, va, ko, kd, kwa, df⟩ := a
 unfold annFree at h
 show annotationsOf (as ++ po ++ va.toList ++ ko ++ kwa.toList) env ++ [] = []
 rw [key _ h]; rfl
theorem defKw {name : Str} {params : Arguments} {body : List Stmt} {scope : Scope} {pos : Pos} {kw : Arg} {d1 : Nat} {d2 : Pos} {Q : Flow → Shared → Prop} {E : Value → Shared → Prop}
  (hkw : params.kwonlyargs = [kw]) (hkd : params.kw_defaults = [some (.Constant .none d1 d2)]) (hconst : ∀ e ∈ params.defaults, e.isPlainConst = true) (hann0 : annTrees params none (mainEnv p c F) = [])
  (hfree : ∀ x ∈ scope.names, x.2 ≠ .free) (hloc : p.main.scope.names.lookup name = some .local)
  (hq : qualnameIn { scope := p.main.scope, locals := mainGlobals, globals := mainGlobals, cells := [] } name name = name) (hm : s.heap.Main mg c Pl ps)
  (h : ∀ a c' doc dV kV vs h' tk, s.heap.objs.size ≤ a → h'.Main (fun x => if x = name then some (.ref a) else mg x) c Pl (ps ++ #[rawInt pos.line, rawInt pos.col, .ref c']) →
   h'.get? a = some { cls := .type "function", data := .func (defFd name name params body scope mainGlobals dV kV none ((mg "__name__").getD .none) (.ref c') doc) } →
   ConstVals params.defaults vs → h'.DefaultsAt s.heap.objs.size vs dV → (∃ K, kV = .ref K ∧ s.heap.objs.size ≤ K ∧ h'.Ns K (fun x => if x = kw.arg then some .none else none)) → (s.heap.objs.size ≤ c' ∧ h'.CodeRec (.ref c') name) →
   (∀ b o, b ≠ Pl → b ≠ mainGlobals → s.heap.get? b = some o → h'.get? b = some o) → Q .next { s with heap := h', toks := tk })
  (hnb : name ≠ "__builtins__") (hmod : p.main.scope.kind = .module) (hnf : codeAmong pos ps.toList = none) :
  wpAny (model p w) A (exec (.FunctionDef name params body [] none [] scope none name pos) (mainEnv p c F)) Q E s := by
 have hq' : qualnameIn (mainEnv p c F) name name = name := hq
 rw [exec_def, hq', defaultsOf_eq, hkd, hann0]
 refine wpAny_bind (wpAny_standAt (wpAny_bind (wpAny_holding ?_)))
 refine wpAny_bind (wpAny_evalAll_consts _ _ _ hconst fun vs tk₁ hvs => ?_)
 refine wpAny_bind (wpAny_holding ?_)
 show wpAny _ _ (do let v ← constValue (mainEnv p c F) .none; let r ← holding [v] (evalAllOpt []); pure (some v :: r)) _ _ _
 refine wpAny_bind (wpAny_pure (wpAny_bind (wpAny_holding (wpAny_pure (wpAny_pure ?_)))))
 refine wpAny_holding ?_
 refine wpAny_bind (wpAny_pure ?_)
 rw [makeFunction_eq, hkw]
 have hPl : Pl < s.heap.objs.size := hm.code.lt.2
 have fin : ∀ (dV : Value) (h₁ : Heap) (tk : Nat), (∀ b o, s.heap.get? b = some o → h₁.get? b = some o) → s.heap.objs.size ≤ h₁.objs.size → (∀ h', Heap.ExtBut Pl h₁ h' → h'.DefaultsAt s.heap.objs.size vs dV) →
   wpAny (model p w) A (do
    let d ← alloc { cls := .type "dict", data := .dict #[] }
    for (k, v) in [(kw.arg, Value.none)] do nsSet d k v
    let kwdV ← pure (Value.ref d)
    let annO ← if ([] : List (Str × Value)).isEmpty then pure none else do
      let a ← alloc { cls := .type "dict", data := .dict #[] }
      for (k, v) in ([] : List (Str × Value)) do nsSet a k v
      pure (some a)
    makeTail name name params (.stmts body) scope (mainEnv p c F) dV kwdV annO pos pos.line) (fun f s' => wpAny (model p w) A (do standAt pos; bindName (mainEnv p c F) name f; pure Flow.next) Q E s') E { s with heap := h₁, toks := tk } := by
  intro dV h₁ tk keep₁ hsz₁ hdef
  refine wpAny_bind (wpAny_alloc ?_)
  simp only [List.forIn_cons, List.forIn_nil]
  refine wpAny_bind (wpAny_bind (wpAny_bind (wpAny_nsSet (s := { s with heap := h₁.push { cls := .type "dict", data := .dict #[] }, toks := tk }) (Heap.Ns.new h₁ (.type "dict")) fun h₂ hns hsb => wpAny_pure (wpAny_pure ?_))))
  refine wpAny_bind (wpAny_pure (wpAny_bind (wpAny_pure ?_)))
  have hk2 : ∀ b o, h₁.get? b = some o → h₂.get? b = some o := fun b o e => (hsb.2 b (Nat.ne_of_lt (Heap.lt_size e))).trans (push_keeps _ _ b o e)
  have hns2 : h₂.Ns h₁.objs.size (fun x => if x = kw.arg then some .none else none) := hns
  have hlt2 : h₁.objs.size < h₂.objs.size := by obtain ⟨o, _, _, ho, _⟩ := hns2; exact Heap.lt_size ho
  refine wpAny_makeTail_fromN (s := s) (tk₂ := tk + 1) (env := mainEnv p c F) (c := c) (Pl := Pl) hfree hm.g rfl hm.code hnf (Nat.ne_of_lt hm.low.2) hm.bmod (fun b o e => hk2 b o (keep₁ b o e)) (by lia) fun c' doc h₃ tk₃ hx hge hlt hok hrec htb => ?_
  have hgP : mainGlobals ≠ Pl := Nat.ne_of_lt hm.low.2
  have k3 : ∀ b o, b ≠ Pl → s.heap.get? b = some o → h₃.get? b = some o := fun b o hb e => hx b o hb (hk2 b o (keep₁ b o e))
  have hg3 : h₃.Ns mainGlobals mg := hm.g.at fun o e => k3 _ o hgP e
  refine wpAny_bind (wpAny_standAt (wpAny_bind (wpAny_bindName (wpAny_storeName_local (env := mainEnv p c F) hloc (hg3.push _) (fun h' hg' hs' => wpAny_pure ?_) (by show (p.main.scope.kind == .class || (p.main.scope.kind == .module && mainGlobals != mainGlobals)) = false; rw [hmod]; rfl)))))
  dsimp only at hg' hs' ⊢
  obtain ⟨bm, o, hbm, hne0, hneG, hneP, hbo, hrest⟩ := hm.bmod
  have hglt : mainGlobals < h₃.objs.size := hg3.lt
  have hsz : s.heap.objs.size ≤ h₃.objs.size := Nat.le_trans hge (Nat.le_of_lt hlt)
  have up : ∀ b o', b ≠ mainGlobals → h₃.get? b = some o' → h'.get? b = some o' := fun b o' hb e => (hs'.2 b hb).trans (Heap.get?_push_of_some _ e)
  have neG : ∀ b, s.heap.objs.size ≤ b → b ≠ mainGlobals := fun b hb => Nat.ne_of_gt (Nat.lt_of_lt_of_le hm.g.lt hb)
  refine h h₃.objs.size c' doc dV (.ref h₁.objs.size) vs h' _ hsz
   ⟨hg', (hok.push _).sameBut hs' (Nat.ne_of_gt hm.low.1) (Nat.ne_of_gt hm.low.2), hm.low,
    ⟨bm, o, by simp only [Ne.symm hnb, if_false]; exact hbm, hne0, hneG, hneP, up _ _ hneG (k3 _ _ hneP hbo), hrest⟩⟩
   ((hs'.2 _ (Nat.ne_of_gt hglt)).trans (Heap.get?_push_size _ rfl)) hvs ?_ ?_
   ⟨hge, let ⟨c₂, o₂, vs₂, t₂, e₂, g₂, r₂⟩ := hrec; ⟨c₂, o₂, vs₂, t₂, e₂, up _ _ (by cases e₂; exact neG _ hge) g₂, r₂⟩⟩
   fun b o' hbP hbG e => up b o' hbG (k3 b o' hbP e)
  ·rcases hdef h₃ (fun b o hb e => hx b o hb (hk2 b o e)) with hd | ⟨hne, T, e, hT, hg⟩
   ·exact .inl hd
   ·exact .inr ⟨hne, T, e, hT, up _ _ (neG _ hT) hg⟩
  ·have hK : s.heap.objs.size ≤ h₁.objs.size := hsz₁
   obtain ⟨o, es, ep, ho, r⟩ := hns2
   exact ⟨_, rfl, hK, o, es, ep, up _ _ (neG _ hK) (hx _ _ (Nat.ne_of_gt (Nat.lt_of_lt_of_le hPl hK)) ho), r⟩
 cases vs with
 | nil =>
  refine wpAny_bind (wpAny_pure ?_)
  exact fin .none s.heap tk₁ (fun _ _ e => e) (Nat.le_refl _) fun _ _ => .inl ⟨rfl, rfl⟩
 | cons d ds =>
  refine wpAny_bind (wpAny_newTextTuple ?_)
  exact fin (.ref s.heap.objs.size) _ tk₁ (fun b o e => Heap.get?_push_of_some _ e) (by rw [Heap.size_push]; exact Nat.le_succ _) fun h' hx =>
   .inr ⟨List.cons_ne_nil _ _, _, rfl, Nat.le_refl _, hx _ _ (Nat.ne_of_gt hPl) (Heap.get?_push_size _ rfl)⟩
end
noncomputable def intC (x : Expr) : Option Int := match x with
 | .Constant c _ _ => (match c with
  | .int i => some i
  | _ => none)
 | _ => none
noncomputable def strC (x : Expr) : Option Str := match x with
 | .Constant c _ _ => (match c with
  | .str i => some i
  | _ => none)
 | _ => none
theorem intC_eq {x : Expr} {i : Int} (h : intC x = some i) : Ex2 fun a b => x = .Constant (.int i) a b := by
 cases x with
 | Constant c a b => cases c with
  | int => cases Option.some.inj h; exact ⟨a, b, rfl⟩
  | _ => exact no_none h
 | _ => exact no_none h
theorem strC_eq {x : Expr} {i : Str} (h : strC x = some i) : Ex2 fun a b => x = .Constant (.str i) a b := by
 cases x with
 | Constant c a b => cases c with
  | str => cases Option.some.inj h; exact ⟨a, b, rfl⟩
  | _ => exact no_none h
 | _ => exact no_none h
noncomputable def intCO (o : Option Expr) : Option Int := match o with
 | some e => intC e
 | none => none
noncomputable def constPairs : List (Option Expr) → List Expr → Option (List (Int × Str))
 | [], vs => if isNil vs = true then some [] else none
 | k :: ks, vs => match vs with
  | v :: vs => (intCO k).bind fun i => (strC v).bind fun x => (constPairs ks vs).bind fun r => some ((i, x) :: r)
  | [] => none
theorem constPairs_items {env : Env} {pos : Pos} : ∀ {ks : List (Option Expr)} {vs : List Expr} {cs : List (Int × Str)}, constPairs ks vs = some cs →
  (evalEachOpt ks env).zip ((evalEach vs env).map fun v => do let x ← v; standAt pos; pure x) = cs.map fun c => (some (keyT c), valT pos c)
 | [], vs, cs, h => iteO h fun hn h => by cases isNil_eq hn; cases h; rfl
 | k :: ks, [], _, h => no_none h
 | k :: ks, v :: vs, cs, h => by
  refine Option.bindE h fun i hi h => Option.bindE h fun x hx h => Option.bindE h fun r hr h => ?_
  cases h
  cases k with
  | none => exact no_none hi
  | some e =>
   obtain ⟨_, _, rfl⟩ := intC_eq hi
   obtain ⟨_, _, rfl⟩ := strC_eq hx
   show (some (constValue env (.int i)), (do let x ← constValue env (.str x); standAt pos; pure x)) :: (evalEachOpt ks env).zip ((evalEach vs env).map fun v => do let x ← v; standAt pos; pure x) = _
   rw [constPairs_items hr]
   rfl
noncomputable def constInts : List Expr → Option (List Int)
 | [] => some []
 | e :: es => (intC e).bind fun i => (constInts es).bind fun r => some (i :: r)
noncomputable def nameCall (x : Expr) : Option (Str × List Expr) := match x with
 | .Call f as ks _ => if isNil ks = true then (nameOfE f).bind fun n => some (n, as) else none
 | _ => none
theorem nameOfE_eq {x : Expr} {n : Str} (h : nameOfE x = some n) : ∃ p, x = .Name n p := by
 cases x with
 | Name => cases Option.some.inj h; exact ⟨_, rfl⟩
 | _ => exact no_none h
theorem nameCall_eq {x : Expr} {p : Str × List Expr} (h : nameCall x = some p) : Ex2 fun a b => x = .Call (.Name p.1 a) p.2 [] b := by
 cases x with
 | Call f as ks b =>
  refine iteO h fun hn h => Option.bindE h fun n hf hz => ?_
  cases isNil_eq hn
  obtain ⟨a, rfl⟩ := nameOfE_eq hf
  cases hz
  exact ⟨a, b, rfl⟩
 | _ => exact no_none h
noncomputable def callOf (f : Str) (x : Expr) : Option (List Expr) := (nameCall x).bind fun p => if p.1 = f then some p.2 else none
theorem callOf_eq {f : Str} {x : Expr} {as : List Expr} (h : callOf f x = some as) : Ex2 fun a b => x = .Call (.Name f a) as [] b := by
 refine Option.bindE h fun p hp h => iteO h fun hf hz => ?_
 obtain ⟨a, b, rfl⟩ := nameCall_eq hp
 cases hz
 exact ⟨a, b, by rw [hf]⟩
noncomputable def addOf (x : Expr) : Option (Expr × Expr) := match x with
 | .BinOp l op r _ => (match op with
  | .Add => some (l, r)
  | _ => none)
 | _ => none
theorem addOf_eq {x : Expr} {p : Expr × Expr} (h : addOf x = some p) : ∃ a, x = .BinOp p.1 .Add p.2 a := by
 cases x with
 | BinOp l op r a => cases op with
  | Add => cases Option.some.inj h; exact ⟨a, rfl⟩
  | _ => exact no_none h
 | _ => exact no_none h
noncomputable def itemsE (x : Expr) : Option (List Expr) := match x with
 | .List es _ => some es
 | _ => none
theorem itemsE_eq {x : Expr} {es : List Expr} (h : itemsE x = some es) : ∃ a, x = .List es a := by
 cases x with
 | List => cases Option.some.inj h; exact ⟨_, rfl⟩
 | _ => exact no_none h
noncomputable def pairC (l : List Expr) : Option (Int × Int) := match l with
 | [x, y] => (intC x).bind fun a => (intC y).bind fun b => some (a, b)
 | _ => none
theorem pairC_eq {l : List Expr} {p : Int × Int} (h : pairC l = some p) : Ex4 fun a b c d => l = [.Constant (.int p.1) a b, .Constant (.int p.2) c d] := match l, h with
 | [], h => no_none h
 | [_], h => no_none h
 | [x, y], h => Option.bindE h fun i hi h => Option.bindE h fun j hj hz => by
  obtain ⟨a, b, rfl⟩ := intC_eq hi
  obtain ⟨c, d, rfl⟩ := intC_eq hj
  cases hz
  exact ⟨a, b, c, d, rfl⟩
 | _ :: _ :: _ :: _, h => no_none h
noncomputable def setInts (e : Expr) : Option (List Int) :=
 (callOf "set" e).bind fun as => (one1 as).bind fun x => (addOf x).bind fun lr => (itemsE lr.1).bind fun es => (callOf "list" lr.2).bind fun bs => (one1 bs).bind fun y => (callOf "range" y).bind fun cs => (pairC cs).bind fun ab =>
  if (Builtin.Range.small ab.1 ab.2 1 && decide ((ab.2 - ab.1).toNat < 1000)) = true then (constInts es).bind fun ms => some (ms ++ (List.range (ab.2 - ab.1).toNat).map fun (k : Nat) => ab.1 + k) else none
theorem setIntsE {e : Expr} {ns : List Int} {P : Prop} (h : setInts e = some ns) (k : ∀ fp es q gp rp a k1 p1 b k2 p2 p3 p4 p5 p6 ms,
  e = .Call (.Name "set" fp) [.BinOp (.List es q) .Add (.Call (.Name "list" gp) [.Call (.Name "range" rp) [.Constant (.int a) k1 p1, .Constant (.int b) k2 p2] [] p3] [] p4) p5] [] p6 →
   Builtin.Range.small a b 1 = true → (b - a).toNat < 1000 → constInts es = some ms → ns = ms ++ ((List.range (b - a).toNat).map fun (k : Nat) => a + k) → P) : P := by
 refine Option.bindE h fun as h1 h => Option.bindE h fun x h2 h => Option.bindE h fun lr h3 h => Option.bindE h fun es h4 h => Option.bindE h fun bs h5 h => Option.bindE h fun y h6 h => Option.bindE h fun cs h7 h => Option.bindE h fun ab h8 h => iteO h fun hc h => Option.bindE h fun ms hm hz => ?_
 clear h
 obtain ⟨fp, p6, e1⟩ := callOf_eq h1
 obtain ⟨p5, e3⟩ := addOf_eq h3
 obtain ⟨q, hl⟩ := itemsE_eq h4
 obtain ⟨gp, p4, hr⟩ := callOf_eq h5
 obtain ⟨rp, p3, hy⟩ := callOf_eq h7
 obtain ⟨k1, p1, k2, p2, hs⟩ := pairC_eq h8
 simp only [Bool.and_eq_true, decide_eq_true_eq] at hc
 refine k fp es q gp rp ab.1 k1 p1 ab.2 k2 p2 p3 p4 p5 p6 ms ?_ hc.1 hc.2 hm (Option.some.inj hz).symm
 rw [e1, one1_eq h2, e3, hl, hr, one1_eq h6, hy, hs]
noncomputable def nameTarget (ts : List Expr) : Option Str := (one1 ts).bind nameOfE
theorem nameTarget_eq {ts : List Expr} {x : Str} (h : nameTarget ts = some x) : ∃ q, ts = [.Name x q] := Option.bindE h fun t h1 h2 => by
 obtain ⟨q, rfl⟩ := nameOfE_eq h2
 exact ⟨q, one1_eq h1⟩
noncomputable def stName (s : Stmt) : Option Str := match s with
 | .FunctionDef name .. => some name
 | .Assign ts _ _ => nameTarget ts
 | _ => none
noncomputable def defPos (s : Stmt) : Option (Int × Int) := match s with
 | .FunctionDef _ _ _ _ _ _ _ _ _ pos => some (pos.line, pos.col)
 | _ => none
noncomputable def isConstE (x : Expr) : Bool := match x with
 | .Constant .. => true
 | _ => false
noncomputable def dictOf (x : Expr) : Option (List (Option Expr) × List Expr) := match x with
 | .Dict ks vs _ => some (ks, vs)
 | _ => none
theorem dictOf_eq {x : Expr} {d : List (Option Expr) × List Expr} (h : dictOf x = some d) : ∃ a, x = .Dict d.1 d.2 a := by
 cases x with
 | Dict => cases Option.some.inj h; exact ⟨_, rfl⟩
 | _ => exact no_none h
theorem setInts_kind {e : Expr} {ns : List Int} (h : setInts e = some ns) : isConstE e = false ∧ dictOf e = none := setIntsE h fun _ _ _ _ _ _ _ _ _ _ _ _ _ _ _ _ ee _ _ _ _ => by rw [ee]; exact ⟨rfl, rfl⟩
noncomputable def factName (s : Stmt) : Option Str := match s with
 | .FunctionDef name .. => some name
 | .Assign ts v _ => if isConstE v = true then none else nameTarget ts
 | _ => none
noncomputable def FactV (p : Program) (w : World) (N : Nat) (mg : Str → Option Value) (h : Heap) (x : Str) (v : Expr) : Option (List (Option Expr) × List Expr) → Prop
 | some d => Ex3 fun a kvs cs => mg x = some (.ref a) ∧ N ≤ a ∧ h.DictOf (intKind p w) a kvs ∧ constPairs d.1 d.2 = some cs ∧ KV cs kvs
 | none => Ex2 fun a ns => mg x = some (.ref a) ∧ N ≤ a ∧ setInts v = some ns ∧ h.SetOf (intKind p w) a (fun k' => (firstMet (fun i => ns.getD i 0) ns.length).any (· == k')) (firstMet (fun i => ns.getD i 0) ns.length).length
noncomputable def Fact (p : Program) (w : World) (N : Nat) (mg : Str → Option Value) (h : Heap) (s : Stmt) : Prop := match s with
 | .FunctionDef name a body _ _ _ sc _ _ _ => DefAt N name a body sc mg h
 | .Assign ts v _ => ∀ x, nameTarget ts = some x → isConstE v = true ∨ FactV p w N mg h x v (dictOf v)
 | _ => True
theorem FactV.keeps {p : Program} {w : World} {N : Nat} {mg mg' : Str → Option Value} {h h' : Heap} {x : Str} {v : Expr} {d : Option (List (Option Expr) × List Expr)} (f : FactV p w N mg h x v d) (hm : mg' x = mg x)
  (hk : ∀ b o, N ≤ b → h.get? b = some o → h'.get? b = some o) : FactV p w N mg' h' x v d := by
 cases d with
 | some d =>
  obtain ⟨a, kvs, cs, h1, h2, ⟨o, es, ep, ho, r⟩, h3, h4⟩ := f
  exact ⟨a, kvs, cs, hm.trans h1, h2, ⟨o, es, ep, hk _ _ h2 ho, r⟩, h3, h4⟩
 | none =>
  obtain ⟨a, ns, h1, h2, h3, o, es, ep, t, ho, r⟩ := f
  exact ⟨a, ns, hm.trans h1, h2, h3, o, es, ep, t, hk _ _ h2 ho, r⟩
theorem Fact.keeps {p : Program} {w : World} {N : Nat} {mg mg' : Str → Option Value} {h h' : Heap} {st : Stmt} (f : Fact p w N mg h st) (hm : ∀ x, factName st = some x → mg' x = mg x)
  (hk : ∀ b o, N ≤ b → h.get? b = some o → h'.get? b = some o) : Fact p w N mg' h' st := by
 cases st with
 | FunctionDef => exact DefAt.keeps f (hm _ rfl) hk
 | Assign ts v pos =>
  intro x hx
  by_cases hc : isConstE v = true
  ·exact .inl hc
  ·exact .inr (((f x hx).resolve_left hc).keeps (hm x ((if_neg hc).trans hx)) hk)
 | _ => trivial
structure TopI (p : Program) (w : World) (sB : Shared) (c Pl : Addr) (mg₀ : Str → Option Value) (dn : List Stmt) (s : Shared) (mg : Str → Option Value) (ps : Array Value) : Prop where
 main : s.heap.Main mg c Pl ps
 keep : ∀ b o, b ≠ Pl → b ≠ mainGlobals → sB.heap.get? b = some o → s.heap.get? b = some o
 gens : s.gens = sB.gens
 os : s.os = sB.os
 size : sB.heap.objs.size ≤ s.heap.objs.size
 lowP : Pl < sB.heap.objs.size
 lowG : mainGlobals < sB.heap.objs.size
 facts : ∀ st ∈ dn, Fact p w sB.heap.objs.size mg s.heap st
 others : ∀ x, x ∉ dn.filterMap stName → mg x = mg₀ x
 codes : PsOf ps.toList (dn.filterMap defPos)
noncomputable abbrev StepOk (p : Program) (w : World) (sB : Shared) (c Pl : Addr) (mg₀ : Str → Option Value) (dn : List Stmt) (st : Stmt) (f : Flow) (s' : Shared) : Prop := f = .next ∧ Ex2 fun mg' ps' => TopI p w sB c Pl mg₀ (dn ++ [st]) s' mg' ps'
section
variable {p : Program} {w : World} {A : Around} {s sB : Shared} {c Pl F : Addr} {mg mg₀ : Str → Option Value} {ps : Array Value} {dn : List Stmt}
theorem TopI.more (T : TopI p w sB c Pl mg₀ dn s mg ps) {st : Stmt} {x : Str} {v : Value} {h' : Heap} {t : Nat} {ps' : Array Value} (hx : stName st = some x) (hnew : x ∉ dn.filterMap factName)
  (hm : h'.Main (fun y => if y = x then some v else mg y) c Pl ps') (hk : ∀ b o, b ≠ Pl → b ≠ mainGlobals → s.heap.get? b = some o → h'.get? b = some o) (hsz : s.heap.objs.size ≤ h'.objs.size)
  (hps : PsOf ps'.toList ((dn ++ [st]).filterMap defPos)) (hf : Fact p w sB.heap.objs.size (fun y => if y = x then some v else mg y) h' st) :
  TopI p w sB c Pl mg₀ (dn ++ [st]) { s with heap := h', toks := t } (fun y => if y = x then some v else mg y) ps' := by
 have up : ∀ b o, sB.heap.objs.size ≤ b → s.heap.get? b = some o → h'.get? b = some o := fun b o hb e =>
  hk b o (Nat.ne_of_gt (Nat.lt_of_lt_of_le T.lowP hb)) (Nat.ne_of_gt (Nat.lt_of_lt_of_le T.lowG hb)) e
 refine ⟨hm, fun b o h1 h2 e => hk b o h1 h2 (T.keep b o h1 h2 e), T.gens, T.os, Nat.le_trans T.size hsz, T.lowP, T.lowG, fun st' hst => ?_, fun y hy => ?_, hps⟩
 ·rcases List.mem_append.mp hst with hst | hst
  ·refine (T.facts st' hst).keeps (fun y hy => ?_) up
   have : y ≠ x := fun q => hnew (List.mem_filterMap.mpr ⟨st', hst, q ▸ hy⟩)
   simp [this]
  ·simp at hst; subst hst; exact hf
 ·rw [List.filterMap_append, List.mem_append, not_or] at hy
  have : y ≠ x := fun q => hy.2 (by simp [hx, q])
  simp only [if_neg this]
  exact T.others y hy.1
theorem qual_main {name : Str} (h : p.main.scope.names.lookup name = some .local) : qualnameIn { scope := p.main.scope, locals := mainGlobals, globals := mainGlobals, cells := [] } name name = name := by
 unfold qualnameIn Env.kindOf
 simp only [h]
 show (if (some NameKind.local == some NameKind.globalExplicit) = true then name else Str.ofString "" ++ name) = name
 rw [if_neg (by decide)]
 obtain ⟨a⟩ := name
 have e0 : (Str.ofString "").cps = #[] := rfl
 show (⟨(Str.ofString "").cps ++ a⟩ : Str) = _
 rw [e0]
 simp
theorem def_step (T : TopI p w sB c Pl mg₀ dn s mg ps) {name : Str} {a : Arguments} {body : List Stmt} {sc : Scope} {pos : Pos} (hok : defOk p name a sc = true) (hpos : ((pos.line : Int), (pos.col : Int)) ∉ dn.filterMap defPos) (hnew : name ∉ dn.filterMap factName)
  (hmod : p.main.scope.kind = .module) :
  wpAny (model p w) A (exec (.FunctionDef name a body [] none [] sc none name pos) (mainEnv p c F)) (StepOk p w sB c Pl mg₀ dn (.FunctionDef name a body [] none [] sc none name pos)) NoE s := by
 simp only [defOk, Bool.and_eq_true, List.all_eq_true, beq_iff_eq, bne_iff_ne, ne_eq] at hok
 obtain ⟨⟨⟨⟨⟨h1, h2⟩, h3⟩, h4⟩, h5⟩, h6⟩ := hok
 have hnf := T.codes.none hpos
 have hps : ∀ c', PsOf (ps ++ #[rawInt pos.line, rawInt pos.col, .ref c']).toList ((dn ++ [Stmt.FunctionDef name a body [] none [] sc none name pos]).filterMap defPos) := fun c' => by
  rw [List.filterMap_append]
  have := T.codes.append (pos.line : Int) (pos.col : Int) (.ref c')
  rw [Array.toList_append]; exact this
 have up : ∀ {h h' : Heap}, True := trivial
 simp only [kwOkB, Bool.or_eq_true, Bool.and_eq_true, List.isEmpty_iff, beq_iff_eq] at h1
 rcases h1 with ⟨k1, k2⟩ | ⟨k1, k2⟩
 ·refine wpAny_defStmt0N k1 k2 h2 (ann_free h3) h4 h5 (qual_main h5) T.main (fun ad c' doc dV vs h' tk ha hm hf hcv hD hcd htb keep => ⟨rfl, _, _, T.more rfl hnew hm keep (Nat.le_trans ha (Nat.le_of_lt (Heap.lt_size hf))) (hps c') ?_⟩) h6 hmod hnf
  refine ⟨⟨ad, c', doc, dV, .none, _, vs⟩, by simp, Nat.le_trans T.size ha, hf, Nat.le_trans T.size hcd.1, hcd.2, hcv, ?_, .inl ⟨k1, k2, rfl⟩⟩
  rcases hD with hD | ⟨n1, X, e1, hX, hg⟩
  ·exact .inl hD
  ·exact .inr ⟨n1, X, e1, Nat.le_trans T.size hX, hg⟩
 ·obtain ⟨d1, d2, hkd⟩ := noneDef_eq k2
  obtain ⟨kw, hkw⟩ : ∃ kw, a.kwonlyargs = [kw] := by
   match a.kwonlyargs, k1 with
   | [kw], _ => exact ⟨kw, rfl⟩
  refine defKw hkw hkd h2 (ann_free h3) h4 h5 (qual_main h5) T.main (fun ad c' doc dV kV vs h' tk ha hm hf hcv hD hK hcd keep => ⟨rfl, _, _, T.more rfl hnew hm keep (Nat.le_trans ha (Nat.le_of_lt (Heap.lt_size hf))) (hps c') ?_⟩) h6 hmod hnf
  obtain ⟨K, e1, hKs, hKn⟩ := hK
  refine ⟨⟨ad, c', doc, dV, kV, _, vs⟩, by simp, Nat.le_trans T.size ha, hf, Nat.le_trans T.size hcd.1, hcd.2, hcv, ?_, .inr ⟨kw.arg, d1, d2, K, by rw [hkw]; rfl, hkd, e1, Nat.le_trans T.size hKs, hKn⟩⟩
  rcases hD with hD | ⟨n1, X, e1, hX, hg⟩
  ·exact .inl hD
  ·exact .inr ⟨n1, X, e1, Nat.le_trans T.size hX, hg⟩
end
section
variable {p : Program} {w : World} {A : Around} {s sB : Shared} {c Pl F : Addr} {mg mg₀ : Str → Option Value} {ps : Array Value} {dn : List Stmt}
theorem assign_step (T : TopI p w sB c Pl mg₀ dn s mg ps) {x : Str} {q pos : Pos} {value : Expr} (hnew : x ∉ dn.filterMap factName) (hloc : p.main.scope.names.lookup x = some .local) (hmod : p.main.scope.kind = .module) (hnb : x ≠ ("__builtins__" : Str))
  (hs : swapsWith value (some (.Name x q)) pos.line (mainEnv p c F) = pure false)
  (hev : ∀ {Q' : Value → Shared → Prop}, (∀ v h₁ t, (∀ b o, s.heap.get? b = some o → h₁.get? b = some o) → s.heap.objs.size ≤ h₁.objs.size →
   (∀ h', (∀ b o, sB.heap.objs.size ≤ b → h₁.get? b = some o → h'.get? b = some o) → Fact p w sB.heap.objs.size (fun y => if y = x then some v else mg y) h' (.Assign [.Name x q] value pos)) → Q' v { s with heap := h₁, toks := t }) →
   wpAny (model p w) A (eval value (mainEnv p c F)) Q' NoE s) :
  wpAny (model p w) A (exec (.Assign [.Name x q] value pos) (mainEnv p c F)) (StepOk p w sB c Pl mg₀ dn (.Assign [.Name x q] value pos)) NoE s := by
 refine wpAny_Assign_Name (hev fun v h₁ t hk hsz hf => ?_) hs
 refine wpAny_storeName_local (env := mainEnv p c F) (s := { s with heap := h₁, toks := t }) hloc (T.main.g.keeps hk) (fun h' hg hsb => ⟨rfl, (fun y => if y = x then some v else mg y), ps, ?_⟩) (by show (p.main.scope.kind == .class || (p.main.scope.kind == .module && mainGlobals != mainGlobals)) = false; rw [hmod]; rfl)
 have up : ∀ b o, b ≠ mainGlobals → h₁.get? b = some o → h'.get? b = some o := fun b o hb e => (hsb.2 b hb).trans e
 have hlt := T.main.low
 obtain ⟨bm, o, hbm, hne0, hneG, hneP, hbo, hrest⟩ := T.main.bmod
 have hM : h'.Main (fun y => if y = x then some v else mg y) c Pl ps := ⟨hg, (T.main.code.keeps hk).sameBut hsb (Nat.ne_of_gt hlt.1) (Nat.ne_of_gt hlt.2), hlt,
  ⟨bm, o, by simp only [Ne.symm hnb, if_false]; exact hbm, hne0, hneG, hneP, up _ _ hneG (hk _ _ hbo), hrest⟩⟩
 exact T.more (t := t + 1) rfl hnew hM (fun b o _ hb e => up b o hb (hk b o e)) (by rw [hsb.1]; exact hsz) (by rw [List.filterMap_append, show List.filterMap defPos [Stmt.Assign [Expr.Name x q] value pos] = [] from rfl, List.append_nil]; exact T.codes)
  (hf h' fun b o hb e => up b o (Nat.ne_of_gt (Nat.lt_of_lt_of_le T.lowG hb)) e)
theorem name_step (T : TopI p w sB c Pl mg₀ dn s mg ps) {x : Str} {q pos : Pos} {k : Const} {d1 : Nat} {d2 : Pos} (hc : (Expr.Constant k d1 d2).isPlainConst = true) (hnew : x ∉ dn.filterMap factName) (hloc : p.main.scope.names.lookup x = some .local) (hmod : p.main.scope.kind = .module) (hnb : x ≠ ("__builtins__" : Str)) :
  wpAny (model p w) A (exec (.Assign [.Name x q] (.Constant k d1 d2) pos) (mainEnv p c F)) (StepOk p w sB c Pl mg₀ dn (.Assign [.Name x q] (.Constant k d1 d2) pos)) NoE s :=
 assign_step T hnew hloc hmod hnb rfl fun hq => wpAny_eval_const hc fun v tk _ => hq v s.heap tk (fun _ _ e => e) (Nat.le_refl _) fun _ _ _ _ => .inl rfl
theorem dict_step (T : TopI p w sB c Pl mg₀ dn s mg ps) {x : Str} {q pos pos' : Pos} {ks : List (Option Expr)} {vs : List Expr} {cs : List (Int × Str)} (hcs : constPairs ks vs = some cs) (hnd : (cs.map (·.1)).Nodup) (hne : cs ≠ []) (hl : cs.length ≤ 65536)
  (hS : ∃ o, sB.heap.get? sysModules = some o) (hPS : Pl ≠ sysModules) (hnew : x ∉ dn.filterMap factName) (hloc : p.main.scope.names.lookup x = some .local) (hmod : p.main.scope.kind = .module) (hnb : x ≠ ("__builtins__" : Str)) :
  wpAny (model p w) A (exec (.Assign [.Name x q] (.Dict ks vs pos') pos) (mainEnv p c F)) (StepOk p w sB c Pl mg₀ dn (.Assign [.Name x q] (.Dict ks vs pos') pos)) NoE s := by
 refine assign_step T hnew hloc hmod hnb rfl fun hq => ?_
 rw [arm_eval_Dict, constPairs_items hcs]
 refine wpAny_bind (wpAny_standAt (dictDisplay_consts hnd hne hl ?_ fun a h' t kvs hk ha hd hkv => hq _ h' t hk (Nat.le_trans ha (Nat.le_of_lt (let ⟨o, es, ep, ho, _⟩ := hd; Heap.lt_size ho))) fun h'' up => ?_))
 ·obtain ⟨o, ho⟩ := hS
  exact ⟨o, T.keep _ _ (Ne.symm hPS) (by decide) ho⟩
 ·obtain ⟨o, es, ep, ho, r⟩ := hd
  refine fun y hy => .inr ?_
  cases hy
  exact ⟨a, kvs, cs, by simp, Nat.le_trans T.size ha, ⟨o, es, ep, up _ _ (Nat.le_trans T.size ha) ho, r⟩, hcs, hkv⟩
noncomputable def dumCx (p : Program) (w : World) : Cx := ⟨⟨p, [], [], [], fun _ => none, false⟩, w, { objs := #[] }, fun _ => none, fun _ => none, default, fun _ => False⟩
theorem name_builtin {x : Str} {pos : Pos} {v : Value} {mb : Str → Option Value} {Q : Value → Shared → Prop} (hmod : p.main.scope.kind = .module) (hg : s.heap.Ns mainGlobals mg) (hb : s.heap.Ns builtinsNs mb) (hm : mg x = none) (hv : mb x = some v) (hd : x ≠ ("__debug__" : Str)) (hQ : Q v s) :
  wpAny (model p w) A (eval (.Name x pos) (mainEnv p c F)) Q NoE s := by
 rw [arm_eval_Name]
 refine wpAny_bind (wpAny_standAt ?_)
 rw [if_neg (by simpa using hd)]
 have : loadName (mainEnv p c F) x = loadGlobal (mainEnv p c F) x := by
  unfold loadName Env.blockKind
  have hk : (mainEnv p c F).scope.kind = .module := hmod
  have hl : ((mainEnv p c F).locals != (mainEnv p c F).globals) = false := by show (mainGlobals != mainGlobals) = false; simp
  simp only [hk, hl]
  rfl
 rw [this]
 exact loadGlobal_builtin hg hm hb hv hQ
theorem spliced_ints {env : Env} {pos : Pos} : ∀ {es : List Expr} {ns : List Int} {s : Shared} {Q : List Value → Shared → Prop}, constInts es = some ns → (∀ vs t, IntsAre vs ns → Q vs { s with toks := t }) → wpAny (model p w) A (spliced (backTo pos (starEach es env))) Q NoE s
 | [], ns, s, Q, h, hq => by
  cases Option.some.inj h
  exact spliced_nil (hq [] s.toks .nil)
 | e :: es, ns, s, Q, h, hq => by
  refine Option.bindE h fun i hi h => Option.bindE h fun ms hm h => ?_
  cases h
  obtain ⟨a, b, rfl⟩ := intC_eq hi
  exact spliced_cons (wpAny_mkInt (spliced_ints hm fun vs t hi => hq _ t (.cons _ _ hi)))
theorem set_step (T : TopI p w sB c Pl mg₀ dn s mg ps) {x : Str} {q pos : Pos} {value : Expr} {ns : List Int} {mb : Str → Option Value} (hv : setInts value = some ns) (hns : ns.length < 4000) (hA : A.handled = none) (hb : sB.heap.Ns builtinsNs mb) (hPb : Pl ≠ builtinsNs)
  (b1 : mb "set" = some (.type "set")) (b2 : mb "list" = some (.type "list")) (b3 : mb "range" = some (.type "range")) (g1 : mg "set" = none) (g2 : mg "list" = none) (g3 : mg "range" = none)
  (hnew : x ∉ dn.filterMap factName) (hloc : p.main.scope.names.lookup x = some .local) (hmod : p.main.scope.kind = .module) (hnb : x ≠ ("__builtins__" : Str)) :
  wpAny (model p w) A (exec (.Assign [.Name x q] value pos) (mainEnv p c F)) (StepOk p w sB c Pl mg₀ dn (.Assign [.Name x q] value pos)) NoE s := by
 have hv' := hv
 refine setIntsE hv fun fp es gq gp rp a k1 p1 b k2 p2 p3 p4 p5 p6 ms ee c4 c6 hms en => ?_
 clear hv
 subst ee en
 refine assign_step T hnew hloc hmod hnb rfl fun {Q'} hq => ?_
 have hbs : s.heap.Ns builtinsNs mb := hb.at fun o e => T.keep _ o (Ne.symm hPb) (by decide) e
 refine wpAny_Call_Name_kw (name_builtin hmod T.main.g hbs g1 b1 (by decide) ?_)
 refine callWith_any (C := dumCx p w) rfl rfl ?_
 refine spliced_cons ?_
 -- the list of constants
 refine wpAny_BinOp ?_
 rw [arm_eval_List]
 refine wpAny_bind (wpAny_standAt (wpAny_bind (spliced_ints hms fun us t hi => ?_)))
 have hul := hi.length
 have hml : ms.length < 4000 := by simp at hns; lia
 refine wpAny_newList ?_ (by rw [hul, sizeLine_eq]; lia)
 have k1 := push_keeps s.heap { cls := .type "list", data := .seq us.toArray }
 have hg1 : (s.heap.push { cls := .type "list", data := .seq us.toArray }).Ns mainGlobals mg := T.main.g.keeps k1
 have hb1 : (s.heap.push { cls := .type "list", data := .seq us.toArray }).Ns builtinsNs mb := hbs.keeps k1
 have pl1 : PL (s.heap.push { cls := .type "list", data := .seq us.toArray }) s.heap.objs.size us := ⟨0, Heap.get?_push_size _ rfl⟩
 -- list(range(a, b))
 refine wpAny_Call_Name_kw (name_builtin (s := { s with heap := s.heap.push { cls := .type "list", data := .seq us.toArray }, toks := t }) hmod hg1 hb1 g2 b2 (by decide) ?_)
 refine callWith_any (C := dumCx p w) rfl rfl ?_
 refine spliced_cons ?_
 refine wpAny_Call_Name_kw (name_builtin (s := { s with heap := s.heap.push { cls := .type "list", data := .seq us.toArray }, toks := t }) hmod hg1 hb1 g3 b3 (by decide) ?_)
 refine callWith_any (C := dumCx p w) rfl rfl ?_
 refine spliced_cons (wpAny_mkInt (spliced_cons (wpAny_mkInt (spliced_nil ?_))))
 refine wpAny_evalAll_nil ⟨.inl (fun _ e => by cases e), call_range_2 ?_⟩
 generalize hH : (s.heap.push { cls := .type "list", data := .seq us.toArray }) = H at *
 refine spliced_nil (wpAny_evalAll_nil ⟨.inl (fun _ e => by cases e), ?_⟩)
 have k2 := push_keeps H { cls := .type "range", data := .fields #[.int a t, .int b (t + 1), .int 1 (t + 1 + 1)] }
 refine call_list_range (n := (b - a).toNat) hA (IsRange.new H a b 1 t (t + 1) (t + 1 + 1)) c4 (rangeSize_nat a b) (Nat.le_trans (Nat.le_of_lt c6) (by decide)) fun h' tk acc' ce hk hget hit => ?_
 dsimp only at hk hget ⊢
 have hiA : IntsAre acc'.toList ((List.range (b - a).toNat).map fun (k : Nat) => a + k) := by
  have key : ∀ (l : List Value) (k0 : Nat), (∀ (j : Nat) (v : Value), l[j]? = some v → ∃ t, v = Value.int (a + ((k0 + j : Nat) : Int) * 1) t) → IntsAre l ((List.range' k0 l.length).map fun (k : Nat) => a + k) := by
   intro l
   induction l with
   | nil => intro _ _; exact .nil
   | cons v l ih =>
    intro k0 hl
    obtain ⟨t, rfl⟩ := hl 0 v rfl
    rw [List.length_cons, List.range'_succ, List.map_cons]
    have := ih (k0 + 1) fun j u hu => by
     obtain ⟨t, ht⟩ := hl (j + 1) u (by simpa using hu)
     exact ⟨t, by rw [ht]; congr 3; lia⟩
    have e0 : a + ((k0 + 0 : Nat) : Int) * 1 = a + k0 := by simp
    rw [e0]
    exact .cons _ _ this
  have := key acc'.toList 0 fun j v hv => by
   rw [Array.getElem?_toList] at hv
   obtain ⟨t, ht⟩ := hit.2 j v hv
   exact ⟨t, by rw [ht]; congr 2; simp⟩
  rw [Array.length_toList, hit.1] at this
  rw [List.range_eq_range']
  exact this
 have k13 : ∀ b o, s.heap.get? b = some o → h'.get? b = some o := fun b o e => hk b o (k2 b o (k1 b o e))
 have plA : PL h' s.heap.objs.size us := by obtain ⟨n, e⟩ := pl1; exact ⟨n, hk _ _ (k2 _ _ e)⟩
 have plB : PL h' H.objs.size.succ acc'.toList := ⟨ce, by
  have : (H.push { cls := .type "range", data := .fields #[.int a t, .int b (t + 1), .int 1 (t + 1 + 1)] }).objs.size = H.objs.size.succ := Heap.size_push ..
  rw [← this]; rw [hget]⟩
 have szP : (H.push { cls := .type "range", data := .fields #[.int a t, .int b (t + 1), .int 1 (t + 1 + 1)] }).objs.size = H.objs.size.succ := Heap.size_push ..
 rw [szP]
 have hlB := hiA.length
 simp at hlB
 refine add_raw (C := dumCx p w) (s := { s with heap := h', toks := tk }) plA plB (by rw [sizeLine_eq, hul]; simp; lia) ?_
 have k4 := push_keeps h' { cls := .type "list", data := .seq (us ++ acc'.toList).toArray }
 refine spliced_nil (wpAny_evalAll_nil ⟨.inl (fun _ e => by cases e), ?_⟩)
 have hiS : IntsAre (us ++ acc'.toList) (ms ++ (List.range (b - a).toNat).map fun (k : Nat) => a + k) := by
  have key : ∀ {us : List Value} {ms : List Int}, IntsAre us ms → IntsAre (us ++ acc'.toList) (ms ++ (List.range (b - a).toNat).map fun (k : Nat) => a + k) := by
   intro us ms h
   induction h with
   | nil => exact hiA
   | cons n t _ ih => exact .cons _ _ ih
  exact key hi
 have hle := hiS.length
 refine call_set_list (s := { s with heap := h'.push { cls := .type "list", data := .seq (us ++ acc'.toList).toArray }, toks := tk }) hA ⟨_, Heap.get?_push_size _ rfl, rfl, 0, rfl⟩ (by simpa using hiS) (by rw [List.size_toArray, hle]; unfold scanBound; lia) fun h5 tk5 hS hk5 => ?_
 have hsz1 : s.heap.objs.size ≤ h'.objs.size := by
  obtain ⟨n, e⟩ := plA
  exact Nat.le_of_lt (Heap.lt_size e)
 have szL : (h'.push { cls := .type "list", data := .seq (us ++ acc'.toList).toArray }).objs.size = h'.objs.size + 1 := Heap.size_push ..
 have hus : (us ++ acc'.toList).toArray.size = (ms ++ (List.range (b - a).toNat).map fun (k : Nat) => a + k).length := by rw [List.size_toArray, hle]
 rw [hus] at hS
 dsimp only at hS hk5 ⊢
 rw [szL] at hS hk5 ⊢
 have hlt5 : h'.objs.size + 1 < h5.objs.size := let ⟨o, es, ep, t, ho, _⟩ := hS; Heap.lt_size ho
 refine hq _ h5 tk5 (fun b o e => hk5 b o (Nat.lt_succ_of_lt (Nat.lt_of_lt_of_le (Heap.lt_size e) hsz1)) (k4 b o (k13 b o e))) (Nat.le_trans hsz1 (by lia)) fun h6 up => ?_
 have hN : sB.heap.objs.size ≤ h'.objs.size + 1 := Nat.le_trans T.size (Nat.le_trans hsz1 (Nat.le_succ _))
 obtain ⟨o, es, ep, t', ho, r⟩ := hS
 refine fun y hy => .inr ?_
 cases hy
 exact ⟨_, _, by simp, hN, hv', o, es, ep, t', up _ _ hN ho, r⟩
end
noncomputable def srtF (x : Int) : List Int → Bool
 | [] => true
 | y :: l => decide (x < y) && srtF y l
theorem srtF_iff (l : List Int) : ∀ {x : Int}, srtF x l = true → (∀ z ∈ l, x < z) ∧ l.Nodup := by
 induction l with
 | nil => exact fun _ => ⟨fun _ h => (nomatch h), List.nodup_nil⟩
 | cons y l ih =>
  intro x h
  obtain ⟨h1, h2⟩ := Bool.and_eq_true_iff.mp h
  obtain ⟨i1, i2⟩ := ih h2
  have h1 := of_decide_eq_true h1
  exact ⟨fun z hz => (List.mem_cons.mp hz).elim (fun e => e ▸ h1) fun hz => Int.lt_trans h1 (i1 z hz), List.nodup_cons.mpr ⟨fun hy => Int.lt_irrefl _ (i1 y hy), i2⟩⟩
noncomputable def nodupI (l : List Int) : Bool := match l with
 | [] => true
 | x :: l => srtF x l
theorem nodupI_iff {l : List Int} (h : nodupI l = true) : l.Nodup := by
 cases l with
 | nil => exact List.nodup_nil
 | cons x l => exact List.nodup_cons.mpr ⟨fun hx => Int.lt_irrefl _ ((srtF_iff l h).1 x hx), (srtF_iff l h).2⟩
noncomputable def nameOk (p : Program) (dn : List Stmt) (x : Str) : Bool := !(dn.filterMap factName).contains x && p.main.scope.names.lookup x == some .local && x != ("__builtins__" : Str)
noncomputable def dictOk (o : Option (List (Int × Str))) : Bool := match o with
 | some cs => nodupI (cs.map (·.1)) && !cs.isEmpty && decide (cs.length ≤ 65536)
 | none => false
noncomputable def setOk (o : Option (List Int)) : Bool := match o with
 | some ns => decide (ns.length < 4000)
 | none => false
noncomputable def valOk (dn : List Stmt) (v : Expr) : Option (List (Option Expr) × List Expr) → Bool
 | some d => dictOk (constPairs d.1 d.2)
 | none => setOk (setInts v) && ([("set" : Str), "list", "range"].all fun y => !(dn.filterMap stName).contains y)
noncomputable def asgOk (p : Program) (dn : List Stmt) (v : Expr) : Option Str → Bool
 | some x => nameOk p dn x && (if isConstE v = true then v.isPlainConst else valOk dn v (dictOf v))
 | none => false
noncomputable def stOk (p : Program) (dn : List Stmt) (s : Stmt) : Bool := match s with
 | .FunctionDef name a _ ds re ts sc co name' pos => isNil ds && re.isNone && isNil ts && co.isNone && name == name' && defOk p name a sc && !(dn.filterMap defPos).contains ((pos.line : Int), (pos.col : Int)) && !(dn.filterMap factName).contains name
 | .Assign ts v _ => asgOk p dn v (nameTarget ts)
 | _ => false
noncomputable def topOk (p : Program) : List Stmt → List Stmt → Bool
 | _, [] => true
 | dn, st :: rest => stOk p dn st && topOk p (dn ++ [st]) rest
section
variable {p : Program} {w : World} {A : Around} {sB : Shared} {c Pl F : Addr} {mg₀ mb : Str → Option Value}
structure TopB (p : Program) (sB : Shared) (Pl : Addr) (mg₀ mb : Str → Option Value) : Prop where
 mod : p.main.scope.kind = .module
 sys : ∃ o, sB.heap.get? sysModules = some o
 psys : Pl ≠ sysModules
 pblt : Pl ≠ builtinsNs
 blt : sB.heap.Ns builtinsNs mb
 b1 : mb "set" = some (.type "set")
 b2 : mb "list" = some (.type "list")
 b3 : mb "range" = some (.type "range")
 g1 : mg₀ "set" = none
 g2 : mg₀ "list" = none
 g3 : mg₀ "range" = none
theorem nameOk_iff {dn : List Stmt} {x : Str} (h : nameOk p dn x = true) : x ∉ dn.filterMap factName ∧ p.main.scope.names.lookup x = some .local ∧ x ≠ ("__builtins__" : Str) := by
 simp only [nameOk, Bool.and_eq_true, Bool.not_eq_true', List.contains_eq_mem, decide_eq_false_iff_not, beq_iff_eq, bne_iff_ne, ne_eq] at h
 exact ⟨h.1.1, h.1.2, h.2⟩
theorem st_step (B : TopB p sB Pl mg₀ mb) (hA : A.handled = none) {dn : List Stmt} {st : Stmt} {s : Shared} {mg : Str → Option Value} {ps : Array Value} (T : TopI p w sB c Pl mg₀ dn s mg ps) (h : stOk p dn st = true) :
  wpAny (model p w) A (exec st (mainEnv p c F)) (StepOk p w sB c Pl mg₀ dn (st)) NoE s := by
 cases st with
 | FunctionDef name a body ds re ts sc co name' pos =>
  have h : (isNil ds && re.isNone && isNil ts && co.isNone && name == name' && defOk p name a sc && !(dn.filterMap defPos).contains ((pos.line : Int), (pos.col : Int)) && !(dn.filterMap factName).contains name) = true := h
  simp only [Bool.and_eq_true, beq_iff_eq, Bool.not_eq_true', List.contains_eq_mem, decide_eq_false_iff_not, Option.isNone_iff_eq_none] at h
  obtain ⟨⟨⟨⟨⟨⟨⟨e1, rfl⟩, e2⟩, rfl⟩, rfl⟩, h2⟩, h3⟩, h4⟩ := h
  cases isNil_eq e1
  cases isNil_eq e2
  exact def_step T h2 h3 h4 B.mod
 | Assign ts v pos =>
  have h : asgOk p dn v (nameTarget ts) = true := h
  cases hx : nameTarget ts with
  | none => rw [hx] at h; exact nomatch h
  | some x =>
   rw [hx] at h
   obtain ⟨q, rfl⟩ := nameTarget_eq hx
   obtain ⟨hn, hv⟩ := Bool.and_eq_true_iff.mp (show (nameOk p dn x && (if isConstE v = true then v.isPlainConst else valOk dn v (dictOf v))) = true from h)
   obtain ⟨a, b, d⟩ := nameOk_iff hn
   by_cases hc : isConstE v = true
   ·rw [if_pos hc] at hv
    cases v with
    | Constant => exact name_step T hv a b B.mod d
    | _ => exact nomatch hc
   ·rw [if_neg hc] at hv
    cases hd : dictOf v with
    | some dd =>
     rw [hd] at hv
     obtain ⟨z, rfl⟩ := dictOf_eq hd
     cases hcs : constPairs dd.1 dd.2 with
     | none => have hv : dictOk (constPairs dd.1 dd.2) = true := hv; rw [hcs] at hv; exact nomatch hv
     | some cs =>
      have hv : dictOk (constPairs dd.1 dd.2) = true := hv
      rw [hcs] at hv
      have hv : (nodupI (cs.map (·.1)) && !cs.isEmpty && decide (cs.length ≤ 65536)) = true := hv
      simp only [Bool.and_eq_true, Bool.not_eq_true', List.isEmpty_eq_false_iff, decide_eq_true_eq] at hv
      exact dict_step T hcs (nodupI_iff hv.1.1) hv.1.2 hv.2 B.sys B.psys a b B.mod d
    | none =>
     rw [hd] at hv
     obtain ⟨h2, h1⟩ := Bool.and_eq_true_iff.mp (show (setOk (setInts v) && ([("set" : Str), "list", "range"].all fun y => !(dn.filterMap stName).contains y)) = true from hv)
     have h3 : ∀ y, y ∈ [("set" : Str), "list", "range"] → mg y = mg₀ y := fun y hy => by
      have := List.all_eq_true.mp h1 y hy
      simp only [Bool.not_eq_true', List.contains_eq_mem, decide_eq_false_iff_not] at this
      exact T.others y this
     cases hns : setInts v with
     | none => rw [hns] at h2; exact nomatch h2
     | some ns =>
      rw [hns] at h2
      exact set_step T hns (of_decide_eq_true h2) hA B.blt B.pblt B.b1 B.b2 B.b3 ((h3 _ (by simp)).trans B.g1) ((h3 _ (by simp)).trans B.g2) ((h3 _ (by simp)).trans B.g3) a b B.mod d
 | _ => exact nomatch h
theorem top_run (B : TopB p sB Pl mg₀ mb) (hA : A.handled = none) : ∀ (rest dn : List Stmt) (s : Shared) (mg : Str → Option Value) (ps : Array Value), topOk p dn rest = true → TopI p w sB c Pl mg₀ dn s mg ps →
  wpAny (model p w) A (execs rest (mainEnv p c F)) (fun f s' => f = .next ∧ Ex2 fun mg' ps' => TopI p w sB c Pl mg₀ (dn ++ rest) s' mg' ps') NoE s
 | [], dn, s, mg, ps, _, T => wpAny_execs_nil ⟨rfl, mg, ps, by rw [List.append_nil]; exact T⟩
 | st :: rest, dn, s, mg, ps, h, T => by
  unfold topOk at h
  obtain ⟨h1, h2⟩ := Bool.and_eq_true_iff.mp h
  refine wpAny_execs_cons (wpAny_mono (st_step B hA T h1) (fun f s' o => ?_) fun _ _ x => x)
  obtain ⟨rfl, mg', ps', T'⟩ := o
  have := top_run B hA rest (dn ++ [st]) s' mg' ps' h2 T'
  rw [List.append_assoc] at this
  exact this
end
noncomputable def TopEnd (p : Program) (w : World) (s₀ : Shared) (mg₀ : Str → Option Value) (s₁ : Shared) : Prop :=
 Ex5 fun sB c Pl mg ps => TopI p w sB c Pl mg₀ p.main.body s₁ mg ps ∧ (∀ b o, s₀.heap.get? b = some o → sB.heap.get? b = some o) ∧ s₀.heap.objs.size ≤ Pl ∧ s₀.heap.objs.size ≤ sB.heap.objs.size ∧ s₁.os = s₀.os ∧ s₁.gens = s₀.gens
structure Boots (s : Shared) (mg₀ mb : Str → Option Value) : Prop where
 g : s.heap.Ns mainGlobals mg₀
 lowG : mainGlobals < s.heap.objs.size
 bm : Ex2 fun bm o => mg₀ "__builtins__" = some (.ref bm) ∧ bm ≠ builtinsNs ∧ bm ≠ mainGlobals ∧ s.heap.get? bm = some o ∧ o.cls = .type "module" ∧ o.dict = some builtinsNs ∧ o.data = .plain
 sys : ∃ o, s.heap.get? sysModules = some o
 blt : s.heap.Ns builtinsNs mb
 b1 : mb "set" = some (.type "set")
 b2 : mb "list" = some (.type "list")
 b3 : mb "range" = some (.type "range")
 g1 : mg₀ "set" = none
 g2 : mg₀ "list" = none
 g3 : mg₀ "range" = none
theorem stub_walk {p : Program} {w : World} {s : Shared} {mg₀ mb : Str → Option Value} (hbeh : behindTheImports p = p.main.body) (hann : hasAnns p.main.body = false) (hdoc : docOf p.main.body = none)
  (htop : topOk p [] p.main.body = true) (hmod : p.main.scope.kind = .module) (B : Boots s mg₀ mb) (hgens : s.gens = #[]) :
  wpAny (model p w) callerA (topStub p).cur (fun fin s' => ∃ f, fin = .done f ∧ TopEnd p w s mg₀ s' ∧ s'.gens = #[]) (fun _ _ => False) s := by
 show wpAny (model p w) callerA (do
   let code ← moduleCode p.main
   let frame ← newBodyFrame code mainNs mainNs
   let _ ← run (.body (behindTheImports p) { scope := p.main.scope, locals := mainNs, globals := mainNs, cells := [], code, frame := some frame })
   ret .none) _ _ s
 refine wpAny_bind (wpAny_moduleCode fun c P h' tk hk hc hP hcode => ?_)
 unfold newBodyFrame
 refine wpAny_bind (wpAny_bind (wpAny_nsGet (B.g.keeps hk) (wpAny_alloc ?_)))
 rw [hbeh]
 generalize hob : Obj.mk _ _ _ _ = ob
 have hk2 : ∀ b o, s.heap.get? b = some o → (h'.push ob).get? b = some o := fun b o e => Heap.get?_push_of_some _ (hk b o e)
 have hsz : s.heap.objs.size ≤ h'.objs.size := Nat.le_of_lt (Nat.lt_of_le_of_lt hc hcode.lt.1)
 have hsz2 : h'.objs.size ≤ (h'.push ob).objs.size := by simp [Heap.push]
 obtain ⟨bm, o, m1, m2, m3, m4, m5, m6, m7⟩ := B.bm
 have bml : bm ≠ P := Nat.ne_of_lt (Nat.lt_of_lt_of_le (Heap.lt_size m4) hP)
 obtain ⟨so, hso⟩ := B.sys
 have Plt : P < (h'.push ob).objs.size := Nat.lt_of_lt_of_le hcode.lt.2 hsz2
 refine wpAny_bind (wpAny_run ?_)
 refine codeAny_body hann hdoc ?_
 refine wpAny_mono (top_run (c := c) (Pl := P) (mg₀ := mg₀) (mb := mb) (sB := ⟨h'.push ob, s.gens, s.drawn, tk, s.os⟩) ⟨hmod, ⟨so, hk2 _ _ hso⟩, (Nat.ne_of_lt (Nat.lt_of_lt_of_le (Heap.lt_size hso) hP)).symm, ?_, B.blt.keeps hk2, B.b1, B.b2, B.b3, B.g1, B.g2, B.g3⟩ rfl
   p.main.body [] _ mg₀ #[] htop ⟨⟨B.g.keeps hk2, hcode.push _, ⟨Nat.lt_of_lt_of_le B.lowG hc, Nat.lt_of_lt_of_le B.lowG hP⟩, ⟨bm, o, m1, m2, m3, bml, hk2 _ _ m4, m5, m6, m7⟩⟩, fun b o _ _ e => e, rfl, rfl, Nat.le_refl _, Plt, Nat.lt_of_lt_of_le B.lowG (Nat.le_trans hsz hsz2), fun st hst => (nomatch hst), fun x _ => rfl, rfl⟩)
  (fun f s' o => ?_) fun _ _ x => x.elim
 ·obtain ⟨ob', _, _, h1, _⟩ := B.blt
  exact (Nat.ne_of_lt (Nat.lt_of_lt_of_le (Heap.lt_size h1) hP)).symm
 ·obtain ⟨rfl, mg, ps, T⟩ := o
  exact wpAny_pure ⟨_, rfl, ⟨_, c, P, mg, ps, by simpa using T, hk2, hP, Nat.le_trans hsz hsz2, T.os, T.gens⟩, T.gens.trans hgens⟩
open PySem.Claim2Try (globalOf_of_ns)
theorem bh1 (P : Params) : (boot_heap P).isNs mainGlobals = true := by kernel_rfl
theorem bh2 (P : Params) : (boot_heap P).isNs builtinsNs = true := by kernel_rfl
theorem bh3 (P : Params) : (boot_heap P).isNs cStatics = true := by kernel_rfl
theorem bh4 (P : Params) : (boot_heap P).nsMap builtinsNs "set" = some (.type "set") := by kernel_rfl
theorem bh5 (P : Params) : (boot_heap P).nsMap builtinsNs "list" = some (.type "list") := by kernel_rfl
theorem bh6 (P : Params) : (boot_heap P).nsMap builtinsNs "range" = some (.type "range") := by kernel_rfl
theorem bh7 (P : Params) : (boot_heap P).nsMap mainGlobals "set" = none := by kernel_rfl
theorem bh8 (P : Params) : (boot_heap P).nsMap mainGlobals "list" = none := by kernel_rfl
theorem bh9 (P : Params) : (boot_heap P).nsMap mainGlobals "range" = none := by kernel_rfl
theorem bh10 (P : Params) : ((boot_heap P).get? sysModules).isSome = true := by kernel_rfl
theorem bh11 (P : Params) : (boot_heap P).bmainOk = true := by kernel_rfl
theorem bh12 (P : Params) : (boot_heap P).bltView = bltViewBooted := by kernel_rfl
theorem bh13 (P : Params) : (boot_heap P).accountedOkI [] = true := by kernel_rfl
theorem bh14 (P : Params) : ((boot_heap P).nsKeys mainGlobals).all startupNames.contains = true := by kernel_rfl
theorem boots {s : Shared} {P : Params} (h : s.heap = boot_heap P) : Boots s ((boot_heap P).nsMap mainGlobals) ((boot_heap P).nsMap builtinsNs) := by
 obtain ⟨bm, o, h1, h2, h3, h4, h5, h6⟩ := Heap.bmainOk_spec (bh11 P)
 have hg : s.heap.Ns mainGlobals ((boot_heap P).nsMap mainGlobals) := by rw [h]; exact .of_isNs (bh1 P)
 refine ⟨hg, ?_, ⟨bm, o, h1, h2, ?_, h ▸ h3, h4, h5, h6⟩, h ▸ Option.isSome_iff_exists.mp (bh10 P), by rw [h]; exact .of_isNs (bh2 P), bh4 P, bh5 P, bh6 P, bh7 P, bh8 P, bh9 P⟩
 ·obtain ⟨_, _, _, x, _⟩ := hg
  exact Heap.lt_size x
 ·rintro rfl
  obtain ⟨_, _, _, x, y, _⟩ := Heap.Ns.of_isNs (bh1 P)
  rw [x] at h3; cases h3
  rw [h6] at y; cases y
structure TopChecks (p : Program) : Prop where
 beh : behindTheImports p = p.main.body
 opn : opening p = plainProg p.main.scope.names
 ann : hasAnns p.main.body = false
 doc : docOf p.main.body = none
 top : topOk p [] p.main.body = true
 kind : p.main.scope.kind = .module
 imps : importedModules p.main.body = []
 bound : (p.main.body.filterMap stName).all (fun x => p.boundNames.contains x && !laidNames.contains x) = true
theorem sameGet {p : Program} {w : World} {s₀ s₁ : Shared} {mg₀ : Str → Option Value} (T : TopEnd p w s₀ mg₀ s₁) {b : Addr} {o : Obj} (e : s₀.heap.get? b = some o) (hb : b ≠ mainGlobals) : s₁.heap.get? b = some o := by
 obtain ⟨sB, c, Pl, mg, ps, T, hk, hP, _⟩ := T
 exact T.keep b o (Nat.ne_of_lt (Nat.lt_of_lt_of_le (Heap.lt_size e) hP)) hb (hk b o e)
theorem topRan {p : Program} {w : World} {s₀ : Shared} (C : TopChecks p) (hh : s₀.heap = boot_heap w.params) (hgens : s₀.gens = #[]) (hz : s₀.asleep) :
  ∃ s₁, TopRan p w s₀ s₁ ∧ TopEnd p w s₀ ((boot_heap w.params).nsMap mainGlobals) s₁ ∧ s₁.gens = #[] ∧ s₁.asleep := by
 obtain ⟨s₁, run, life, T, g⟩ := thread_through (prog := p) (w := w) (t := (topStub p).cur) (R := fun s' => TopEnd p w s₀ ((boot_heap w.params).nsMap mainGlobals) s' ∧ s'.gens = #[]) hz hgens
  (wpAny_mono (stub_walk C.beh C.ann C.doc C.top C.kind (boots hh) hgens) (fun fin s' ⟨f, a, b, d⟩ => ⟨f, a, ⟨b, d⟩, d⟩) fun _ _ x => x)
 have hst : ∀ key, staticOf s₁.heap key = staticOf s₀.heap key := by
  obtain ⟨o, _, _, x, _⟩ := Heap.Ns.of_isNs (hh ▸ bh3 w.params : s₀.heap.isNs cStatics = true)
  intro key
  unfold staticOf
  rw [sameGet T x (by decide), x]
 have hbt : ∀ key, builtinOf s₁.heap key = builtinOf s₀.heap key := by
  obtain ⟨o, _, _, x, _⟩ := Heap.Ns.of_isNs (hh ▸ bh2 w.params : s₀.heap.isNs builtinsNs = true)
  intro key
  unfold builtinOf
  rw [sameGet T x (by decide), x]
 have hg0 : ∀ x, globalOf s₀.heap x = (boot_heap w.params).nsMap mainGlobals x := globalOf_of_ns (boots hh).g
 refine ⟨s₁, ⟨run.elim fun n t h => ⟨n, t, h⟩, life, ?_, ?_, ?_, fun key => .inl (hst key), ?_, ?_, ?_, ?_, ?_, ?_⟩, T, g, Shared.asleep_of_life life hz⟩
 ·obtain ⟨_, _, _, _, _, _, _, _, _, os, _⟩ := T
  exact Shared.rest_eq os
 ·intro b o e hn
  exact sameGet T e fun q => hn (.inl q)
 ·rw [C.imps]
  have := Heap.accountedI_of_ok (hh ▸ bh13 w.params : s₀.heap.accountedOkI [] = true)
  intro key v hv
  have := this key v ((hst key).symm.trans hv)
  simpa only [hst] using this
 ·obtain ⟨_, _, _, _, _, T, _⟩ := T
  exact Pin.keysAreStrs_of_ns T.main.g
 ·intro x hx
  rw [hbt, Pin.builtinOf_eq (hh ▸ bh2 w.params)]
  exact Heap.of_bltView (hh ▸ bh2 w.params) (hh ▸ bh12 w.params) x hx
 ·obtain ⟨_, _, _, mg, _, T, _⟩ := T
  obtain ⟨bm, o, h1, _, _, _, h2, h3, h4, _⟩ := T.main.bmod
  exact ⟨bm, o, (globalOf_of_ns T.main.g _).trans h1, h2, h3, h4⟩
 ·intro x hx
  rw [g] at hx
  simp at hx
 ·obtain ⟨_, _, _, mg, _, T, _⟩ := T
  intro x v hx
  rw [globalOf_of_ns T.main.g] at hx
  by_cases hn : x ∈ p.main.body.filterMap stName
  ·have := List.all_eq_true.mp C.bound x hn
   simp only [Bool.and_eq_true, List.contains_iff_mem] at this
   exact .inr this.1
  ·rw [T.others x hn] at hx
   refine .inl ?_
   by_cases hk : x ∈ (boot_heap w.params).nsKeys mainGlobals
   ·have := List.all_eq_true.mp (bh14 w.params) x hk
    simpa only [List.contains_iff_mem] using this
   ·rw [Heap.nsMap_none hk] at hx; cases hx
 ·obtain ⟨_, _, _, mg, _, T, _⟩ := T
  intro x hx
  rw [globalOf_of_ns T.main.g, hg0]
  refine T.others x fun hn => ?_
  have := List.all_eq_true.mp C.bound x hn
  simp only [Bool.and_eq_true, Bool.not_eq_true', List.contains_eq_mem, decide_eq_false_iff_not] at this
  exact this.2 hx
theorem behind {p : Program} (C : TopChecks p) (hf : ∀ s, fenceModules? p s = some s) (w : World) :
  (∃ s, AfterRun (opening p) w s) ∧ ∀ s, AfterRun (opening p) w s → fenceModules? p s = some s ∧ s.gens = #[] ∧ s.heap = boot_heap w.params ∧ s.asleep ∧
   ∃ s₁, TopRan p w s s₁ ∧ TopEnd p w s ((boot_heap w.params).nsMap mainGlobals) s₁ ∧ s₁.gens = #[] ∧ s₁.asleep := by
 have h := boot_open (N := 600) C.opn (by decide) hf w
 rw [← table_eq_tree] at h
 obtain ⟨s₀, h1, e⟩ := Option.map_eq_some_iff.mp h
 obtain ⟨s, h4, h5⟩ := Option.bind_eq_some_iff.mp h1
 rw [hf s] at h5
 cases h5
 have A := AfterImport.of_importEnds h4
 refine ⟨⟨_, A⟩, fun s' hs' => ?_⟩
 obtain rfl := AfterImport.unique hs' A
 have z := Shared.asleep_of_life (fence_lifeW (hf s')) A.life
 have e1 := congrArg Prod.fst e
 have e2 := congrArg (fun x => x.2.1) e
 exact ⟨hf s', e2, e1, z, topRan C e1 e2 z⟩
open PySem.Claim2Try (globalOf_of_ns)
theorem KV.look (i : Int) : ∀ {cs : List (Int × Str)} {kvs : List (Int × Value)}, KV cs kvs → (cs.lookup i = none → valueAt kvs i = none) ∧ ∀ x, cs.lookup i = some x → ∃ t, valueAt kvs i = some (.str x t)
 | [], kvs, h => by
  simp only [KV] at h; subst h
  exact ⟨fun _ => rfl, fun x q => (nomatch q)⟩
 | (j, y) :: cs, kvs, h => by
  simp only [KV] at h
  obtain ⟨t, kvs', rfl, h⟩ := h
  have ih := KV.look i h
  by_cases q : i = j
  ·subst q
   simp only [List.lookup_cons, beq_self_eq_true, valueAt, List.find?_cons, decide_true]
   exact ⟨fun x => (nomatch x), fun x e => ⟨t, by cases e; rfl⟩⟩
  ·have q1 : (i == j) = false := beq_eq_false_iff_ne.mpr q
   have q2 : decide (j = i) = false := decide_eq_false fun e => q e.symm
   simp only [List.lookup_cons, q1, valueAt, List.find?_cons, q2]
   exact ih
noncomputable def toU : V → Value
 | .typ n => .type n
 | .blt n => .builtin n
 | _ => .none
theorem bh15 (P : Params) : (blts.map fun y => ((boot_heap P).nsMap mainGlobals y.1, (boot_heap P).nsMap builtinsNs y.1)) = blts.map fun y => (none, some (toU y.2)) := by kernel_rfl
theorem bh16 (P : Params) : (boot_heap P).noLimitOk = true := by kernel_rfl
noncomputable def fnOk (s : Stmt) : Bool := match s with
 | .FunctionDef _ a _ _ _ _ sc _ _ _ => (plainArgs a || bisectArgs a) && !sc.isCoroutine && !sc.isGenerator && sc.names.all (fun y => y.2 != .free)
 | _ => true
theorem fnNamed_eq {x : Str} {st : Stmt} {y : Arguments × List Stmt × Scope} (h : fnNamed x st = some y) : Ex6 fun d1 d2 d3 d4 d5 d6 => st = .FunctionDef x y.1 y.2.1 d1 d2 d3 y.2.2 d4 d5 d6 := by
 cases st with
 | FunctionDef => exact iteO h fun q hz => by cases hz; exact ⟨_, _, _, _, _, _, by rw [q]⟩
 | _ => exact no_none h
theorem defOf_mem {p : Program} {x : Str} {a : Arguments} {body : List Stmt} {sc : Scope} (h : defOf p x = some (a, body, sc)) : Ex6 fun d1 d2 d3 d4 d5 d6 => Stmt.FunctionDef x a body d1 d2 d3 sc d4 d5 d6 ∈ p.main.body := by
 obtain ⟨st, hst, k⟩ := List.exists_of_findSome?_eq_some h
 obtain ⟨d1, d2, d3, d4, d5, d6, rfl⟩ := fnNamed_eq k
 exact ⟨_, _, _, _, _, _, hst⟩
noncomputable def asgOf (s : Stmt) : Option (List Expr × Expr) := match s with
 | .Assign ts e _ => some (ts, e)
 | _ => none
noncomputable def isB1 (cfg : Cfg) (s : Stmt) : Bool := (asgOf s).elim false fun q => nameTarget q.1 == some ("b1_set" : Str) && (setInts q.2).elim false fun ns => firstMet (fun i => ns.getD i 0) ns.length == cfg.b1
noncomputable def isB3 (cfg : Cfg) (s : Stmt) : Bool := (asgOf s).elim false fun q => nameTarget q.1 == some ("b3_exceptions" : Str) && (dictOf q.2).elim false fun d => constPairs d.1 d.2 == some cfg.b3
structure CfgOk (cfg : Cfg) : Prop where
 fns : cfg.prog.main.body.all fnOk = true
 b1 : cfg.prog.main.body.any (isB1 cfg) = true
 b3 : cfg.prog.main.body.any (isB3 cfg) = true
 free : (blts.all fun y => !(cfg.prog.main.body.filterMap stName).contains y.1) = true
 low : ∀ x y, cfg.low x = some y → Txt.lower x = y ∧ y.length ≤ 65536
theorem asgOf_eq {s : Stmt} {q : List Expr × Expr} (h : asgOf s = some q) : ∃ p, s = .Assign q.1 q.2 p := by
 cases s with
 | Assign => cases Option.some.inj h; exact ⟨_, rfl⟩
 | _ => exact no_none h
theorem elimE {α : Type} {o : Option α} {f : α → Bool} {P : Prop} (h : o.elim false f = true) (k : ∀ a, o = some a → f a = true → P) : P := by
 cases o with
 | none => exact nomatch h
 | some a => exact k a rfl h
theorem dflt_of {N : Nat} {h : Heap} {a : Arguments} {vs : List Value} {dV kV : Value} (ok : (plainArgs a || bisectArgs a) = true) (e6 : ConstVals a.defaults vs) (e7 : h.DefaultsAt N vs dV) (e8 : KwAt N h a kV) : DfltAt h a dV kV := by
 rcases Bool.or_eq_true_iff.mp ok with ok | ok
 ·left
  have pa := ok
  simp only [plainArgs, Bool.and_eq_true, List.isEmpty_iff] at ok
  obtain ⟨⟨⟨⟨⟨o1, o2⟩, o3⟩, o4⟩, o5⟩, o6⟩ := ok
  refine ⟨pa, ?_, ?_⟩
  ·rw [o6] at e6
   rcases e7 with e7 | e7
   ·exact e7.2
   ·cases vs with
    | nil => exact absurd rfl e7.1
    | cons => exact (show False from e6).elim
  ·rcases e8 with e8 | ⟨k, d1, d2, K, q, _⟩
   ·exact e8.2.2
   ·rw [o3] at q; cases q
 ·right
  have pa := ok
  simp only [bisectArgs, Bool.and_eq_true, beq_iff_eq] at ok
  obtain ⟨⟨⟨⟨⟨⟨o1, o2⟩, o3⟩, o4⟩, o5⟩, o6⟩, o7⟩ := ok
  refine ⟨pa, ?_⟩
  split at o6
  ·rename_i d e hd
   obtain ⟨⟨p1, q1, rfl⟩, p2, q2, rfl⟩ := And.intro (isConst_int (Bool.and_eq_true_iff.mp o6).1) (isConst_none (Bool.and_eq_true_iff.mp o6).2)
   rw [hd] at e6
   match vs, e6 with
   | [v1, v2], e6 =>
    obtain ⟨⟨t, rfl⟩, rfl, _⟩ : (∃ t, v1 = Value.int 0 t) ∧ v2 = .none ∧ True := e6
    rcases e7 with e7 | ⟨_, T, rfl, _, hT⟩
    ·exact nomatch e7.1
    ·refine ⟨T, _, _, t, rfl, hT, rfl, rfl, ?_⟩
     rcases e8 with e8 | ⟨k, d1, d2, K, q1, q2, rfl, _, hK⟩
     ·rw [e8.1] at o5; cases o5
     ·rw [q1] at o5
      cases o5
      exact ⟨K, rfl, hK⟩
   | [], e6 => exact (show False from e6).elim
   | [_], e6 => exact (show False from e6.2).elim
   | _ :: _ :: _ :: _, e6 => exact (show False from e6.2.2).elim
  ·cases o6
theorem fn_at {C : Cx} {N : Nat} {x : Str} {a : Arguments} {body : List Stmt} {sc : Scope} (f : DefAt N x a body sc C.mg C.h₀) (ok : (plainArgs a || bisectArgs a) = true) (h1 : sc.isCoroutine = false) (h2 : sc.isGenerator = false) (h3 : ∀ y ∈ sc.names, y.2 ≠ .free) : FnAt C x a body sc :=
 let ⟨W, d⟩ := f
 ⟨⟨W.ad, _, _⟩, d.mg, d.at_, rfl, rfl, rfl, rfl, rfl, rfl, rfl, rfl, d.code, h1, h2, h3, dflt_of ok d.vals d.dflt d.kw⟩
theorem b1_of {cfg : Cfg} {w : World} {N : Nat} {mg : Str → Option Value} {h : Heap} (K1 : cfg.prog.main.body.any (isB1 cfg) = true) (facts : ∀ st ∈ cfg.prog.main.body, Fact cfg.prog w N mg h st) :
  Ex2 fun a n => mg "b1_set" = some (.ref a) ∧ h.SetOf (intKind cfg.prog w) a (fun i => cfg.b1.contains i) n := by
 obtain ⟨st, hst, q⟩ := List.any_eq_true.mp K1
 have f := facts st hst
 clear hst facts K1
 refine elimE q fun y hy q => ?_
 obtain ⟨pos, rfl⟩ := asgOf_eq hy
 obtain ⟨qx, q⟩ := Bool.and_eq_true_iff.mp q
 refine elimE q fun ns hns q => ?_
 have f : FactV cfg.prog w N mg h "b1_set" y.2 (dictOf y.2) := (f _ (eq_of_beq qx)).resolve_left (by rw [(setInts_kind hns).1]; exact Bool.false_ne_true)
 rw [(setInts_kind hns).2] at f
 obtain ⟨a, ns', h1, _, h2, h3⟩ := f
 rw [hns] at h2; cases h2
 rw [eq_of_beq q] at h3
 refine ⟨a, cfg.b1.length, h1, ?_⟩
 rw [show (fun i => cfg.b1.contains i) = fun k' => cfg.b1.any (· == k') by funext i; rw [Bool.eq_iff_iff]; simp]
 exact h3
theorem b3_of {cfg : Cfg} {w : World} {N : Nat} {mg : Str → Option Value} {h : Heap} (K3 : cfg.prog.main.body.any (isB3 cfg) = true) (facts : ∀ st ∈ cfg.prog.main.body, Fact cfg.prog w N mg h st) :
  Ex2 fun a f => mg "b3_exceptions" = some (.ref a) ∧ N ≤ a ∧ h.MapOf (intKind cfg.prog w) a f ∧ ∀ i, (cfg.b3.lookup i = none → f i = none) ∧ ∀ x, cfg.b3.lookup i = some x → ∃ t, f i = some (.str x t) := by
 obtain ⟨st, hst, q⟩ := List.any_eq_true.mp K3
 have f := facts st hst
 clear hst facts K3
 refine elimE q fun y hy q => ?_
 obtain ⟨pos, rfl⟩ := asgOf_eq hy
 obtain ⟨qx, q⟩ := Bool.and_eq_true_iff.mp q
 refine elimE q fun d hd q => ?_
 obtain ⟨z, ez⟩ := dictOf_eq hd
 have f : FactV cfg.prog w N mg h "b3_exceptions" y.2 (dictOf y.2) := (f _ (eq_of_beq qx)).resolve_left (by rw [ez]; exact Bool.false_ne_true)
 rw [hd] at f
 obtain ⟨a, kvs, cs, h1, h2, h3, h4, h5⟩ := f
 rw [eq_of_beq q] at h4; cases h4
 exact ⟨a, _, h1, h2, h3.mapOf, fun i => h5.look i⟩
theorem mem_of_lookup {α β : Type} [BEq α] [LawfulBEq α] {x : α} {v : β} : ∀ {l : List (α × β)}, l.lookup x = some v → (x, v) ∈ l
 | [], h => nomatch h
 | y :: l, h => by
  rw [List.lookup_cons] at h
  split at h
  ·rename_i q
   cases h
   have := eq_of_beq q
   subst this
   exact List.mem_cons_self
  ·exact List.mem_cons_of_mem _ (mem_of_lookup h)
noncomputable def isTB (v : V) : Bool := match v with
 | .typ _ | .blt _ => true
 | _ => false
theorem blts_tb : blts.all (fun y => isTB y.2) = true := by kernel_rfl
theorem gr_tb {mg : Str → Option Value} {v : V} (h : isTB v = true) : GR mg v (toU v) := by
 cases v with
 | typ => exact (show _ = _ from rfl)
 | blt => exact (show _ = _ from rfl)
 | _ => exact nomatch h
theorem glob_of {cfg : Cfg} {mg mb : Str → Option Value} {x : Str} {v : V} (hv : globV cfg x = some v) (h1 : (defOf cfg.prog x).isSome = true → ∃ a, mg x = some (.ref a)) (h2 : ∃ a, mg "b1_set" = some (.ref a)) (h3 : ∃ a, mg "b3_exceptions" = some (.ref a))
  (h4 : (x, v) ∈ blts → mg x = none ∧ mb x = some (toU v)) : ∃ u, (mg x = some u ∨ (mg x = none ∧ mb x = some u)) ∧ GR mg v u := by
 have hv : (if ((defOf cfg.prog x).isSome || x == ("b1_set" : Str) || x == ("b3_exceptions" : Str)) = true then some (V.glob x) else blts.lookup x) = some v := hv
 by_cases q : ((defOf cfg.prog x).isSome || x == ("b1_set" : Str) || x == ("b3_exceptions" : Str)) = true
 ·rw [if_pos q] at hv
  cases hv
  have : ∃ a, mg x = some (.ref a) := by
   simp only [Bool.or_eq_true, beq_iff_eq] at q
   rcases q with (q | rfl) | rfl
   ·exact h1 q
   ·exact h2
   ·exact h3
  obtain ⟨a, e⟩ := this
  exact ⟨_, .inl e, a, rfl, e⟩
 ·rw [if_neg q] at hv
  have hm := mem_of_lookup hv
  exact ⟨toU v, .inr (h4 hm), gr_tb (List.all_eq_true.mp blts_tb _ hm)⟩
theorem good_of {cfg : Cfg} {w : World} {s₀ s : Shared} (K : CfgOk cfg) (T : TopEnd cfg.prog w s₀ ((boot_heap w.params).nsMap mainGlobals) s) (hh : s₀.heap = boot_heap w.params) {h : Heap} (hk : ∀ b o, s.heap.get? b = some o → h.get? b = some o) :
  ∃ mg, s.heap.Ns mainGlobals mg ∧ (∀ st ∈ cfg.prog.main.body, ∃ N, Fact cfg.prog w N mg s.heap st) ∧ ∀ os hid, Good ⟨cfg, w, h, mg, (boot_heap w.params).nsMap builtinsNs, os, hid⟩ := by
 have T₀ := T
 obtain ⟨sB, c, Pl, mg, ps, T, k3, k4, k5, _⟩ := T
 have hb0 : s₀.heap.Ns builtinsNs ((boot_heap w.params).nsMap builtinsNs) := (boots hh).blt
 have hb : s.heap.Ns builtinsNs ((boot_heap w.params).nsMap builtinsNs) := by
  obtain ⟨o, es, ep, e, r⟩ := hb0
  exact ⟨o, es, ep, sameGet T₀ e (by decide), r⟩
 have hl : s.heap.NoLimit := by
  have : s₀.heap.NoLimit := hh ▸ Heap.NoLimit.of_ok (bh16 w.params)
  exact this.at fun o e => sameGet T₀ e (by decide)
 have b15 := bh15 w.params
 have hbase : ∃ o, s₀.heap.get? sysModules = some o := (boots hh).sys
 generalize (boot_heap w.params).nsMap builtinsNs = mb at hb b15 ⊢
 have facts : ∀ st ∈ cfg.prog.main.body, Fact cfg.prog w sB.heap.objs.size mg h st := fun st hst => (T.facts st hst).keeps (fun _ _ => rfl) fun b o _ e => hk b o e
 refine ⟨mg, T.main.g, fun st hst => ⟨_, T.facts st hst⟩, fun os hid => ?_⟩
 have fns : ∀ x a body sc, defOf cfg.prog x = some (a, body, sc) → FnAt ⟨cfg, w, h, mg, mb, os, hid⟩ x a body sc := fun x a body sc hd => by
  obtain ⟨d1, d2, d3, d4, d5, d6, hm⟩ := defOf_mem hd
  have f := facts _ hm
  have ok : ((plainArgs a || bisectArgs a) && !sc.isCoroutine && !sc.isGenerator && sc.names.all (fun y => y.2 != .free)) = true := List.all_eq_true.mp K.fns _ hm
  simp only [Bool.and_eq_true, Bool.not_eq_true', List.all_eq_true, bne_iff_ne, ne_eq] at ok
  exact fn_at (C := ⟨cfg, w, h, mg, mb, os, hid⟩) f ok.1.1.1 ok.1.1.2 ok.1.2 ok.2
 have b1 := b1_of K.b1 facts
 obtain ⟨ab3, fb3, hb3, hN, hmap⟩ := b3_of K.b3 facts
 have hs3 : (ab3 == sysModules) = false := beq_eq_false_iff_ne.mpr fun e => by
  obtain ⟨o, ho⟩ := hbase
  have := sameGet T₀ ho (by decide)
  subst e
  exact absurd (Nat.le_trans k5 hN) (Nat.not_le.mpr (Heap.lt_size ho))
 have b3 : Ex2 fun a f => mg "b3_exceptions" = some (.ref a) ∧ (a == sysModules) = false ∧ h.MapOf (intKind cfg.prog w) a f ∧
  ∀ i, (cfg.b3.lookup i = none → f i = none) ∧ ∀ x, cfg.b3.lookup i = some x → ∃ t, f i = some (.str x t) := ⟨ab3, fb3, hb3, hs3, hmap⟩
 refine ⟨T.main.g.keeps hk, hb.keeps hk, hl.keeps hk, fun x v hv => ?_, b1, b3, fns, K.low⟩
 exact glob_of hv (fun q => by
  obtain ⟨⟨a, b, c'⟩, hd⟩ := Option.isSome_iff_exists.mp q
  obtain ⟨W, f⟩ := fns x a b c' hd
  exact ⟨W.ad, f.mg⟩) (let ⟨a, _, e, _⟩ := b1; ⟨a, e⟩) ⟨ab3, hb3⟩ fun hmem => by
   have e := Prod.mk.inj (List.map_inj_left.mp b15 (x, v) hmem)
   have hf := List.all_eq_true.mp K.free _ hmem
   simp only [Bool.not_eq_true', List.contains_eq_mem, decide_eq_false_iff_not] at hf
   exact ⟨(T.others x hf).trans e.1, e.2⟩
open PySem.Claim2Try (globalOf_of_ns)
theorem lay_ints {R₀ : WRecords} {cl : Str → Option Addr} {P : Params} {ord : List DictEntry → List DictEntry} (C : Cx) (ρ : List Addr) (h : Heap) : ∀ (xs : List Int) (s : Shared), Ex2 fun us s' => layAllW R₀ cl P ord (xs.map WData.int) s = some (us, s') ∧ s'.heap = s.heap ∧ Rs C ρ h (xs.map V.int) us
 | [], s => ⟨[], s, rfl, rfl, show _ = _ from rfl⟩
 | x :: xs, s => by
  obtain ⟨us, s', e, hh, q⟩ := lay_ints (R₀ := R₀) (cl := cl) (P := P) (ord := ord) C ρ h xs { s with toks := s.toks + 1 }
  refine ⟨.int x s.toks :: us, s', ?_, hh, ?_⟩
  ·simp only [List.map_cons, layAllW, layW, e]
  ·exact (show Ex2 fun _ _ => _ from ⟨_, us, rfl, R.mkInt, q⟩)
theorem lay_list {R₀ : WRecords} {cl : Str → Option Addr} {P : Params} {ord : List DictEntry → List DictEntry} {xs : List Int} {s s₁ : Shared} {vs : List Value} (e : layAllW R₀ cl P ord [.list (xs.map WData.int)] s = some (vs, s₁)) (C : Cx) (ρ : List Addr) (h : Heap) :
  Ex2 fun a us => vs = [.ref a] ∧ PL s₁.heap a us ∧ Rs C ρ h (xs.map V.int) us := by
 obtain ⟨us, s', q, hh, r⟩ := lay_ints (R₀ := R₀) (cl := cl) (P := P) (ord := ord) C ρ h xs s
 simp only [layAllW, layW, q, Option.some.injEq, Prod.mk.injEq] at e
 obtain ⟨rfl, rfl⟩ := e
 exact ⟨_, us, rfl, ⟨0, by simp [Heap.push, Heap.get?_some_iff]; rfl⟩, r⟩
theorem isNs_of {h : Heap} {a : Addr} {m : Str → Option Value} (x : h.Ns a m) : h.isNs a = true := by
 obtain ⟨o, es, ep, ho, hd, hk, _⟩ := x
 unfold Heap.isNs
 rw [ho]
 simp only [hd]
 rw [← Array.all_toList, List.all_eq_true]
 intro e he
 obtain ⟨x, t, q⟩ := hk e (by simpa using he)
 rw [q]
theorem postTrue (l : OpenLaw) (args : List WData) : l.row.toRowW.claim.post args (.bool true) args = true := by kernel_rfl
theorem callerRoom {n : Nat} (h : n ≤ 590) : Room n callerA := ⟨by show 1 + claimMargin + n ≤ 900; simp only [claimMargin]; lia, by show 4 + 12 * n ≤ 9000; lia, rfl⟩
theorem run_law {C : Cx} (G : Good C) (hks : C.cfg.ks = false) {n : Nat} (hn : n ≤ 590) {x : Str} {vs : List V} {v : V} {σ : Sto} {y : Arguments × List Stmt × Scope} (hd : defOf C.cfg.prog x = some y) (hlaw : (tie C.cfg n).call x vs [] [] = some (v, σ)) {s : Shared} {us : List Value}
  (hbase : s.heap = C.h₀) (hg : s.gens = #[]) (ho : s.os = C.os) (hid : ∀ a, ¬ C.hid a) (hRs : Rs C [] s.heap vs us) :
  ∃ fa, C.mg x = some (.ref fa) ∧ wpAny (Mdl C) callerA (call (.ref fa) us []) (fun u s' => (∃ ρ', R C ρ' s'.heap v u) ∧ (∀ b o, s.heap.get? b = some o → s'.heap.get? b = some o) ∧ s'.os = s.os ∧ s'.gens = #[]) NoE s := by
 obtain ⟨a, body, sc⟩ := y
 obtain ⟨W, fw⟩ := G.fns x a body sc hd
 have hfa := fw.mg
 refine ⟨W.ad, hfa, ?_⟩
 have st : St C [] [] s := ⟨⟨rfl, List.nodup_nil, fun _ h => (nomatch h), fun _ _ _ h => (nomatch h), fun b o e => by rw [hbase]; exact e, fun a h => (hid a h).elim⟩, hg, ho⟩
 have S : Snd C (tie C.cfg n) n := snd_tie C G n C.hid
 exact wpAny_mono (S.call hlaw (callerRoom hn) st hfa hRs (show [] = [] from rfl)) (fun u s' ⟨ρ', tr, st', hu⟩ => ⟨⟨ρ', hu⟩, fun b o e => tr.keep b o (fun h => h) (fun h => (nomatch h)) e, st'.os.trans ho.symm, st'.gens⟩) fun _ _ x => x
theorem row_holds {l : OpenLaw} {cfg : Cfg} {n : Nat} (hp : cfg.prog = l.prog) (hks : cfg.ks = false) (TC : TopChecks l.prog) (K : CfgOk cfg) (hf : ∀ s, fenceModules? l.prog s = some s)
  (hdef : l.prog.theDef l.name = defOf l.prog l.name) (hplain : (defOf l.prog l.name).any (fun x => plainArgs x.1) = true)
  (ow : opensWell l.prog = true) (hb : l.prog.bare) (hw : l.row.toRowW.promised) (hn : n ≤ 590)
  (hpre : ∀ args, l.row.toRowW.claim.pre args = true → ∃ xs : List Int, args = [.list (xs.map WData.int)] ∧ xs.length ≤ 63)
  (law : ∀ xs : List Int, xs.length ≤ 63 → ∃ σ, (tie cfg n).call l.name [.list (xs.map V.int)] [] [] = some (.bool true, σ)) :
  l.row.toRowW.claim.HoldsOpenBy (callStub l.name) [l.name] l.own l.writes := by
 obtain ⟨prog, muts, b1, b3, low, ks⟩ := cfg
 simp only at hp
 subst hp
 generalize hcfg : Cfg.mk l.prog muts b1 b3 low ks = cfg at *
 have hcp : cfg.prog = l.prog := by subst hcfg; rfl
 refine ⟨⟨hb, ow, rfl⟩, hw.witness, fun w => ⟨(behind TC hf w).1, fun s' hs' => ?_⟩⟩
 obtain ⟨hfs, hg0, hh, _, s, hT, TE, hgens, hz⟩ := (behind TC hf w).2 s' hs'
 have TE' : TopEnd cfg.prog w s' ((boot_heap w.params).nsMap mainGlobals) s := by rw [hcp]; exact TE
 obtain ⟨⟨a, body, sc⟩, hd⟩ : ∃ x, defOf l.prog l.name = some x := by
  cases h : defOf l.prog l.name with
  | none => rw [h] at hplain; cases hplain
  | some x => exact ⟨x, rfl⟩
 have hpl : plainArgs a = true := by rw [hd] at hplain; exact hplain
 refine ⟨s', hfs, hg0, s, hT, ?_, fun x hx => (nomatch hx), fun x hx => (nomatch hx), ?_⟩
 ·obtain ⟨mg, hns, facts, _⟩ := good_of K TE' hh (h := s.heap) fun _ _ e => e
  intro nm hnm
  obtain rfl : nm = l.name := by simpa using hnm
  obtain ⟨d1, d2, d3, d4, d5, d6, hm⟩ := defOf_mem hd
  obtain ⟨N, f⟩ := facts _ (by rw [hcp]; exact hm)
  obtain ⟨⟨ad, c', doc, dV, kV, pm, vs⟩, e1, e2, e3, e4, e5, e6, e7, e8⟩ := f
  dsimp only at e1 e2 e3 e4 e5 e6 e7 e8
  simp only [plainArgs, Bool.and_eq_true, List.isEmpty_iff] at hpl
  obtain ⟨⟨⟨⟨⟨o1, o2⟩, o3⟩, o4⟩, o5⟩, o6⟩ := hpl
  refine ⟨ad, _, _, a, body, sc, (globalOf_of_ns hns _).trans e1, e3, rfl, hdef.trans hd, rfl, rfl, rfl, rfl, rfl, rfl, rfl, rfl, .inl ⟨o6, ?_⟩, [], by rw [o3, o4]; rfl, .inl ⟨rfl, ?_⟩⟩
  ·show dV = .none
   rw [o6] at e6
   rcases e7 with e7 | e7
   ·exact e7.2
   ·cases vs with
    | nil => exact absurd rfl e7.1
    | cons => exact (show False from e6).elim
  ·show kV = .none
   rcases e8 with e8 | ⟨k, d1, d2, K, q, _⟩
   ·exact e8.2.2
   ·rw [o3] at q; cases q
 ·refine ClaimW.callFrom_of_specG (c := l.row.toRowW.claim) hz hgens fun args hpre' hlay ord hord => ?_
  obtain ⟨⟨vs, s₁⟩, hlaid⟩ := Option.isSome_iff_exists.mp (layAllW_isSome (P := w.params) (ord := ord) (R := l.row.toRowW.records) (cl := classAt s.heap) (fun c hc => (nomatch hc)) args l.row.toRowW.args s (pre_splitW hpre').1)
  have keeps := layAllW_keeps _ _ _ hlaid
  have hal := layAllW_rest _ _ _ hlaid
  obtain ⟨as, hrd, hin, hold⟩ := reads_layAllW hord _ _ _ hlaid hlay s₁.heap (fun _ _ e => e)
  have L : Laid l.row.toRowW.records w s s₁ args vs as := ⟨⟨ord, hord, hlaid⟩, hrd, hin, hold, keeps, hal.1.trans hgens, hal.2.2.1⟩
  obtain ⟨xs, rfl, hlen⟩ := hpre args hpre'
  obtain ⟨mg, hns, _, G⟩ := good_of K TE' hh (h := s₁.heap) keeps
  generalize (boot_heap w.params).nsMap builtinsNs = mb at G
  have G := G s₁.os fun _ => False
  obtain ⟨σ, hlaw⟩ := law xs hlen
  obtain ⟨ad, us, rfl, hPL, hRs⟩ := lay_list hlaid ⟨cfg, w, s₁.heap, mg, mb, s₁.os, fun _ => False⟩ [] s₁.heap
  obtain ⟨fa, hfa, run⟩ := run_law G hks hn (y := (a, body, sc)) (by show defOf cfg.prog _ = _; rw [hcp]; exact hd) hlaw rfl L.gens rfl (fun _ h => h) (us := [.ref ad]) (Rs.one_iff.mpr ⟨_, rfl, R.mkList hPL ⟨fun h => (nomatch h), fun h => h⟩ hRs⟩)
  have run : wpAny (model cfg.prog w) callerA (call (.ref fa) [.ref ad] []) _ NoE s₁ := run
  rw [hcp] at run
  clear G
  refine ⟨_, s₁, hlaid, ?_⟩
  show wpAny (model l.prog w) callerA (do match ← nsGet mainNs l.name with
   | some f => do ret (← call f [.ref ad])
   | none => unsupported "claim.caller:no-such-global") _ _ s₁
  refine wpAny_bind (wpAny_nsGet (hns.keeps keeps) ?_)
  rw [show mg l.name = some (.ref fa) from hfa]
  refine wpAny_bind (wpAny_mono run (fun u s2 o => ?_) fun _ _ x => x.elim)
  obtain ⟨⟨ρ', hu⟩, keep2, hos, hgn⟩ := o
  refine hu.boolE (wpAny_pure ⟨_, rfl, ?_⟩)
  have g : GoodW l.row.toRowW.claim (classAt s.heap) (ExcName.means s.heap) [.list (xs.map WData.int)] s₁ (.ok (.ret (.bool true))) s2 :=
   ⟨.inl ⟨_, .bool true, [], rfl, fun _ => rfl, .bool _, postTrue l _, fun _ => ⟨List.nodup_nil, by simp⟩⟩, keep2, hos, hgn⟩
  have z := g.toG.laid (c := l.row.toRowW.claim) rfl rfl (ident_freeW rfl rfl rfl) L
  exact ⟨z.1, z.2.1, z.2.2, fun q => ⟨namesKept_of hT (isNs_of hns) l.own keeps fun b o e => .inl (g.2.1 b o e), fun x hx => (nomatch hx)⟩⟩
noncomputable def b1L : List Int := [173, 847, 6150, 6155, 6156, 6157, 8203, 8204, 8205, 8288, 65279] ++ (List.range 16).map fun (k : Nat) => (65024 + (k : Int))
noncomputable def b3St (s : Stmt) : Option (List (Int × Str)) := match s with
 | .Assign ts e _ => (nameTarget ts).bind fun n => if n = ("b3_exceptions" : Str) then (dictOf e).bind fun d => constPairs d.1 d.2 else none
 | _ => none
noncomputable def b3Of (p : Program) : List (Int × Str) := (p.main.body.findSome? b3St).getD []
noncomputable def stillL : List Nat := [172, 174, 846, 848, 6149, 6151, 6154, 6158, 8202, 8206, 8287, 8289, 65023, 65040, 65278, 65280]
noncomputable def lowT : List (Nat × Nat) := (List.range 26).map (fun k => (65 + k, 97 + k)) ++ (List.range 26).map (fun k => (97 + k, 97 + k)) ++ stillL.map fun k => (k, k)
noncomputable def lowS (x : Str) : Option Str := match x.cps.toList with
 | [c] => (lowT.lookup c).map fun d => ⟨#[d]⟩
 | _ => none
noncomputable def cfgOf (p : Program) (muts : List Str) : Cfg := ⟨p, muts, b1L, b3Of p, lowS, false⟩
theorem low_ok : (lowT.all fun c => Txt.lower ⟨#[c.1]⟩ == ⟨#[c.2]⟩) = true := by kernel_rfl
theorem low_gen {T : List (Nat × Nat)} {f : Str → Str} (ok : (T.all fun c => f ⟨#[c.1]⟩ == ⟨#[c.2]⟩) = true) {c d : Nat} (h : T.lookup c = some d) : f ⟨#[c]⟩ = ⟨#[d]⟩ := by
 have := List.all_eq_true.mp ok _ (mem_of_lookup h)
 exact eq_of_beq this
theorem lowS_ok (x y : Str) (h : lowS x = some y) : Txt.lower x = y ∧ y.length ≤ 65536 := by
 have key := fun c d => low_gen (c := c) (d := d) low_ok
 generalize Txt.lower = f at key ⊢
 unfold lowS at h
 generalize lowT = T at key h
 obtain ⟨⟨l⟩⟩ := x
 split at h
 ·rename_i c hc
  simp only at hc
  subst hc
  obtain ⟨d, hd, rfl⟩ := Option.map_eq_some_iff.mp h
  exact ⟨key c d hd, by show (1 : Nat) ≤ 65536; decide⟩
 ·cases h
theorem no_imports {p : Program} (h1 : importedModules p.main.body = []) (h2 : p.main.body.any namesNumpy = false) (s : Shared) : fenceModules? p s = some s := by
 unfold fenceModules?
 rw [h1, h2]
 rfl
end Mine.Internal
namespace Mine.Internal
open PySem PySem.W
noncomputable def low (C : Cfg) (cl : Str → List V → List (Str × V) → M V) : Nat → Rec
 | 0 => { Rec.none with call := cl }
 | n + 1 => { (low C cl n).step C with call := cl }
theorem low_le (C : Cfg) (m : Nat) : ∀ n, RLe (low C (tie C m).call n) (tie C (n + m))
 | 0 => ⟨fun _ _ _ _ h => (nomatch h), fun _ _ _ _ h => (nomatch h), fun _ _ _ _ h => (nomatch h), fun f p k => (tie_mono C (by lia)).call f p k, fun _ _ _ _ _ _ _ _ h => (nomatch h)⟩
 | n + 1 => by
  have ih := step_le (C := C) (low_le C m n)
  have e : n + 1 + m = n + m + 1 := by lia
  rw [e]
  exact ⟨ih.ev, ih.ts, ih.ex, fun f p k => (tie_mono C (by lia)).call f p k, ih.comp⟩
noncomputable def callHead (C : Cfg) (f : Str) (pos : List V) (kw : List (Str × V)) : Option (List (Str × NameKind) × List Stmt × Vars) := match defOf C.prog f with
 | some (a, body, sc) => if noDup sc && sc.kind == .function then (match bindV a pos kw with
  | some vars => if nodup (vars.map (·.1)) && vars.all (fun p => storable ⟨sc.names, []⟩ p.1) then some (sc.names, body, vars) else none
  | none => none) else none
 | none => none
noncomputable def ob {α β : Type} (o : Option (α × Sto)) (f : α → M β) : Option (β × Sto) := match o with
 | none => none
 | some (a, s) => f a s
theorem ob_some {α β : Type} (a : α) (s : Sto) (f : α → M β) : ob (some (a, s)) f = f a s := rfl
theorem bind_app {α β : Type} (m : M α) (f : α → M β) (σ : Sto) : M.bind m f σ = ob (m σ) f := rfl
theorem bind_app' {α β : Type} (m : M α) (f : α → M β) (σ : Sto) : (m >>= f) σ = ob (m σ) f := rfl
theorem pure_app {α : Type} (a : α) (σ : Sto) : M.pure a σ = some (a, σ) := rfl
theorem of_some {α : Type} (a : α) (σ : Sto) : M.of (some a) σ = some (a, σ) := rfl
theorem ite_app {α : Type} (c : Prop) [Decidable c] (a b : M α) (σ : Sto) : (if c then a else b) σ = if c then a σ else b σ := by split <;> rfl
theorem tieCall (C : Cfg) (n : Nat) (f : Str) (pos : List V) (kw : List (Str × V)) : (tie C (n + 1)).call f pos kw = callStep C (tie C n) f pos kw := rfl
theorem call_run {C : Cfg} {m n k : Nat} {f : Str} {pos : List V} {kw : List (Str × V)} {σ σ' : Sto} {v : V} {body : List Stmt} {names : List (Str × NameKind)} {vars vars' : Vars}
  (hd : callHead C f pos kw = some (names, body, vars)) (hk : n + m < k) (h : (low C (tie C m).call n).ex ⟨names, vars⟩ body σ = some ((.ret v, vars'), σ')) :
  (tie C k).call f pos kw σ = some (v, σ') := by
 refine (tie_mono C hk).call f pos kw σ _ ?_
 have h := (low_le C m n).ex _ _ _ _ h
 rw [tieCall]
 generalize (tie C (n + m)) = r at h
 unfold callStep
 unfold callHead at hd
 split at hd
 ·rename_i a b sc q
  rw [q]
  split at hd
  ·rename_i w1
   split at hd
   ·rename_i vs w2
    split at hd
    ·rename_i w3
     cases hd
     simp only [bind_app', of_some, ob_some, if_pos w1, w2, if_pos w3, h, pure_app]
    ·cases hd
   ·cases hd
  ·cases hd
 ·cases hd
theorem call_run0 {C : Cfg} {m n k : Nat} {f : Str} {pos : List V} {kw : List (Str × V)} {σ σ' : Sto} {body : List Stmt} {names : List (Str × NameKind)} {vars vars' : Vars}
  (hd : callHead C f pos kw = some (names, body, vars)) (hk : n + m < k) (h : (low C (tie C m).call n).ex ⟨names, vars⟩ body σ = some ((.next, vars'), σ')) :
  (tie C k).call f pos kw σ = some (.none, σ') := by
 refine (tie_mono C hk).call f pos kw σ _ ?_
 have h := (low_le C m n).ex _ _ _ _ h
 rw [tieCall]
 generalize (tie C (n + m)) = r at h
 unfold callStep
 unfold callHead at hd
 split at hd
 ·rename_i a b sc q
  rw [q]
  split at hd
  ·rename_i w1
   split at hd
   ·rename_i vs w2
    split at hd
    ·rename_i w3
     cases hd
     simp only [bind_app', of_some, ob_some, if_pos w1, w2, if_pos w3, h, pure_app]
    ·cases hd
   ·cases hd
  ·cases hd
 ·cases hd
section
variable (C : Cfg) (cl : Str → List V → List (Str × V) → M V) (n : Nat) (e : En) (σ : Sto)
theorem w_name (x : Str) (p : Pos) : (low C cl (n + 1)).ev e (.Name x p) σ = M.of (nameV C e x) σ := rfl
theorem w_call (f : Str) (fp : Pos) (args : List Expr) (kws : List Keyword) (p : Pos) : (low C cl (n + 1)).ev e (.Call (.Name f fp) args kws p) σ = if args.length ≤ 8 && kws.length ≤ 2 then ob ((low C cl n).ev e (.Name f fp) σ) fun fv => M.bind (evs (low C cl n) e args) fun vs => M.bind (evKw (low C cl n) e kws) fun ks => callV C (low C cl n) fv vs ks else none := ite_app ..
theorem x_cons (s : Stmt) (ss : List Stmt) : exAll C (low C cl n) e (s :: ss) σ = ob (exStep C (low C cl n) e s σ) fun p => match p.1 with | .next => exAll C (low C cl n) ⟨e.names, p.2⟩ ss | .ret v => M.pure (.ret v, p.2) := rfl
theorem x_next {s : Stmt} {ss : List Stmt} {vars : Vars} {σ' : Sto} {y : Option ((Fl × Vars) × Sto)} (h : exStep C (low C cl n) e s σ = some ((.next, vars), σ')) (k : exAll C (low C cl n) ⟨e.names, vars⟩ ss σ' = y) : exAll C (low C cl n) e (s :: ss) σ = y := by
 rw [x_cons, h]; exact k
theorem x_ret {s : Stmt} {ss : List Stmt} {vars : Vars} {v : V} {σ' : Sto} (h : exStep C (low C cl n) e s σ = some ((.ret v, vars), σ')) : exAll C (low C cl n) e (s :: ss) σ = some ((.ret v, vars), σ') := by
 rw [x_cons, h]; rfl
end
section
variable (C : Cfg) (cl : Str → List V → List (Str × V) → M V) (n : Nat) (e : En) (σ : Sto)
theorem cv_blt (b : String) (vs : List V) : callV C (low C cl n) (.blt b) vs [] = callB b vs := rfl
theorem cv_typ (b : String) (vs : List V) : callV C (low C cl n) (.typ b) vs [] = callT b vs := rfl
end
noncomputable def lookR (o : Option (List V)) (σ : Sto) : Option (List V × Sto) := match o with
 | some xs => some (xs, σ)
 | none => none
theorem look_app (r : Nat) (σ : Sto) : M.look r σ = lookR σ[r]? σ := by unfold M.look lookR; cases σ[r]? <;> rfl
theorem lookR_some (xs : List V) (σ : Sto) : lookR (some xs) σ = some (xs, σ) := rfl
theorem o_add (a b : Int) (σ : Sto) : binV .Add (.int a) (.int b) σ = some (.int (a + b), σ) := rfl
theorem o_sub (a b : Int) (σ : Sto) : binV .Sub (.int a) (.int b) σ = some (.int (a - b), σ) := rfl
theorem o_mul {a b : Int} (ha : small a = true) (hb : small b = true) (σ : Sto) : binV .Mult (.int a) (.int b) σ = some (.int (a * b), σ) := by
 show (if small a && small b then M.pure (V.int (a * b)) else M.fail) σ = _
 rw [ha, hb]; rfl
theorem o_div {a b : Int} (ha : small a = true) (hb : small b = true) (h : (b != 0) = true) (σ : Sto) : binV .FloorDiv (.int a) (.int b) σ = some (.int (a.fdiv b), σ) := by
 show (if small a && small b && b != 0 then M.pure (V.int (a.fdiv b)) else M.fail) σ = _
 rw [ha, hb, h]; rfl
theorem o_mod {a b : Int} (h : (b != 0) = true) (σ : Sto) : binV .Mod (.int a) (.int b) σ = some (.int (a.fmod b), σ) := by
 show (if b != 0 then M.pure (V.int (a.fmod b)) else M.fail) σ = _
 rw [h]; rfl
theorem o_pow {a b : Int} (h : (decide (0 ≤ b) && decide (b ≤ 256) && decide (a.natAbs ≤ 65536)) = true) (σ : Sto) : binV .Pow (.int a) (.int b) σ = some (.int (a ^ b.toNat), σ) := by
 show (if 0 ≤ b && b ≤ 256 && decide (a.natAbs ≤ 65536) then M.pure (V.int (a ^ b.toNat)) else M.fail) σ = _
 rw [h]; rfl
theorem ix_list {i : Int} (h0 : 0 ≤ i) (h1 : i < 2 ^ 62) (xs : List V) (σ : Sto) : indexV (.list xs) (.int i) σ = M.of xs[i.toNat]? σ := by
 show (if 0 ≤ i && decide (i < 2 ^ 62) then M.of xs[i.toNat]? else M.fail) σ = _
 rw [decide_eq_true h0, decide_eq_true h1]; rfl
theorem ix_lst {i : Int} (h0 : 0 ≤ i) (h1 : i < 2 ^ 62) (r : Nat) (σ : Sto) : indexV (.lst r) (.int i) σ = ob (lookR σ[r]? σ) fun xs => M.of xs[i.toNat]? := by
 show (if 0 ≤ i && decide (i < 2 ^ 62) then (M.bind (M.look r) fun xs => M.of xs[i.toNat]?) else M.fail) σ = _
 rw [decide_eq_true h0, decide_eq_true h1, ← look_app]; rfl
theorem cmp_lt (C : Cfg) (a b : Int) (σ : Sto) : cmpV C .Lt (.int a) (.int b) σ = some (decide (a < b), σ) := rfl
theorem cmp_gt (C : Cfg) (a b : Int) (σ : Sto) : cmpV C .Gt (.int a) (.int b) σ = some (decide (a > b), σ) := rfl
theorem cmp_eq (C : Cfg) (a b : Int) (σ : Sto) : cmpV C .Eq (.int a) (.int b) σ = some (a == b, σ) := rfl
theorem cmp_ne (C : Cfg) (a b : Int) (σ : Sto) : cmpV C .NotEq (.int a) (.int b) σ = some (!(a == b), σ) := rfl
theorem b_len_lst (r : Nat) (σ : Sto) : callB "len" [.lst r] σ = ob (lookR σ[r]? σ) fun xs => if xs.length ≤ 65536 then M.pure (.int xs.length) else M.fail := by rw [← look_app]; rfl
theorem b_len_list (xs : List V) (σ : Sto) : callB "len" [.list xs] σ = if xs.length ≤ 65536 then some (.int xs.length, σ) else none := by
 show (if xs.length ≤ 65536 then M.pure (V.int xs.length) else M.fail) σ = _
 exact ite_app ..
noncomputable def nx (vars : Vars) : M (Fl × Vars) := fun σ => some ((.next, vars), σ)
noncomputable def rt (v : V) (vars : Vars) : M (Fl × Vars) := fun σ => some ((.ret v, vars), σ)
noncomputable def th (b : Bool) (v : V) : M V := match v with
 | .list xs => if b then M.new xs else M.pure v
 | _ => M.pure v
noncomputable def sp (s : Stmt) : Expr × Expr × List Expr × List Stmt × List Stmt := match s with
 | .If t b c _ => (t, default, [], b, c)
 | .While t b c _ => (t, default, [], b, c)
 | .For t i b c _ => (t, i, [], b, c)
 | .Assign ts v _ => (default, v, ts, [], [])
 | .Return o _ => (default, o.getD default, [], [], [])
 | .Expr v _ => (default, v, [], [], [])
 | _ => (default, default, [], [], [])
noncomputable def whBody (s : Stmt) : List Stmt := (sp s).2.2.2.1
noncomputable def whTest (s : Stmt) : Expr := (sp s).1
noncomputable def ifTest (s : Stmt) : Expr := (sp s).1
noncomputable def ifThen (s : Stmt) : List Stmt := (sp s).2.2.2.1
noncomputable def ifElse (s : Stmt) : List Stmt := (sp s).2.2.2.2
noncomputable def frTgt (s : Stmt) : Expr := (sp s).1
noncomputable def frIter (s : Stmt) : Expr := (sp s).2.1
noncomputable def frBody (s : Stmt) : List Stmt := (sp s).2.2.2.1
noncomputable def asV (s : Stmt) : Expr := (sp s).2.1
noncomputable def rtV (s : Stmt) : Expr := (sp s).2.1
noncomputable def ep (x : Expr) : (Expr × Expr × Expr) × List Expr × List Keyword × List Comprehension × Scope × Str × Nat × Option Expr × Option Expr × Option Expr := match x with
 | .Compare l _ rs _ => ((l, default, default), rs, [], [], default, default, 0, none, none, none)
 | .BinOp l _ r _ => ((l, r, default), [], [], [], default, default, 0, none, none, none)
 | .BoolOp _ vs _ => (default, vs, [], [], default, default, 0, none, none, none)
 | .UnaryOp _ l _ => ((l, default, default), [], [], [], default, default, 0, none, none, none)
 | .Call f as ks _ => ((f, default, default), as, ks, [], default, default, 0, none, none, none)
 | .List vs _ => (default, vs, [], [], default, default, 0, none, none, none)
 | .Tuple vs k _ => (default, vs, [], [], default, default, k, none, none, none)
 | .ListComp x g s _ => ((x, default, default), [], [], g, s, default, 0, none, none, none)
 | .Name x _ => (default, [], [], [], default, x, 0, none, none, none)
 | .Attribute o a _ => ((o, default, default), [], [], [], default, a, 0, none, none, none)
 | .Subscript v i _ => ((v, i, default), [], [], [], default, default, 0, none, none, none)
 | .Slice a b c _ => (default, [], [], [], default, default, 0, a, b, c)
 | .IfExp t a b _ => ((t, a, b), [], [], [], default, default, 0, none, none, none)
 | _ => (default, [], [], [], default, default, 0, none, none, none)
noncomputable def e1 (x : Expr) : Expr := (ep x).1.1
noncomputable def e2 (x : Expr) : Expr := (ep x).1.2.1
noncomputable def eL (x : Expr) : List Expr := (ep x).2.1
noncomputable def cmR (x : Expr) : Expr := (eL x).headD default
noncomputable def biL (x : Expr) : Expr := e1 x
noncomputable def biR (x : Expr) : Expr := e2 x
noncomputable def boV (i : Nat) (x : Expr) : Expr := (eL x).getD i default
noncomputable def caA (i : Nat) (x : Expr) : Expr := (eL x).getD i default
noncomputable def at' (l : List Stmt) (i : Nat) : Stmt := l.getD i (.Pass default)
noncomputable def lcElt (x : Expr) : Expr := e1 x
noncomputable def lcGs (x : Expr) : List Comprehension := (ep x).2.2.2.1
noncomputable def lcSc (x : Expr) : Scope := (ep x).2.2.2.2.1
noncomputable def lcG (X : Expr) : Comprehension := match lcGs X with
 | g :: _ => g
 | [] => default
noncomputable def exPos : Expr → Pos
 | .BoolOp _ _ p | .NamedExpr _ _ p | .BinOp _ _ _ p | .UnaryOp _ _ p | .Lambda _ _ _ p | .IfExp _ _ _ p | .Dict _ _ p | .Set _ _ p | .ListComp _ _ _ p | .SetComp _ _ _ p | .DictComp _ _ _ _ p | .GeneratorExp _ _ _ p | .Await _ p | .Yield _ p | .YieldFrom _ p | .Compare _ _ _ p | .Call _ _ _ p | .FormattedValue _ _ _ p | .JoinedStr _ p | .Constant _ _ p | .Attribute _ _ p | .Subscript _ _ p | .Starred _ p | .Name _ p | .List _ p | .Tuple _ _ p | .Slice _ _ _ p => p
abbrev lcOk (e : En) (X : Expr) : Prop := (X, noDup (lcSc X) && (lcSc X).kind == .function && freeOk e (lcSc X) && (lcG X).is_async == 0) = (.ListComp (lcElt X) [lcG X] (lcSc X) (exPos X), true)
theorem comp_eq {r : Rec} {names : List (Str × NameKind)} {elt tgt : Expr} {ifs : List Expr} {chk : Option Nat} {all xs : List V} {x : V} {vars : Vars} {acc : List V} {σ : Sto} : compItems r names elt tgt ifs [] chk all (x :: xs) vars acc σ = ob (still chk all σ) fun _ => M.bind (setTo r ⟨names, vars⟩ tgt x) fun vars => M.bind (tests r ⟨names, vars⟩ ifs) fun b =>
  if b = true then M.bind (r.ev ⟨names, vars⟩ elt) fun v => if acc.length < 65536 then compItems r names elt tgt ifs [] chk all xs vars (acc ++ [v]) else M.fail else compItems r names elt tgt ifs [] chk all xs vars acc := rfl
theorem comp_eq0 {r : Rec} {names : List (Str × NameKind)} {elt tgt : Expr} {ifs : List Expr} {chk : Option Nat} {all : List V} {vars : Vars} {acc : List V} {σ : Sto} : compItems r names elt tgt ifs [] chk all [] vars acc σ = ob (still chk all σ) fun _ => M.pure (vars, acc) := rfl
theorem comp_run {α : Type} {r : Rec} {names : List (Str × NameKind)} {elt tgt : Expr} {ifs : List Expr} {chk : Option Nat} {all : List V} {σ : Sto} (g : α → V) (p : α → Bool) (f : α → V) (vars1 : α → Vars) (Good : Vars → Prop)
  (hst : still chk all σ = some ((), σ)) :
  ∀ (ys : List α) (vars : Vars) (acc : List V),
   (∀ y ∈ ys, ∀ vs, Good vs → setTo r ⟨names, vs⟩ tgt (g y) σ = some (vars1 y, σ)) → Good vars → (∀ y ∈ ys, Good (vars1 y)) →
   (∀ y ∈ ys, tests r ⟨names, vars1 y⟩ ifs σ = some (p y, σ)) → (∀ y ∈ ys, p y = true → r.ev ⟨names, vars1 y⟩ elt σ = some (f y, σ)) →
   acc.length + ys.length ≤ 65536 →
   ∃ vars', Good vars' ∧ compItems r names elt tgt ifs [] chk all (ys.map g) vars acc σ = some ((vars', acc ++ (ys.filter p).map f), σ)
 | [], vars, acc => fun _ h0 _ _ _ _ => ⟨vars, h0, by rw [List.map_nil, comp_eq0, hst, ob_some]; simp only [List.filter_nil, List.map_nil, List.append_nil]; rfl⟩
 | y :: ys, vars, acc => fun hs h0 hg ht hb hl => by
  have hl : acc.length + (ys.length + 1) ≤ 65536 := hl
  rw [List.map_cons, comp_eq, hst, ob_some, bind_app, hs y List.mem_cons_self vars h0, ob_some, bind_app, ht y List.mem_cons_self, ob_some]
  have hs' : ∀ z ∈ ys, ∀ vs, Good vs → setTo r ⟨names, vs⟩ tgt (g z) σ = some (vars1 z, σ) := fun z hz => hs z (List.mem_cons_of_mem _ hz)
  have hg' : ∀ z ∈ ys, Good (vars1 z) := fun z hz => hg z (List.mem_cons_of_mem _ hz)
  have ht' : ∀ z ∈ ys, tests r ⟨names, vars1 z⟩ ifs σ = some (p z, σ) := fun z hz => ht z (List.mem_cons_of_mem _ hz)
  have hb' : ∀ z ∈ ys, p z = true → r.ev ⟨names, vars1 z⟩ elt σ = some (f z, σ) := fun z hz => hb z (List.mem_cons_of_mem _ hz)
  have hgy := hg y List.mem_cons_self
  cases hp : p y with
  | true =>
   rw [if_pos rfl, bind_app, hb y List.mem_cons_self hp, ob_some, if_pos (show acc.length < 65536 by lia)]
   obtain ⟨v', hv, h'⟩ := comp_run g p f vars1 Good hst ys (vars1 y) (acc ++ [f y]) hs' hgy hg' ht' hb' (by rw [List.length_append]; show acc.length + 1 + ys.length ≤ _; lia)
   refine ⟨v', hv, h'.trans ?_⟩
   rw [List.filter_cons_of_pos hp, List.map_cons, List.append_assoc]; rfl
  | false =>
   rw [if_neg (by decide)]
   obtain ⟨v', hv, h'⟩ := comp_run g p f vars1 Good hst ys (vars1 y) acc hs' hgy hg' ht' hb' (by lia)
   refine ⟨v', hv, h'.trans ?_⟩
   rw [List.filter_cons_of_neg (by rw [hp]; decide)]
theorem lc_run {α : Type} {C : Cfg} {cl : Str → List V → List (Str × V) → M V} {n : Nat} {e : En} {σ : Sto} {X : Expr} {it : V} {ys : List α} {chk : Option Nat} (g : α → V) (p : α → Bool) (f : α → V) (vars1 : α → Vars)
  (hc : lcOk e X) (hi : (low C cl (n + 1)).ev e (lcG X).iter σ = some (it, σ)) (hx : iterOf it σ = some ((ys.map g, chk), σ)) (hst : still chk (ys.map g) σ = some ((), σ))
  (hs0 : ∀ y ∈ ys, setTo (low C cl n) ⟨compNames (lcSc X), compVars e (lcSc X)⟩ (lcG X).target (g y) σ = some (vars1 y, σ))
  (hs1 : ∀ y ∈ ys, ∀ z ∈ ys, setTo (low C cl n) ⟨compNames (lcSc X), vars1 z⟩ (lcG X).target (g y) σ = some (vars1 y, σ))
  (ht : ∀ y ∈ ys, tests (low C cl n) ⟨compNames (lcSc X), vars1 y⟩ (lcG X).ifs σ = some (p y, σ))
  (hb : ∀ y ∈ ys, p y = true → (low C cl n).ev ⟨compNames (lcSc X), vars1 y⟩ (lcElt X) σ = some (f y, σ))
  (hl : ys.length ≤ 65536) : evStep C (low C cl (n + 1)) e X σ = some (.list ((ys.filter p).map f), σ) := by
 obtain ⟨hX, hc⟩ := Prod.mk.inj hc
 have h4 := (Bool.and_eq_true_iff.mp hc).2
 have e1 : evStep C (low C cl (n + 1)) e X σ = evStep C (low C cl (n + 1)) e (.ListComp (lcElt X) [lcG X] (lcSc X) (exPos X)) σ := congrArg (fun Y => evStep C (low C cl (n + 1)) e Y σ) hX
 obtain ⟨v', _, h'⟩ := comp_run (r := low C cl n) (names := compNames (lcSc X)) (elt := lcElt X) (tgt := (lcG X).target) (ifs := (lcG X).ifs) g p f vars1 (fun vs => vs = compVars e (lcSc X) ∨ ∃ z ∈ ys, vs = vars1 z) hst ys (compVars e (lcSc X)) []
  (fun y hy vs hv => hv.elim (fun q => q ▸ hs0 y hy) (fun ⟨z, hz, q⟩ => q ▸ hs1 y hy z hz)) (.inl rfl) (fun y hy => .inr ⟨y, hy, rfl⟩) ht hb ((Nat.zero_add _).symm ▸ hl)
 have e2 : (low C cl (n + 1)).comp ⟨compNames (lcSc X), compVars e (lcSc X)⟩ (lcElt X) [lcG X] [it] (compVars e (lcSc X)) [] σ = some ((v', (ys.filter p).map f), σ) := by
  show (if ((lcG X).is_async == 0) = true then M.bind (iterOf it) fun x => compItems (low C cl n) (compNames (lcSc X)) (lcElt X) (lcG X).target (lcG X).ifs [] x.2 x.1 x.1 (compVars e (lcSc X)) [] else M.fail) σ = _
  rw [if_pos h4, bind_app, hx, ob_some]
  exact h'
 rw [e1]
 show (if (noDup (lcSc X) && (lcSc X).kind == .function && freeOk e (lcSc X) && (lcG X).is_async == 0) = true then M.bind ((low C cl (n + 1)).ev e (lcG X).iter) fun it => M.bind (iterOf it) fun _ => M.bind ((low C cl (n + 1)).comp ⟨compNames (lcSc X), compVars e (lcSc X)⟩ (lcElt X) [lcG X] [it] (compVars e (lcSc X)) []) fun x => M.pure (V.list x.2) else M.fail) σ = _
 rw [if_pos hc, bind_app, hi, ob_some, bind_app, hx, ob_some, bind_app, e2, ob_some]; rfl
open Classical in
theorem still_some {r : Nat} {all : List V} {σ : Sto} (h : σ[r]? = some all) : still (some r) all σ = some ((), σ) := by
 show M.bind (M.look r) (fun xs => if xs = all then M.pure () else M.fail) σ = _
 rw [bind_app, look_app, h, lookR_some, ob_some, if_pos rfl]; rfl
theorem iter_list (xs : List V) (σ : Sto) : iterOf (.list xs) σ = some ((xs, none), σ) := rfl
theorem iter_lst {r : Nat} {xs : List V} {σ : Sto} (h : σ[r]? = some xs) : iterOf (.lst r) σ = some ((xs, some r), σ) := by
 show M.bind (M.look r) (fun xs => M.pure (xs, some r)) σ = _
 rw [bind_app, look_app, h]; rfl
noncomputable def upto (lo : Int) (k : Nat) : List Int := (List.range k).map fun (j : Nat) => lo + j
theorem iter_small {a b c : Int} (h : Builtin.Range.small a b c = true) (σ : Sto) : iterOf (.rng a b c) σ = some ((rangeItems a b c, none), σ) := by
 show (if Builtin.Range.small a b c = true then M.pure (rangeItems a b c, Option.none) else M.fail) σ = _
 rw [if_pos h]; rfl
theorem nat62 {h : Nat} (hh : h < 2 ^ 60) : -(2 ^ 62) ≤ (h : Int) ∧ (h : Int) < 2 ^ 62 := ⟨Int.le_trans (by decide) (Int.natCast_nonneg h), Int.lt_trans (Int.ofNat_lt.mpr hh) (by decide)⟩
theorem iter_rng {lo hi : Int} (h1 : -(2 ^ 62) ≤ lo) (h2 : lo < 2 ^ 62) (h3 : -(2 ^ 62) ≤ hi) (h4 : hi < 2 ^ 62) (σ : Sto) : iterOf (.rng lo hi 1) σ = some (((upto lo (hi - lo).toNat).map V.int, none), σ) := by
 rw [iter_small (small_one h1 h2 h3 h4)]
 unfold rangeItems upto
 rw [PyProof.Rows.rangeSize_nat, Int.toNat_natCast, List.map_map]
 congr 4
 funext k
 exact congrArg (fun z => V.int (lo + z)) (Int.mul_one _)
theorem mem_upto {lo : Int} {k : Nat} {i : Int} (h : i ∈ upto lo k) : lo ≤ i ∧ i < lo + k := by
 obtain ⟨j, hj, rfl⟩ := List.mem_map.mp h
 exact ⟨Int.le_add_of_nonneg_right (Int.natCast_nonneg j), Int.add_lt_add_left (Int.ofNat_lt.mpr (List.mem_range.mp hj)) lo⟩
theorem len_upto (lo : Int) (k : Nat) : (upto lo k).length = k := by simp [upto]
theorem for_eq {r : Rec} {e : En} {tgt : Expr} {body : List Stmt} {chk : Option Nat} {all xs : List V} {x : V} {vars : Vars} {σ : Sto} : forItems r e tgt body chk all (x :: xs) vars σ = ob (still chk all σ) fun _ => M.bind (setTo r ⟨e.names, vars⟩ tgt x) fun vars => M.bind (r.ex ⟨e.names, vars⟩ body) fun p => match p.1 with
 | .next => forItems r e tgt body chk all xs p.2
 | .ret v => M.pure (.ret v, p.2) := rfl
theorem for_eq0 {r : Rec} {e : En} {tgt : Expr} {body : List Stmt} {chk : Option Nat} {all : List V} {vars : Vars} {σ : Sto} : forItems r e tgt body chk all [] vars σ = ob (still chk all σ) fun _ => M.pure (.next, vars) := rfl
theorem while_eq {r : Rec} {e : En} {t : Expr} {body : List Stmt} {m : Nat} {vars : Vars} {σ : Sto} : whileN r e t body (m + 1) vars σ = ob (r.ts ⟨e.names, vars⟩ t σ) fun b => if b = true then M.bind (r.ex ⟨e.names, vars⟩ body) fun p => match p.1 with
 | .next => whileN r e t body m p.2
 | .ret v => M.pure (.ret v, p.2) else M.pure (.next, vars) := rfl
theorem while_run {r : Rec} {names : List (Str × NameKind)} {t : Expr} {body : List Stmt} (I : Nat → Vars → Sto → Prop) (J : Vars → Sto → Prop)
  (hs : ∀ k vars σ, I k vars σ → (r.ts ⟨names, vars⟩ t σ = some (false, σ) ∧ J vars σ) ∨ (r.ts ⟨names, vars⟩ t σ = some (true, σ) ∧ Ex3 fun k' vars2 σ2 => k' < k ∧ r.ex ⟨names, vars⟩ body σ = some ((.next, vars2), σ2) ∧ I k' vars2 σ2)) :
  ∀ (m k : Nat) (vars v0 : Vars) (σ : Sto), k < m → I k vars σ → Ex2 fun vars' σ' => whileN r ⟨names, v0⟩ t body m vars σ = some ((.next, vars'), σ') ∧ J vars' σ'
 | 0, _, _, _, _ => fun h _ => absurd h (by lia)
 | m + 1, k, vars, v0, σ => fun hk h => by
  rcases hs k vars σ h with ⟨h1, h2⟩ | ⟨h1, k', vars2, σ2, h2, h3, h4⟩
  ·exact ⟨vars, σ, by rw [while_eq, h1, ob_some]; rfl, h2⟩
  ·obtain ⟨vars', σ', h5, h6⟩ := while_run I J hs m k' vars2 v0 σ2 (by lia) h4
   refine ⟨vars', σ', ?_, h6⟩
   rw [while_eq, h1, ob_some, if_pos rfl, bind_app, h3, ob_some]
   exact h5
noncomputable def asT (s : Stmt) : Expr := (sp s).2.2.1.headD default
noncomputable def stPos : Stmt → Pos
 | .If _ _ _ p | .While _ _ _ p | .For _ _ _ _ p | .Assign _ _ p | .Expr _ p => p
 | _ => default
abbrev isIf (s : Stmt) : Prop := s = .If (ifTest s) (ifThen s) (ifElse s) (stPos s)
abbrev isWh (s : Stmt) : Prop := s = .While (whTest s) (whBody s) [] (stPos s)
abbrev isFr (s : Stmt) : Prop := s = .For (frTgt s) (frIter s) (frBody s) [] (stPos s)
abbrev isAs (s : Stmt) : Prop := (s, orderOk (asT s) (asV s)) = (.Assign [asT s] (asV s) (stPos s), true)
abbrev isLc (X : Expr) : Prop := X = .ListComp (lcElt X) (lcGs X) (lcSc X) (exPos X)
section
variable {C : Cfg} {cl : Str → List V → List (Str × V) → M V} {n : Nat} {e : En} {s : Stmt}
theorem g_if (h : isIf s) (σ : Sto) : exStep C (low C cl n) e s σ = ob ((low C cl n).ts e (ifTest s) σ) fun c => if c then (low C cl n).ex e (ifThen s) else (low C cl n).ex e (ifElse s) := congrArg (fun t => exStep C (low C cl n) e t σ) h
theorem g_while (h : isWh s) (σ : Sto) : exStep C (low C cl n) e s σ = whileN (low C cl n) e (whTest s) (whBody s) 4096 e.vars σ := congrArg (fun t => exStep C (low C cl n) e t σ) h
theorem g_for (h : isFr s) (σ : Sto) : exStep C (low C cl n) e s σ = ob ((low C cl n).ev e (frIter s) σ) fun v => M.bind (iterOf v) fun x => forItems (low C cl n) e (frTgt s) (frBody s) x.2 x.1 x.1 e.vars := congrArg (fun t => exStep C (low C cl n) e t σ) h
theorem g_as (h : isAs s) (σ : Sto) : exStep C (low C cl n) e s σ = ob (evV C (low C cl n) e (asV s) σ) fun v => M.bind (thaw C (asT s) (asV s) v) fun v => M.bind (setTo (low C cl n) e (asT s) v) fun vars => nx vars := by
 obtain ⟨h1, h2⟩ := Prod.mk.inj h
 refine (congrArg (fun t => exStep C (low C cl n) e t σ) h1).trans ?_
 show (if orderOk (asT s) (asV s) = true then M.bind (evV C (low C cl n) e (asV s)) fun v => M.bind (thaw C (asT s) (asV s) v) fun v => M.bind (setTo (low C cl n) e (asT s) v) fun vars => nx vars else M.fail) σ = _
 rw [if_pos h2]; rfl
theorem as_run {v : V} {σ σ1 σ2 : Sto} {vars : Vars} (h : isAs s) (hv : evV C (low C cl n) e (asV s) σ = some (v, σ1))
  (hk : (M.bind (thaw C (asT s) (asV s) v) fun v => M.bind (setTo (low C cl n) e (asT s) v) fun vars => nx vars) σ1 = some ((.next, vars), σ2)) : exStep C (low C cl n) e s σ = some ((.next, vars), σ2) := by
 rw [g_as h, hv, ob_some]; exact hk
theorem evV_lc {X : Expr} (h : isLc X) (σ : Sto) : evV C (low C cl n) e X σ = evStep C (low C cl n) e X σ :=
 (congrArg (fun Y => evV C (low C cl n) e Y σ) h).trans (congrArg (fun Y => evStep C (low C cl n) e Y σ) h).symm
theorem evV_no {X : Expr} (h : isLC X = false) (σ : Sto) : evV C (low C cl n) e X σ = (low C cl n).ev e X σ := by
 unfold evV; rw [if_neg (by rw [h]; exact Bool.false_ne_true)]
theorem if_not {σ σ1 : Sto} (h : isIf s) (h2 : ifElse s = []) (ht : (low C cl (n + 1)).ts e (ifTest s) σ = some (false, σ1)) : exStep C (low C cl (n + 1)) e s σ = some ((.next, e.vars), σ1) := by
 rw [g_if h, ht, ob_some, if_neg (by decide), h2]; rfl
theorem if_yes {σ σ1 : Sto} {y : Option ((Fl × Vars) × Sto)} (h : isIf s) (ht : (low C cl (n + 1)).ts e (ifTest s) σ = some (true, σ1)) (hb : exAll C (low C cl n) e (ifThen s) σ1 = y) : exStep C (low C cl (n + 1)) e s σ = y := by
 rw [g_if h, ht, ob_some, if_pos rfl]; exact hb
theorem if_no {σ σ1 : Sto} {y : Option ((Fl × Vars) × Sto)} (h : isIf s) (ht : (low C cl (n + 1)).ts e (ifTest s) σ = some (false, σ1)) (hb : exAll C (low C cl n) e (ifElse s) σ1 = y) : exStep C (low C cl (n + 1)) e s σ = y := by
 rw [g_if h, ht, ob_some, if_neg (by decide)]; exact hb
theorem x_one {σ σ1 : Sto} {vars : Vars} (h : exStep C (low C cl n) e s σ = some ((.next, vars), σ1)) : exAll C (low C cl n) e [s] σ = some ((.next, vars), σ1) := x_next C cl n e σ h rfl
end
noncomputable def sq (m : M (Fl × Vars)) (k : Vars → M (Fl × Vars)) : M (Fl × Vars) := M.bind m fun p => match p.1 with
 | .next => k p.2
 | .ret v => M.pure (.ret v, p.2)
noncomputable def Pm (m : List V) : Prop := m = [] ∨ ∃ j : Int, m = [.int j]
theorem small_nn {a b : Nat} (ha : a < 4096) (hb : b < 4096) : small ((a : Int) + (b : Int)) = true := decide_eq_true (show a + b < 2 ^ 256 from Nat.lt_trans (Nat.add_lt_add ha hb) (by decide))
theorem lt62 {i : Nat} (h : i < 4096) : (i : Int) < 2 ^ 62 := Int.lt_trans (Int.ofNat_lt.mpr h) (by decide)
theorem half (a b : Nat) : ((a : Int) + b).fdiv 2 = ((a + b) / 2 : Nat) := by
 rw [Int.fdiv_eq_ediv_of_nonneg _ (by decide)]; lia
structure BiI (B : Int → Int → List V → Vars) (σ : Sto) (lo0 hi0 k : Nat) (c : Nat) (vars : Vars) (s : Sto) : Prop where
 s : s = σ
 ex : Ex3 fun (lo hi : Nat) m => vars = B lo hi m ∧ Pm m ∧ lo0 ≤ lo ∧ hi ≤ hi0 ∧ lo ≤ k ∧ k ≤ hi ∧ c = hi - lo
structure BiE (B : Int → Int → List V → Vars) (σ : Sto) (k : Nat) (vars : Vars) (s : Sto) : Prop where
 s : s = σ
 ex : ∃ m, vars = B k k m ∧ Pm m
theorem bis_loop {rc : Rec} {names : List (Str × NameKind)} {t : Expr} {body : List Stmt} {B : Int → Int → List V → Vars} {σ : Sto} {k lo0 hi0 : Nat} {v0 : Vars}
  (ht : ∀ lo hi m, Pm m → rc.ts ⟨names, B lo hi m⟩ t σ = some (decide (lo < hi), σ))
  (hb : ∀ lo hi : Nat, ∀ m, Pm m → lo < hi → lo0 ≤ lo → hi ≤ hi0 → rc.ex ⟨names, B lo hi m⟩ body σ = some ((.next, if (lo + hi) / 2 < k then B ((lo + hi) / 2 + 1 : Nat) hi [.int ((lo + hi) / 2 : Nat)] else B lo ((lo + hi) / 2 : Nat) [.int ((lo + hi) / 2 : Nat)]), σ))
  (h1 : lo0 ≤ k) (h2 : k ≤ hi0) (h3 : hi0 < 4096) : ∃ m, Pm m ∧ whileN rc ⟨names, v0⟩ t body 4096 (B lo0 hi0 []) σ = some ((.next, B k k m), σ) := by
 obtain ⟨vars', σ', h, rfl, m, rfl, hm⟩ := while_run (r := rc) (names := names) (t := t) (body := body)
  (BiI B σ lo0 hi0 k) (BiE B σ k)
  (fun c vars s h => by
   obtain ⟨rfl, lo, hi, m, rfl, hm, a, b, c1, d, f⟩ := h
   by_cases hlt : lo < hi
   ·right
    refine ⟨by rw [ht _ _ _ hm]; congr 2; exact decide_eq_true (Int.ofNat_lt.mpr hlt), ?_⟩
    have := hb lo hi m hm hlt a b
    obtain ⟨m1, m2⟩ := half_in hlt
    generalize (lo + hi) / 2 = j at this m1 m2
    clear hb ht
    by_cases hk : j < k
    ·rw [if_pos hk] at this
     exact ⟨hi - (j + 1), _, _, f ▸ Nat.sub_lt_sub_left hlt (Nat.lt_succ_of_le m1), this, rfl, _, _, _, rfl, .inr ⟨_, rfl⟩, Nat.le_trans a (Nat.le_succ_of_le m1), b, hk, d, rfl⟩
    ·rw [if_neg hk] at this
     exact ⟨j - lo, _, _, f ▸ Nat.sub_lt_sub_right m1 m2, this, rfl, _, _, _, rfl, .inr ⟨_, rfl⟩, a, Nat.le_trans (Nat.le_of_lt m2) b, c1, Nat.not_lt.mp hk, rfl⟩
   ·left
    have e1 : lo = k := Nat.le_antisymm c1 (Nat.le_trans d (Nat.not_lt.mp hlt))
    have e2 : hi = k := Nat.le_antisymm (Nat.le_trans (Nat.not_lt.mp hlt) c1) d
    subst e1
    subst e2
    exact ⟨by rw [ht _ _ _ hm]; congr 2; exact decide_eq_false (Int.lt_irrefl _), rfl, m, rfl, hm⟩)
  4096 (hi0 - lo0) (B lo0 hi0 []) v0 σ (Nat.lt_of_le_of_lt (Nat.sub_le ..) h3) ⟨rfl, lo0, hi0, [], rfl, .inl rfl, Nat.le_refl _, Nat.le_refl _, h1, h2, rfl⟩
 exact ⟨m, hm, h⟩
theorem mth_insert (C : Cfg) {r k : Nat} {x : V} {xs : List V} {σ : Sto} (h : σ[r]? = some xs) (hk : k ≤ xs.length) (hl : xs.length < 65536) : callMth C (.lst r) "insert" [.int k, x] σ = some (.none, σ.set r (insertAt k x xs)) := by
 have e : callMth C (.lst r) "insert" [.int k, x] = M.bind (M.look r) (fun xs => if 0 ≤ (k : Int) && decide ((k : Int) ≤ xs.length) && xs.length < 65536 then M.bind (M.put r (insertAt (k : Int).toNat x xs)) fun _ => M.pure .none else M.fail) := by kernel_rfl
 rw [e, bind_app, look_app, h, lookR_some, ob_some, if_pos]
 ·rfl
 ·rw [decide_eq_true (by lia), decide_eq_true (by lia), decide_eq_true hl]; rfl
abbrev isBin (op : Operator) (X : Expr) : Prop := X = .BinOp (biL X) op (biR X) (exPos X)
noncomputable def caArgs (x : Expr) : List Expr := eL x
noncomputable def caKws (x : Expr) : List Keyword := (ep x).2.2.1
noncomputable def caF (x : Expr) : Expr := e1 x
noncomputable def naN (x : Expr) : Str := (ep x).2.2.2.2.2.1
abbrev callHd (C : Cfg) (e : En) (X : Expr) (v : V) : Prop := (X, decide ((caArgs X).length ≤ 8) && decide ((caKws X).length ≤ 2), nameV C e (naN (caF X))) = (.Call (.Name (naN (caF X)) (exPos (caF X))) (caArgs X) (caKws X) (exPos X), true, some v)
noncomputable def ixV (x : Expr) : Expr := e1 x
noncomputable def ixI (x : Expr) : Expr := e2 x
noncomputable def slLo (x : Expr) : Option Expr := (ep (e2 x)).2.2.2.2.2.2.2.1
noncomputable def slHi (x : Expr) : Option Expr := (ep (e2 x)).2.2.2.2.2.2.2.2.1
noncomputable def slSt (x : Expr) : Option Expr := (ep (e2 x)).2.2.2.2.2.2.2.2.2
abbrev isSl (X : Expr) : Prop := X = .Subscript (ixV X) (.Slice (slLo X) (slHi X) (slSt X) (exPos (ixI X))) (exPos X)
noncomputable def ixT (x : Expr) : Expr := e1 x
noncomputable def ixA (x : Expr) : Expr := e2 x
noncomputable def ixB (x : Expr) : Expr := (ep x).1.2.2
abbrev isIfx (X : Expr) : Prop := X = .IfExp (ixT X) (ixA X) (ixB X) (exPos X)
noncomputable def boVs (x : Expr) : List Expr := eL x
abbrev isOr (X : Expr) : Prop := X = .BoolOp .Or (boVs X) (exPos X)
abbrev isAnd (X : Expr) : Prop := X = .BoolOp .And (boVs X) (exPos X)
section
variable {C : Cfg} {cl : Str → List V → List (Str × V) → M V} {n : Nat} {e : En} {X : Expr} {σ σ1 σ2 σ3 : Sto}
theorem evAt {Y : Expr} (h : X = Y) : (low C cl n).ev e X σ = (low C cl n).ev e Y σ := congrArg (fun Z => (low C cl n).ev e Z σ) h
theorem tsAt {Y : Expr} (h : X = Y) : (low C cl n).ts e X σ = (low C cl n).ts e Y σ := congrArg (fun Z => (low C cl n).ts e Z σ) h
theorem obT {α β : Type} {o : Option (α × Sto)} {a : α} {s : Sto} {f : α → M β} {y : Option (β × Sto)} (h : o = some (a, s)) (k : f a s = y) : ob o f = y := by subst h; exact k
theorem r_bin {op : Operator} {a b : V} {y : Option (V × Sto)} (h : isBin op X) (hl : (low C cl n).ev e (biL X) σ = some (a, σ1)) (hr : (low C cl n).ev e (biR X) σ1 = some (b, σ2)) (ho : binV op a b σ2 = y) : (low C cl (n + 1)).ev e X σ = y :=
 (evAt h).trans (obT hl (obT hr ho))
theorem r_call {fv : V} {vs : List V} {ks : List (Str × V)} {y : Option (V × Sto)} (h : callHd C e X fv) (ha : evs (low C cl (n + 1)) e (caArgs X) σ = some (vs, σ1)) (hk : evKw (low C cl (n + 1)) e (caKws X) σ1 = some (ks, σ2)) (hc : callV C (low C cl (n + 1)) fv vs ks σ2 = y) : (low C cl (n + 2)).ev e X σ = y := by
 obtain ⟨h1, h2⟩ := Prod.mk.inj h
 obtain ⟨h2, h3⟩ := Prod.mk.inj h2
 refine (evAt h1).trans ((w_call ..).trans ((if_pos h2).trans (obT (show _ = some (fv, σ) from ?_) (obT ha (obT hk hc)))))
 rw [w_name, h3]; rfl
theorem r_sl {o l h' s : V} {y : Option (V × Sto)} (h : isSl X) (hv : (low C cl n).ev e (ixV X) σ = some (o, σ1)) (hl : evO (low C cl n) e (slLo X) σ1 = some (l, σ1)) (hh : evO (low C cl n) e (slHi X) σ1 = some (h', σ1)) (hs : evO (low C cl n) e (slSt X) σ1 = some (s, σ1)) (ho : sliceV o l h' s σ1 = y) : (low C cl (n + 1)).ev e X σ = y :=
 (evAt h).trans (obT hv (obT hl (obT hh (obT hs ho))))
theorem r_evs {x : Expr} {xs : List Expr} {v : V} {vs : List V} (h : (low C cl n).ev e x σ = some (v, σ1)) (h2 : evs (low C cl n) e xs σ1 = some (vs, σ2)) : evs (low C cl n) e (x :: xs) σ = some (v :: vs, σ2) := obT h (obT h2 rfl)
theorem r_ifx {c : Bool} {y : Option (V × Sto)} (h : isIfx X) (ht : (low C cl n).ts e (ixT X) σ = some (c, σ1)) (hb : (if c then (low C cl n).ev e (ixA X) else (low C cl n).ev e (ixB X)) σ1 = y) : (low C cl (n + 1)).ev e X σ = y :=
 (evAt h).trans (obT ht hb)
theorem r_or {y : Option (Bool × Sto)} (h : isOr X) (hb : allT (low C cl n) e .Or (boVs X) σ = y) : (low C cl (n + 1)).ts e X σ = y := (tsAt h).trans hb
theorem r_and {y : Option (Bool × Sto)} (h : isAnd X) (hb : allT (low C cl n) e .And (boVs X) σ = y) : (low C cl (n + 1)).ts e X σ = y := (tsAt h).trans hb
theorem r_or_f {x : Expr} {xs : List Expr} {y : Option (Bool × Sto)} (ht : (low C cl n).ts e x σ = some (false, σ1)) (hb : allT (low C cl n) e .Or xs σ1 = y) : allT (low C cl n) e .Or (x :: xs) σ = y := obT ht hb
theorem r_and_t {x : Expr} {xs : List Expr} {y : Option (Bool × Sto)} (ht : (low C cl n).ts e x σ = some (true, σ1)) (hb : allT (low C cl n) e .And xs σ1 = y) : allT (low C cl n) e .And (x :: xs) σ = y := obT ht hb
theorem r_and_f {x : Expr} {xs : List Expr} (ht : (low C cl n).ts e x σ = some (false, σ1)) : allT (low C cl n) e .And (x :: xs) σ = some (false, σ1) := obT ht rfl
theorem r_lc {y : Option (V × Sto)} (h : isLc X) (hb : evStep C (low C cl n) e X σ = y) : (low C cl (n + 1)).ev e X σ = y := by
 rw [← hb]
 exact (evAt h).trans (congrArg (fun Y => evStep C (low C cl n) e Y σ) h).symm
end
theorem put_lst {r i : Nat} {xs : List V} {v : V} {σ : Sto} (h : σ[r]? = some xs) (hi : i < xs.length) (hl : xs.length ≤ 65536) : putItem (.lst r) (.int i) v σ = some ((), σ.set r (xs.set i v)) := by
 show M.bind (M.look r) (fun xs => if 0 ≤ (i : Int) && decide ((i : Int) < xs.length) && xs.length ≤ 65536 then M.put r (xs.set (i : Int).toNat v) else M.fail) σ = _
 rw [bind_app, look_app, h, lookR_some, ob_some, if_pos (by rw [decide_eq_true (Int.natCast_nonneg i), decide_eq_true (Int.ofNat_lt.mpr hi), decide_eq_true hl]; rfl)]; rfl
theorem fmod_nat (a b : Nat) : (a : Int).fmod b = ((a % b : Nat) : Int) := by rw [Int.fmod_eq_emod_of_nonneg _ (Int.natCast_nonneg b)]; rfl
theorem fdiv_nat (a b : Nat) : (a : Int).fdiv b = ((a / b : Nat) : Int) := by rw [Int.fdiv_eq_ediv_of_nonneg _ (Int.natCast_nonneg b)]; rfl
noncomputable def apL : Nat → Nat → List UInt8 → List UInt8
 | 0, _, acc => acc
 | f + 1, n, acc => if n = 0 then acc else apL f (n / 16) (UInt8.ofNat (65 + n % 16) :: acc)
theorem b_divmod {a : Nat} (h : a < 2 ^ 256) (σ : Sto) : callB "divmod" [.int a, .int 16] σ = some (.tup [.int (a / 16 : Nat), .int (a % 16 : Nat)], σ) := by
 show (if small a && small 16 && (16 : Int) != 0 then M.pure (V.tup [.int ((a : Int).fdiv 16), .int ((a : Int).fmod 16)]) else M.fail) σ = _
 rw [show small (a : Int) = true from decide_eq_true h, if_pos (by decide), show (16 : Int) = ((16 : Nat) : Int) from rfl, fdiv_nat, fmod_nat]; rfl
theorem o_add_bytes {a b : List UInt8} (h : a.length + b.length ≤ 65536) (σ : Sto) : binV .Add (.bytes a.toArray) (.bytes b.toArray) σ = some (.bytes (a ++ b).toArray, σ) := by
 show (if a.toArray.size + b.toArray.size ≤ 65536 then M.pure (V.bytes (a.toArray ++ b.toArray)) else M.fail) σ = _
 rw [if_pos (by simpa using h)]
 simp [M.pure]
theorem filt {α : Type} (l : List α) : l.filter (fun _ => true) = l := List.filter_eq_self.mpr fun _ _ => rfl
theorem iter_rng0 (h : Nat) (hh : h < 2 ^ 60) (σ : Sto) : iterOf (.rng 0 h 1) σ = some (((List.range h).map fun (j : Nat) => V.int j, none), σ) := by
 rw [iter_rng (by decide) (by decide) (nat62 hh).1 (nat62 hh).2, Int.sub_zero, Int.toNat_natCast]
 unfold upto
 rw [List.map_map]
 have : (V.int ∘ fun (j : Nat) => (0 : Int) + j) = fun (j : Nat) => V.int j := by funext j; simp
 rw [this]
theorem apL_acc : ∀ f n acc, apL f n acc = apL f n [] ++ acc
 | 0, _, acc => rfl
 | f + 1, n, acc => by
  rw [apL, apL]
  split
  ·rfl
  ·rw [apL_acc f _ (_ :: acc), apL_acc f _ [_], List.append_assoc]; rfl
noncomputable def pad : Nat → Nat → List UInt8
 | 0, _ => []
 | f + 1, n => pad f (n / 16) ++ [UInt8.ofNat (65 + n % 16)]
theorem pad_zero : ∀ f, pad f 0 = List.replicate f 65
 | 0 => rfl
 | f + 1 => by
  rw [pad, pad_zero f, List.replicate_succ']; rfl
theorem pad_apL : ∀ f F n, n < 16 ^ f → f ≤ F → (apL F n []).length ≤ f ∧ List.replicate (f - (apL F n []).length) 65 ++ apL F n [] = pad f n
 | 0, F, n, h, _ => by
  have : n = 0 := by simpa using h
  subst this
  have : apL F 0 [] = [] := by cases F <;> rfl
  rw [this]; exact ⟨Nat.le_refl _, rfl⟩
 | f + 1, F, n, h, hF => by
  by_cases h0 : n = 0
  ·subst h0
   have : apL F 0 [] = [] := by cases F <;> rfl
   rw [this, pad_zero]
   exact ⟨Nat.zero_le _, by simp⟩
  ·cases F with
   | zero => lia
   | succ F =>
    rw [apL, if_neg h0, apL_acc]
    have hd : n / 16 < 16 ^ f := Nat.div_lt_of_lt_mul (by rw [Nat.pow_succ, Nat.mul_comm] at h; exact h)
    obtain ⟨i1, i2⟩ := pad_apL f F (n / 16) hd (Nat.le_of_succ_le_succ hF)
    rw [List.length_append, List.length_singleton, ← List.append_assoc, Nat.add_sub_add_right, i2]
    exact ⟨Nat.succ_le_succ i1, rfl⟩
theorem apL_head : ∀ F n, n < 16 ^ F → (apL F n []).take 1 ≠ [65]
 | 0, n, _ => by simp [apL]
 | F + 1, n, h => by
  rw [apL]
  split
  ·simp
  ·rename_i h0
   rw [apL_acc]
   by_cases h1 : n / 16 = 0
   ·rw [h1]
    have : apL F 0 [] = [] := by cases F <;> rfl
    rw [this]
    have hn : n % 16 = n := by lia
    rw [hn]
    have h2 : n < 16 := by lia
    revert h0
    have : ∀ m < 16, m ≠ 0 → ([] ++ [UInt8.ofNat (65 + m)] : List UInt8).take 1 ≠ [65] := by decide
    exact this n h2
   ·have hd : n / 16 < 16 ^ F := Nat.div_lt_of_lt_mul (by rw [Nat.pow_succ, Nat.mul_comm] at h; exact h)
    have ih := apL_head F (n / 16) hd
    have hl : apL F (n / 16) [] ≠ [] := by
     cases F with
     | zero => simp at hd; lia
     | succ F => rw [apL, if_neg h1, apL_acc]; simp
    cases hq : apL F (n / 16) [] with
    | nil => exact absurd hq hl
    | cons d r => rw [hq] at ih; simpa using ih
noncomputable def cntL (x : Int) (l : List Int) : Nat := l.countP fun y => y < x
noncomputable def cntR (x : Int) (l : List Int) : Nat := l.countP fun y => y ≤ x
theorem sorted_cntL {x : Int} (l : List Int) : l.Pairwise (· ≤ ·) → ∀ i (y : Int), l[i]? = some y → (y < x ↔ i < cntL x l) := by
 induction l with
 | nil => exact fun _ _ _ h => nomatch h
 | cons z l ih =>
  intro hs i y h
  obtain ⟨h1, h2⟩ := List.pairwise_cons.mp hs
  have hz : ∀ w ∈ z :: l, z ≤ w := fun w hw => (List.mem_cons.mp hw).elim (fun e => Int.le_of_eq e.symm) (h1 w)
  by_cases q : z < x
  ·rw [show cntL x (z :: l) = cntL x l + 1 from List.countP_cons_of_pos (decide_eq_true q)]
   cases i with
   | zero => cases Option.some.inj h; exact ⟨fun _ => Nat.succ_pos _, fun _ => q⟩
   | succ i => exact (ih h2 i y h).trans Nat.succ_lt_succ_iff.symm
  ·rw [show cntL x (z :: l) = 0 from List.countP_eq_zero.mpr fun w hw lt => q (Int.lt_of_le_of_lt (hz w hw) (of_decide_eq_true lt))]
   exact ⟨fun lt => absurd (Int.lt_of_le_of_lt (hz y (List.mem_of_getElem? h)) lt) q, fun w => absurd w (Nat.not_lt_zero i)⟩
theorem sorted_cntR {x : Int} (l : List Int) : l.Pairwise (· ≤ ·) → ∀ i (y : Int), l[i]? = some y → (x < y ↔ cntR x l ≤ i) := by
 induction l with
 | nil => exact fun _ _ _ h => nomatch h
 | cons z l ih =>
  intro hs i y h
  obtain ⟨h1, h2⟩ := List.pairwise_cons.mp hs
  have hz : ∀ w ∈ z :: l, z ≤ w := fun w hw => (List.mem_cons.mp hw).elim (fun e => Int.le_of_eq e.symm) (h1 w)
  by_cases q : z ≤ x
  ·rw [show cntR x (z :: l) = cntR x l + 1 from List.countP_cons_of_pos (decide_eq_true q)]
   cases i with
   | zero => cases Option.some.inj h; exact ⟨fun lt => absurd lt (Int.not_lt.mpr q), fun w => absurd w (Nat.not_succ_le_zero _)⟩
   | succ i => exact (ih h2 i y h).trans Nat.succ_le_succ_iff.symm
  ·rw [show cntR x (z :: l) = 0 from List.countP_eq_zero.mpr fun w hw le => q (Int.le_trans (hz w hw) (of_decide_eq_true le))]
   exact ⟨fun _ => Nat.zero_le _, fun _ => Int.lt_of_lt_of_le (Int.not_le.mp q) (hz y (List.mem_of_getElem? h))⟩
end Mine.Internal

namespace Mine.Internal
open PySem PySem.W
theorem for_from {α : Type} {r : Rec} {names : List (Str × NameKind)} {tgt : Expr} {body : List Stmt} {chk : Option Nat} {all : List V} (g : α → V) (I : Nat → Vars → Sto → Prop) (ys : List α)
  (hst : ∀ d vars σ, I d vars σ → still chk all σ = some ((), σ))
  (hs : ∀ d y vars σ, ys[d]? = some y → I d vars σ → Ex3 fun vars1 vars2 σ2 => setTo r ⟨names, vars⟩ tgt (g y) σ = some (vars1, σ) ∧ r.ex ⟨names, vars1⟩ body σ = some ((.next, vars2), σ2) ∧ I (d + 1) vars2 σ2) (v0 : Vars) :
  ∀ (zs : List α) (d : Nat) (vars : Vars) (σ : Sto), (∀ j y, zs[j]? = some y → ys[d + j]? = some y) → I d vars σ → Ex2 fun vars' σ' => forItems r ⟨names, v0⟩ tgt body chk all (zs.map g) vars σ = some ((.next, vars'), σ') ∧ I (d + zs.length) vars' σ'
 | [], d, vars, σ, _, h => ⟨vars, σ, by rw [List.map_nil, for_eq0, hst _ _ _ h, ob_some]; rfl, h⟩
 | y :: zs, d, vars, σ, hz, h => by
  obtain ⟨vars1, vars2, σ2, h1, h2, h3⟩ := hs d y vars σ (hz 0 y rfl) h
  obtain ⟨vars', σ', h4, h5⟩ := for_from g I ys hst hs v0 zs (d + 1) vars2 σ2 (fun j x hx => by rw [Nat.add_right_comm]; exact hz (j + 1) x hx) h3
  refine ⟨vars', σ', ?_, by rw [List.length_cons, ← Nat.add_assoc, Nat.add_right_comm]; exact h5⟩
  rw [List.map_cons, for_eq, hst _ _ _ h, ob_some, bind_app, h1, ob_some, bind_app, h2, ob_some]
  exact h4
theorem for_idx {α : Type} {r : Rec} {names : List (Str × NameKind)} {tgt : Expr} {body : List Stmt} {chk : Option Nat} {all : List V} (g : α → V) (I : Nat → Vars → Sto → Prop) (ys : List α)
  (hst : ∀ d vars σ, I d vars σ → still chk all σ = some ((), σ))
  (hs : ∀ d y vars σ, ys[d]? = some y → I d vars σ → Ex3 fun vars1 vars2 σ2 => setTo r ⟨names, vars⟩ tgt (g y) σ = some (vars1, σ) ∧ r.ex ⟨names, vars1⟩ body σ = some ((.next, vars2), σ2) ∧ I (d + 1) vars2 σ2)
  (vars v0 : Vars) (σ : Sto) (h : I 0 vars σ) : Ex2 fun vars' σ' => forItems r ⟨names, v0⟩ tgt body chk all (ys.map g) vars σ = some ((.next, vars'), σ') ∧ I ys.length vars' σ' := by
 have := for_from g I ys hst hs v0 ys 0 vars σ (fun j y hy => by rw [Nat.zero_add]; exact hy) h
 rwa [Nat.zero_add] at this
theorem for_range {N : Nat} {r : Rec} {names : List (Str × NameKind)} {tgt : Expr} {body : List Stmt} {chk : Option Nat} {all : List V} (I : Nat → Vars → Sto → Prop)
  (hst : ∀ d vars σ, I d vars σ → still chk all σ = some ((), σ))
  (hs : ∀ d vars σ, d < N → I d vars σ → Ex3 fun vars1 vars2 σ2 => setTo r ⟨names, vars⟩ tgt (.int d) σ = some (vars1, σ) ∧ r.ex ⟨names, vars1⟩ body σ = some ((.next, vars2), σ2) ∧ I (d + 1) vars2 σ2)
  (vars v0 : Vars) (σ : Sto) (h : I 0 vars σ) : Ex2 fun vars' σ' => forItems r ⟨names, v0⟩ tgt body chk all ((List.range N).map fun (j : Nat) => V.int j) vars σ = some ((.next, vars'), σ') ∧ I N vars' σ' := by
 have := for_idx (r := r) (names := names) (tgt := tgt) (body := body) (chk := chk) (all := all) (fun (j : Nat) => V.int j) I (List.range N) hst
  (fun d y vars σ hy hI => by
   have hd : d < N := by
    have := (List.getElem?_eq_some_iff.mp hy).1
    rwa [List.length_range] at this
   rw [List.getElem?_range hd] at hy
   cases hy
   exact hs d vars σ hd hI) vars v0 σ h
 rwa [List.length_range] at this
noncomputable def lcG2 (X : Expr) : Comprehension := match lcGs X with
 | _ :: g :: _ => g
 | _ => default
abbrev lc2Ok (e : En) (X : Expr) : Prop := (X, (lcG X).ifs, noDup (lcSc X) && (lcSc X).kind == .function && freeOk e (lcSc X) && (lcG X).is_async == 0, (lcG2 X).is_async == 0) = (.ListComp (lcElt X) [lcG X, lcG2 X] (lcSc X) (exPos X), [], true, true)
theorem comp2_eq {r : Rec} {names : List (Str × NameKind)} {elt tgt : Expr} {g2 : Comprehension} {chk : Option Nat} {all xs : List V} {x : V} {vars : Vars} {acc : List V} {σ : Sto} (h : (g2.is_async == 0) = true) : compItems r names elt tgt [] [g2] chk all (x :: xs) vars acc σ = ob (still chk all σ) fun _ => M.bind (setTo r ⟨names, vars⟩ tgt x) fun vars =>
  M.bind (r.ev ⟨names, vars⟩ g2.iter) fun it => M.bind (iterOf it) fun _ => M.bind (r.comp ⟨names, vars⟩ elt [g2] [it] vars acc) fun q => compItems r names elt tgt [] [g2] chk all xs q.1 q.2 := by
 show (ob (still chk all σ) fun _ => M.bind (setTo r ⟨names, vars⟩ tgt x) fun vars => if (g2.is_async == 0) = true then _ else M.fail) = _
 rw [h]; rfl
theorem comp2_eq0 {r : Rec} {names : List (Str × NameKind)} {elt tgt : Expr} {g2 : Comprehension} {chk : Option Nat} {all : List V} {vars : Vars} {acc : List V} {σ : Sto} : compItems r names elt tgt [] [g2] chk all [] vars acc σ = ob (still chk all σ) fun _ => M.pure (vars, acc) := rfl
theorem comp2_run {α : Type} {r : Rec} {names : List (Str × NameKind)} {elt tgt : Expr} {g2 : Comprehension} {chk : Option Nat} {all : List V} (hg : (g2.is_async == 0) = true) (g : α → V) (I : List α → Vars → List V → Sto → Prop)
  (hst : ∀ ys vars acc σ, I ys vars acc σ → still chk all σ = some ((), σ))
  (hs : ∀ y ys vars acc σ, I (y :: ys) vars acc σ → Ex7 fun vars1 it q vars2 acc2 σ1 σ2 => setTo r ⟨names, vars⟩ tgt (g y) σ = some (vars1, σ) ∧ r.ev ⟨names, vars1⟩ g2.iter σ = some (it, σ1) ∧ iterOf it σ1 = some (q, σ1) ∧ r.comp ⟨names, vars1⟩ elt [g2] [it] vars1 acc σ1 = some ((vars2, acc2), σ2) ∧ I ys vars2 acc2 σ2) :
  ∀ (ys : List α) (vars : Vars) (acc : List V) (σ : Sto), I ys vars acc σ → Ex3 fun vars' acc' σ' => compItems r names elt tgt [] [g2] chk all (ys.map g) vars acc σ = some ((vars', acc'), σ') ∧ I [] vars' acc' σ'
 | [], vars, acc, σ, h => ⟨vars, acc, σ, by rw [List.map_nil, comp2_eq0, hst _ _ _ _ h, ob_some]; rfl, h⟩
 | y :: ys, vars, acc, σ, h => by
  obtain ⟨vars1, it, q, vars2, acc2, σ1, σ2, h1, h2, h3, h4, h5⟩ := hs y ys vars acc σ h
  obtain ⟨vars', acc', σ', h6, h7⟩ := comp2_run hg g I hst hs ys vars2 acc2 σ2 h5
  refine ⟨vars', acc', σ', ?_, h7⟩
  rw [List.map_cons, comp2_eq hg, hst _ _ _ _ h, ob_some, bind_app, h1, ob_some, bind_app, h2, ob_some, bind_app, h3, ob_some, bind_app, h4, ob_some]
  exact h6
theorem inner_run {α : Type} {C : Cfg} {cl : Str → List V → List (Str × V) → M V} {n : Nat} {names : List (Str × NameKind)} {elt : Expr} {g2 : Comprehension} {it : V} {ys : List α} {chk : Option Nat} {vars : Vars} {acc : List V} {σ : Sto} (hg : (g2.is_async == 0) = true) (g : α → V) (p : α → Bool) (f : α → V) (vars1 : α → Vars) (Good : Vars → Prop)
  (hx : iterOf it σ = some ((ys.map g, chk), σ)) (hst : still chk (ys.map g) σ = some ((), σ))
  (hs : ∀ y ∈ ys, ∀ vs, Good vs → setTo (low C cl n) ⟨names, vs⟩ g2.target (g y) σ = some (vars1 y, σ)) (h0 : Good vars) (h1 : ∀ y ∈ ys, Good (vars1 y))
  (ht : ∀ y ∈ ys, tests (low C cl n) ⟨names, vars1 y⟩ g2.ifs σ = some (p y, σ)) (hb : ∀ y ∈ ys, p y = true → (low C cl n).ev ⟨names, vars1 y⟩ elt σ = some (f y, σ)) (hl : acc.length + ys.length ≤ 65536) :
  ∃ vars', Good vars' ∧ (low C cl (n + 1)).comp ⟨names, vars⟩ elt [g2] [it] vars acc σ = some ((vars', acc ++ (ys.filter p).map f), σ) := by
 obtain ⟨v', hv, h'⟩ := comp_run (r := low C cl n) (names := names) (elt := elt) (tgt := g2.target) (ifs := g2.ifs) g p f vars1 Good hst ys vars acc hs h0 h1 ht hb hl
 refine ⟨v', hv, ?_⟩
 show (if (g2.is_async == 0) = true then M.bind (iterOf it) fun x => compItems (low C cl n) names elt g2.target g2.ifs [] x.2 x.1 x.1 vars acc else M.fail) σ = _
 rw [if_pos hg, bind_app, hx, ob_some]
 exact h'
theorem lc2_run {α : Type} {C : Cfg} {cl : Str → List V → List (Str × V) → M V} {n : Nat} {e : En} {σ σ1 : Sto} {X : Expr} {it : V} {ys : List α} {chk : Option Nat} (g : α → V) (I : List α → Vars → List V → Sto → Prop)
  (hc : lc2Ok e X) (hi : (low C cl (n + 1)).ev e (lcG X).iter σ = some (it, σ1)) (hx : iterOf it σ1 = some ((ys.map g, chk), σ1))
  (hst : ∀ ys' vars acc σ, I ys' vars acc σ → still chk (ys.map g) σ = some ((), σ))
  (hs : ∀ y ys' vars acc σ, I (y :: ys') vars acc σ → Ex7 fun vars1 it q vars2 acc2 σ1 σ2 => setTo (low C cl n) ⟨compNames (lcSc X), vars⟩ (lcG X).target (g y) σ = some (vars1, σ) ∧ (low C cl n).ev ⟨compNames (lcSc X), vars1⟩ (lcG2 X).iter σ = some (it, σ1) ∧ iterOf it σ1 = some (q, σ1) ∧ (low C cl n).comp ⟨compNames (lcSc X), vars1⟩ (lcElt X) [lcG2 X] [it] vars1 acc σ1 = some ((vars2, acc2), σ2) ∧ I ys' vars2 acc2 σ2)
  (h0 : I ys (compVars e (lcSc X)) [] σ1) : Ex3 fun vars' acc' σ' => evStep C (low C cl (n + 1)) e X σ = some (.list acc', σ') ∧ I [] vars' acc' σ' := by
 obtain ⟨hX, hc⟩ := Prod.mk.inj hc
 obtain ⟨hf, hc⟩ := Prod.mk.inj hc
 obtain ⟨hc, hg⟩ := Prod.mk.inj hc
 have h4 := (Bool.and_eq_true_iff.mp hc).2
 have e1 : evStep C (low C cl (n + 1)) e X σ = evStep C (low C cl (n + 1)) e (.ListComp (lcElt X) [lcG X, lcG2 X] (lcSc X) (exPos X)) σ := congrArg (fun Y => evStep C (low C cl (n + 1)) e Y σ) hX
 obtain ⟨v', acc', σ', h', hI⟩ := comp2_run (r := low C cl n) (names := compNames (lcSc X)) (elt := lcElt X) (tgt := (lcG X).target) hg g I hst hs ys _ _ _ h0
 have e2 : (low C cl (n + 1)).comp ⟨compNames (lcSc X), compVars e (lcSc X)⟩ (lcElt X) [lcG X, lcG2 X] [it] (compVars e (lcSc X)) [] σ1 = some ((v', acc'), σ') := by
  show (if ((lcG X).is_async == 0) = true then M.bind (iterOf it) fun x => compItems (low C cl n) (compNames (lcSc X)) (lcElt X) (lcG X).target (lcG X).ifs [lcG2 X] x.2 x.1 x.1 (compVars e (lcSc X)) [] else M.fail) σ1 = _
  rw [if_pos h4, bind_app, hx, ob_some, hf]
  exact h'
 refine ⟨v', acc', σ', ?_, hI⟩
 rw [e1]
 show (if (noDup (lcSc X) && (lcSc X).kind == .function && freeOk e (lcSc X) && (lcG X).is_async == 0) = true then M.bind ((low C cl (n + 1)).ev e (lcG X).iter) fun it => M.bind (iterOf it) fun _ => M.bind ((low C cl (n + 1)).comp ⟨compNames (lcSc X), compVars e (lcSc X)⟩ (lcElt X) [lcG X, lcG2 X] [it] (compVars e (lcSc X)) []) fun x => M.pure (V.list x.2) else M.fail) σ = _
 rw [if_pos hc, bind_app, hi, ob_some, bind_app, hx, ob_some, bind_app, e2, ob_some]; rfl
theorem app_get {α : Type} (σ τ : List α) (i : Nat) : (σ ++ τ)[σ.length + i]? = τ[i]? := by
 rw [List.getElem?_append_right (Nat.le_add_right _ _), Nat.add_sub_cancel_left]
theorem app_set {α : Type} (σ τ : List α) (i : Nat) (x : α) : (σ ++ τ).set (σ.length + i) x = σ ++ τ.set i x := by
 rw [List.set_append_right _ _ (Nat.le_add_right _ _), Nat.add_sub_cancel_left]
structure LcK {α : Type} (C : Cfg) (cl : Str → List V → List (Str × V) → M V) (n : Nat) (e : En) (σ : Sto) (X : Expr) (g : α → V) (V0 : Vars) (V1 : α → Vars) : Prop where
 ok : lcOk e X
 cv : compVars e (lcSc X) = V0
 s0 : ∀ y, setTo (low C cl n) ⟨compNames (lcSc X), V0⟩ (lcG X).target (g y) σ = some (V1 y, σ)
 s1 : ∀ y z, setTo (low C cl n) ⟨compNames (lcSc X), V1 z⟩ (lcG X).target (g y) σ = some (V1 y, σ)
theorem lc_st {α : Type} {C : Cfg} {cl : Str → List V → List (Str × V) → M V} {n : Nat} {e : En} {σ : Sto} {X : Expr} {it : V} {ys : List α} {chk : Option Nat} {g : α → V} {V0 : Vars} {V1 : α → Vars} (k : LcK C cl n e σ X g V0 V1) (p : α → Bool) (f : α → V)
  (hi : (low C cl (n + 1)).ev e (lcG X).iter σ = some (it, σ)) (hx : iterOf it σ = some ((ys.map g, chk), σ)) (hst : still chk (ys.map g) σ = some ((), σ))
  (ht : ∀ y ∈ ys, tests (low C cl n) ⟨compNames (lcSc X), V1 y⟩ (lcG X).ifs σ = some (p y, σ))
  (hb : ∀ y ∈ ys, p y = true → (low C cl n).ev ⟨compNames (lcSc X), V1 y⟩ (lcElt X) σ = some (f y, σ))
  (hl : ys.length ≤ 65536) : evStep C (low C cl (n + 1)) e X σ = some (.list ((ys.filter p).map f), σ) :=
 lc_run g p f V1 k.ok hi hx hst (fun y _ => by rw [k.cv]; exact k.s0 y) (fun y _ z _ => k.s1 y z) ht hb hl
theorem lc_st1 {α : Type} {C : Cfg} {cl : Str → List V → List (Str × V) → M V} {n : Nat} {e : En} {σ σ1 : Sto} {X : Expr} {it : V} {ys : List α} {chk : Option Nat} {g : α → V} {V0 : Vars} {V1 : α → Vars} (k : LcK C cl n e σ1 X g V0 V1) (f : α → V)
  (hi : (low C cl (n + 1)).ev e (lcG X).iter σ = some (it, σ1)) (hx : iterOf it σ1 = some ((ys.map g, chk), σ1)) (hst : still chk (ys.map g) σ1 = some ((), σ1)) (hf : (lcG X).ifs = [])
  (hb : ∀ y ∈ ys, (low C cl n).ev ⟨compNames (lcSc X), V1 y⟩ (lcElt X) σ1 = some (f y, σ1))
  (hl : ys.length ≤ 65536) : evStep C (low C cl (n + 1)) e X σ = some (.list (ys.map f), σ1) := by
 obtain ⟨hX, hc⟩ := Prod.mk.inj k.ok
 have h4 := (Bool.and_eq_true_iff.mp hc).2
 have e1 : evStep C (low C cl (n + 1)) e X σ = evStep C (low C cl (n + 1)) e (.ListComp (lcElt X) [lcG X] (lcSc X) (exPos X)) σ := congrArg (fun Y => evStep C (low C cl (n + 1)) e Y σ) hX
 obtain ⟨v', _, h'⟩ := comp_run (r := low C cl n) (names := compNames (lcSc X)) (elt := lcElt X) (tgt := (lcG X).target) (ifs := (lcG X).ifs) g (fun _ => true) f V1 (fun vs => vs = V0 ∨ ∃ z ∈ ys, vs = V1 z) hst ys V0 []
  (fun y _ vs hv => hv.elim (fun q => q ▸ k.s0 y) (fun ⟨z, _, q⟩ => q ▸ k.s1 y z)) (.inl rfl) (fun y hy => .inr ⟨y, hy, rfl⟩) (fun y _ => by rw [hf]; rfl) (fun y hy _ => hb y hy) ((Nat.zero_add _).symm ▸ hl)
 rw [filt] at h'
 have e2 : (low C cl (n + 1)).comp ⟨compNames (lcSc X), compVars e (lcSc X)⟩ (lcElt X) [lcG X] [it] (compVars e (lcSc X)) [] σ1 = some ((v', ys.map f), σ1) := by
  show (if ((lcG X).is_async == 0) = true then M.bind (iterOf it) fun x => compItems (low C cl n) (compNames (lcSc X)) (lcElt X) (lcG X).target (lcG X).ifs [] x.2 x.1 x.1 (compVars e (lcSc X)) [] else M.fail) σ1 = _
  rw [if_pos h4, bind_app, hx, ob_some, k.cv]
  exact h'
 rw [e1]
 show (if (noDup (lcSc X) && (lcSc X).kind == .function && freeOk e (lcSc X) && (lcG X).is_async == 0) = true then M.bind ((low C cl (n + 1)).ev e (lcG X).iter) fun it => M.bind (iterOf it) fun _ => M.bind ((low C cl (n + 1)).comp ⟨compNames (lcSc X), compVars e (lcSc X)⟩ (lcElt X) [lcG X] [it] (compVars e (lcSc X)) []) fun x => M.pure (V.list x.2) else M.fail) σ = _
 rw [if_pos hc, bind_app, hi, ob_some, bind_app, hx, ob_some, bind_app, e2, ob_some]; rfl
noncomputable def iV (n : Nat) : V := .int (n : Int)
theorem iter_rngN {h : Nat} (hh : h < 2 ^ 60) (σ : Sto) : iterOf (.rng 0 h 1) σ = some (((List.range h).map iV, none), σ) := iter_rng0 h hh σ
theorem small_nat {n : Nat} (h : n < 2 ^ 256) : small (n : Int) = true := decide_eq_true (by rw [Int.natAbs_natCast]; exact h)
theorem o_divN {a b : Nat} (ha : a < 2 ^ 256) (hb : b < 2 ^ 256) (h : b ≠ 0) (σ : Sto) : binV .FloorDiv (iV a) (iV b) σ = some (iV (a / b), σ) := by
 unfold iV
 rw [o_div (small_nat ha) (small_nat hb) (by rw [bne_iff_ne]; exact fun q => h (Int.ofNat_eq_zero.mp q)), fdiv_nat]
theorem o_modN {a b : Nat} (h : b ≠ 0) (σ : Sto) : binV .Mod (iV a) (iV b) σ = some (iV (a % b), σ) := by
 unfold iV
 rw [o_mod (by rw [bne_iff_ne]; exact fun q => h (Int.ofNat_eq_zero.mp q)), fmod_nat]
theorem len_lst {r : Nat} {xs : List V} {σ : Sto} (h : σ[r]? = some xs) (hl : xs.length ≤ 65536) : callB "len" [.lst r] σ = some (iV xs.length, σ) := by
 rw [b_len_lst, h, lookR_some, ob_some, if_pos hl]; rfl
theorem len_list {xs : List V} (hl : xs.length ≤ 65536) (σ : Sto) : callB "len" [.list xs] σ = some (iV xs.length, σ) := by
 rw [b_len_list, if_pos hl]; rfl
theorem ix_at {xs : List V} {i : Nat} {v : V} (h : xs[i]? = some v) (hi : i < 2 ^ 62) (σ : Sto) : indexV (.list xs) (iV i) σ = some (v, σ) := by
 unfold iV
 rw [ix_list (Int.natCast_nonneg _) (by exact Int.ofNat_lt.mpr hi), Int.toNat_natCast, h]; rfl
theorem ix_lat {r : Nat} {xs : List V} {i : Nat} {v : V} {σ : Sto} (hr : σ[r]? = some xs) (h : xs[i]? = some v) (hi : i < 2 ^ 62) : indexV (.lst r) (iV i) σ = some (v, σ) := by
 unfold iV
 rw [ix_lst (Int.natCast_nonneg _) (by exact Int.ofNat_lt.mpr hi), hr, lookR_some, ob_some, Int.toNat_natCast, h]; rfl
theorem range1N (h : Nat) (σ : Sto) : callT "range" [iV h] σ = some (.rng 0 h 1, σ) := rfl
end Mine.Internal
namespace Mine.Internal.L01
open PySem PyProof.Rows PySem.W PySem.SeqAt PySem.Calls PySem.Challenge Mine.Internal
abbrev P : Program := pw_ul0017_01
noncomputable def muts : List Str := ["cells", "hooks", "shelf", "beads", "spots"]
noncomputable def cfg : Cfg := cfgOf P muts
theorem top : TopChecks P := ⟨by kernel_rfl, by kernel_rfl, by kernel_rfl, by kernel_rfl, by kernel_rfl, by kernel_rfl, by kernel_rfl, by kernel_rfl⟩
theorem cok : CfgOk cfg := ⟨by kernel_rfl, by kernel_rfl, by kernel_rfl, by kernel_rfl, lowS_ok⟩
theorem noNumpy : P.main.body.any namesNumpy = false := by kernel_rfl
theorem defd : P.theDef "law" = defOf P "law" := by kernel_rfl
theorem plain : (defOf P "law").any (fun x => plainArgs x.1) = true := by kernel_rfl
theorem well : opensWell P = true := by kernel_rfl
noncomputable def bodyOf (n : Str) : List Stmt := ((defOf P n).map (·.2.1)).getD []
noncomputable def namesOf (n : Str) : List (Str × NameKind) := ((defOf P n).map (·.2.2.names)).getD []
noncomputable def bv (r : Nat) (x lo hi key : V) (m : List V) : Vars := ([("a", .lst r), ("x", x), ("lo", lo), ("hi", hi), ("key", key)] : Vars) ++ m.map fun v => (("mid" : Str), v)
section
variable (cl : Str → List V → List (Str × V) → M V) (r : Nat) (x : V) (lo hi mid j : Int) (σ : Sto)
noncomputable def blW (k : Nat) : Stmt := at' (if k == 0 then ifThen (at' (bodyOf "bisect_left") 2) else ifElse (at' (bodyOf "bisect_left") 2)) 0
theorem bl_t00 : (low cfg cl 12).ts ⟨namesOf "bisect_left", bv r x (.int lo) (.int hi) .none []⟩ (whTest (blW 0)) σ = some (decide (lo < hi), σ) := by kernel_rfl
theorem bl_i0 : exStep cfg (low cfg cl 11) ⟨namesOf "bisect_left", bv r x (.int lo) (.int hi) .none [.int mid]⟩ (at' (whBody (blW 0)) 1) σ = ob (ob (indexV (.lst r) (.int mid) σ) fun y => cmpV cfg .Lt y x) fun c => if c then nx (bv r x (.int (mid + 1)) (.int hi) .none [.int mid]) else nx (bv r x (.int lo) (.int mid) .none [.int mid]) := by kernel_rfl
theorem bl_m00 : exStep cfg (low cfg cl 11) ⟨namesOf "bisect_left", bv r x (.int lo) (.int hi) .none []⟩ (at' (whBody (blW 0)) 0) σ = ob (binV .FloorDiv (.int (lo + hi)) (.int 2) σ) fun v => M.bind (th false v) fun v => nx (bv r x (.int lo) (.int hi) .none [v]) := by kernel_rfl
theorem bl_s300 : exStep cfg (low cfg cl 13) ⟨namesOf "bisect_left", bv r x (.int lo) (.int hi) .none []⟩ (at' (bodyOf "bisect_left") 3) σ = some ((.ret (.int lo), bv r x (.int lo) (.int hi) .none []), σ) := by kernel_rfl
theorem bl_t01 : (low cfg cl 12).ts ⟨namesOf "bisect_left", bv r x (.int lo) (.int hi) .none [.int j]⟩ (whTest (blW 0)) σ = some (decide (lo < hi), σ) := by kernel_rfl
theorem bl_m01 : exStep cfg (low cfg cl 11) ⟨namesOf "bisect_left", bv r x (.int lo) (.int hi) .none [.int j]⟩ (at' (whBody (blW 0)) 0) σ = ob (binV .FloorDiv (.int (lo + hi)) (.int 2) σ) fun v => M.bind (th false v) fun v => nx (bv r x (.int lo) (.int hi) .none [v]) := by kernel_rfl
theorem bl_s301 : exStep cfg (low cfg cl 13) ⟨namesOf "bisect_left", bv r x (.int lo) (.int hi) .none [.int j]⟩ (at' (bodyOf "bisect_left") 3) σ = some ((.ret (.int lo), bv r x (.int lo) (.int hi) .none [.int j]), σ) := by kernel_rfl
theorem bl_b0 : whBody (blW 0) = [at' (whBody (blW 0)) 0, at' (whBody (blW 0)) 1] := by kernel_rfl
theorem bl_s00 (hv : V) : (low cfg cl 13).ts ⟨namesOf "bisect_left", bv r x (.int lo) hv .none []⟩ (ifTest (at' (bodyOf "bisect_left") 0)) σ = some (decide (lo < 0), σ) := by kernel_rfl
theorem bl_s10 : exStep cfg (low cfg cl 13) ⟨namesOf "bisect_left", bv r x (.int lo) (.int hi) .none []⟩ (at' (bodyOf "bisect_left") 1) σ = nx (bv r x (.int lo) (.int hi) .none []) σ := by kernel_rfl
theorem bl_s1n0 : exStep cfg (low cfg cl 13) ⟨namesOf "bisect_left", bv r x (.int lo) .none .none []⟩ (at' (bodyOf "bisect_left") 1) σ = sq (M.bind (callB "len" [.lst r]) fun v => M.bind (th false v) fun v => nx (bv r x (.int lo) v .none [])) nx σ := by kernel_rfl
theorem bl_s20 : (low cfg cl 13).ts ⟨namesOf "bisect_left", bv r x (.int lo) (.int hi) .none []⟩ (ifTest (at' (bodyOf "bisect_left") 2)) σ = some (true, σ) := by kernel_rfl
theorem bl_c0 : ifThen (at' (bodyOf "bisect_left") 2) = [blW 0] := by kernel_rfl
theorem bl_t10 : (low cfg cl 12).ts ⟨namesOf "bisect_left", bv r x (.int lo) (.int hi) (.glob "_law_first") []⟩ (whTest (blW 1)) σ = some (decide (lo < hi), σ) := by kernel_rfl
theorem bl_i1 : exStep cfg (low cfg cl 11) ⟨namesOf "bisect_left", bv r x (.int lo) (.int hi) (.glob "_law_first") [.int mid]⟩ (at' (whBody (blW 1)) 1) σ = ob (ob (ob (ob (indexV (.lst r) (.int mid) σ) fun y => M.pure [y]) fun vs => cl "_law_first" vs []) fun y => cmpV cfg .Lt y x) fun c => if c then nx (bv r x (.int (mid + 1)) (.int hi) (.glob "_law_first") [.int mid]) else nx (bv r x (.int lo) (.int mid) (.glob "_law_first") [.int mid]) := by kernel_rfl
theorem bl_m10 : exStep cfg (low cfg cl 11) ⟨namesOf "bisect_left", bv r x (.int lo) (.int hi) (.glob "_law_first") []⟩ (at' (whBody (blW 1)) 0) σ = ob (binV .FloorDiv (.int (lo + hi)) (.int 2) σ) fun v => M.bind (th false v) fun v => nx (bv r x (.int lo) (.int hi) (.glob "_law_first") [v]) := by kernel_rfl
theorem bl_s310 : exStep cfg (low cfg cl 13) ⟨namesOf "bisect_left", bv r x (.int lo) (.int hi) (.glob "_law_first") []⟩ (at' (bodyOf "bisect_left") 3) σ = some ((.ret (.int lo), bv r x (.int lo) (.int hi) (.glob "_law_first") []), σ) := by kernel_rfl
theorem bl_t11 : (low cfg cl 12).ts ⟨namesOf "bisect_left", bv r x (.int lo) (.int hi) (.glob "_law_first") [.int j]⟩ (whTest (blW 1)) σ = some (decide (lo < hi), σ) := by kernel_rfl
theorem bl_m11 : exStep cfg (low cfg cl 11) ⟨namesOf "bisect_left", bv r x (.int lo) (.int hi) (.glob "_law_first") [.int j]⟩ (at' (whBody (blW 1)) 0) σ = ob (binV .FloorDiv (.int (lo + hi)) (.int 2) σ) fun v => M.bind (th false v) fun v => nx (bv r x (.int lo) (.int hi) (.glob "_law_first") [v]) := by kernel_rfl
theorem bl_s311 : exStep cfg (low cfg cl 13) ⟨namesOf "bisect_left", bv r x (.int lo) (.int hi) (.glob "_law_first") [.int j]⟩ (at' (bodyOf "bisect_left") 3) σ = some ((.ret (.int lo), bv r x (.int lo) (.int hi) (.glob "_law_first") [.int j]), σ) := by kernel_rfl
theorem bl_b1 : whBody (blW 1) = [at' (whBody (blW 1)) 0, at' (whBody (blW 1)) 1] := by kernel_rfl
theorem bl_s01 (hv : V) : (low cfg cl 13).ts ⟨namesOf "bisect_left", bv r x (.int lo) hv (.glob "_law_first") []⟩ (ifTest (at' (bodyOf "bisect_left") 0)) σ = some (decide (lo < 0), σ) := by kernel_rfl
theorem bl_s11 : exStep cfg (low cfg cl 13) ⟨namesOf "bisect_left", bv r x (.int lo) (.int hi) (.glob "_law_first") []⟩ (at' (bodyOf "bisect_left") 1) σ = nx (bv r x (.int lo) (.int hi) (.glob "_law_first") []) σ := by kernel_rfl
theorem bl_s1n1 : exStep cfg (low cfg cl 13) ⟨namesOf "bisect_left", bv r x (.int lo) .none (.glob "_law_first") []⟩ (at' (bodyOf "bisect_left") 1) σ = sq (M.bind (callB "len" [.lst r]) fun v => M.bind (th false v) fun v => nx (bv r x (.int lo) v (.glob "_law_first") [])) nx σ := by kernel_rfl
theorem bl_s21 : (low cfg cl 13).ts ⟨namesOf "bisect_left", bv r x (.int lo) (.int hi) (.glob "_law_first") []⟩ (ifTest (at' (bodyOf "bisect_left") 2)) σ = some (false, σ) := by kernel_rfl
theorem bl_c1 : ifElse (at' (bodyOf "bisect_left") 2) = [blW 1] := by kernel_rfl
theorem bl_body : bodyOf "bisect_left" = [at' (bodyOf "bisect_left") 0, at' (bodyOf "bisect_left") 1, at' (bodyOf "bisect_left") 2, at' (bodyOf "bisect_left") 3] := by kernel_rfl
theorem bl_k0 : isIf (at' (bodyOf "bisect_left") 0) ∧ ifElse (at' (bodyOf "bisect_left") 0) = [] ∧ isIf (at' (bodyOf "bisect_left") 2) ∧ isWh (blW 0) ∧ isWh (blW 1) := ⟨by kernel_rfl, by kernel_rfl, by kernel_rfl, by kernel_rfl, by kernel_rfl⟩
noncomputable def brW (k : Nat) : Stmt := at' (if k == 0 then ifThen (at' (bodyOf "bisect_right") 2) else ifElse (at' (bodyOf "bisect_right") 2)) 0
theorem br_t00 : (low cfg cl 12).ts ⟨namesOf "bisect_right", bv r x (.int lo) (.int hi) .none []⟩ (whTest (brW 0)) σ = some (decide (lo < hi), σ) := by kernel_rfl
theorem br_i0 : exStep cfg (low cfg cl 11) ⟨namesOf "bisect_right", bv r x (.int lo) (.int hi) .none [.int mid]⟩ (at' (whBody (brW 0)) 1) σ = ob (ob (indexV (.lst r) (.int mid) σ) fun y => cmpV cfg .Lt x y) fun c => if c then nx (bv r x (.int lo) (.int mid) .none [.int mid]) else nx (bv r x (.int (mid + 1)) (.int hi) .none [.int mid]) := by kernel_rfl
theorem br_m00 : exStep cfg (low cfg cl 11) ⟨namesOf "bisect_right", bv r x (.int lo) (.int hi) .none []⟩ (at' (whBody (brW 0)) 0) σ = ob (binV .FloorDiv (.int (lo + hi)) (.int 2) σ) fun v => M.bind (th false v) fun v => nx (bv r x (.int lo) (.int hi) .none [v]) := by kernel_rfl
theorem br_s300 : exStep cfg (low cfg cl 13) ⟨namesOf "bisect_right", bv r x (.int lo) (.int hi) .none []⟩ (at' (bodyOf "bisect_right") 3) σ = some ((.ret (.int lo), bv r x (.int lo) (.int hi) .none []), σ) := by kernel_rfl
theorem br_t01 : (low cfg cl 12).ts ⟨namesOf "bisect_right", bv r x (.int lo) (.int hi) .none [.int j]⟩ (whTest (brW 0)) σ = some (decide (lo < hi), σ) := by kernel_rfl
theorem br_m01 : exStep cfg (low cfg cl 11) ⟨namesOf "bisect_right", bv r x (.int lo) (.int hi) .none [.int j]⟩ (at' (whBody (brW 0)) 0) σ = ob (binV .FloorDiv (.int (lo + hi)) (.int 2) σ) fun v => M.bind (th false v) fun v => nx (bv r x (.int lo) (.int hi) .none [v]) := by kernel_rfl
theorem br_s301 : exStep cfg (low cfg cl 13) ⟨namesOf "bisect_right", bv r x (.int lo) (.int hi) .none [.int j]⟩ (at' (bodyOf "bisect_right") 3) σ = some ((.ret (.int lo), bv r x (.int lo) (.int hi) .none [.int j]), σ) := by kernel_rfl
theorem br_b0 : whBody (brW 0) = [at' (whBody (brW 0)) 0, at' (whBody (brW 0)) 1] := by kernel_rfl
theorem br_s00 (hv : V) : (low cfg cl 13).ts ⟨namesOf "bisect_right", bv r x (.int lo) hv .none []⟩ (ifTest (at' (bodyOf "bisect_right") 0)) σ = some (decide (lo < 0), σ) := by kernel_rfl
theorem br_s10 : exStep cfg (low cfg cl 13) ⟨namesOf "bisect_right", bv r x (.int lo) (.int hi) .none []⟩ (at' (bodyOf "bisect_right") 1) σ = nx (bv r x (.int lo) (.int hi) .none []) σ := by kernel_rfl
theorem br_s1n0 : exStep cfg (low cfg cl 13) ⟨namesOf "bisect_right", bv r x (.int lo) .none .none []⟩ (at' (bodyOf "bisect_right") 1) σ = sq (M.bind (callB "len" [.lst r]) fun v => M.bind (th false v) fun v => nx (bv r x (.int lo) v .none [])) nx σ := by kernel_rfl
theorem br_s20 : (low cfg cl 13).ts ⟨namesOf "bisect_right", bv r x (.int lo) (.int hi) .none []⟩ (ifTest (at' (bodyOf "bisect_right") 2)) σ = some (true, σ) := by kernel_rfl
theorem br_c0 : ifThen (at' (bodyOf "bisect_right") 2) = [brW 0] := by kernel_rfl
theorem br_t10 : (low cfg cl 12).ts ⟨namesOf "bisect_right", bv r x (.int lo) (.int hi) (.glob "_law_first") []⟩ (whTest (brW 1)) σ = some (decide (lo < hi), σ) := by kernel_rfl
theorem br_i1 : exStep cfg (low cfg cl 11) ⟨namesOf "bisect_right", bv r x (.int lo) (.int hi) (.glob "_law_first") [.int mid]⟩ (at' (whBody (brW 1)) 1) σ = ob (ob (ob (ob (indexV (.lst r) (.int mid) σ) fun y => M.pure [y]) fun vs => cl "_law_first" vs []) fun y => cmpV cfg .Lt x y) fun c => if c then nx (bv r x (.int lo) (.int mid) (.glob "_law_first") [.int mid]) else nx (bv r x (.int (mid + 1)) (.int hi) (.glob "_law_first") [.int mid]) := by kernel_rfl
theorem br_m10 : exStep cfg (low cfg cl 11) ⟨namesOf "bisect_right", bv r x (.int lo) (.int hi) (.glob "_law_first") []⟩ (at' (whBody (brW 1)) 0) σ = ob (binV .FloorDiv (.int (lo + hi)) (.int 2) σ) fun v => M.bind (th false v) fun v => nx (bv r x (.int lo) (.int hi) (.glob "_law_first") [v]) := by kernel_rfl
theorem br_s310 : exStep cfg (low cfg cl 13) ⟨namesOf "bisect_right", bv r x (.int lo) (.int hi) (.glob "_law_first") []⟩ (at' (bodyOf "bisect_right") 3) σ = some ((.ret (.int lo), bv r x (.int lo) (.int hi) (.glob "_law_first") []), σ) := by kernel_rfl
theorem br_t11 : (low cfg cl 12).ts ⟨namesOf "bisect_right", bv r x (.int lo) (.int hi) (.glob "_law_first") [.int j]⟩ (whTest (brW 1)) σ = some (decide (lo < hi), σ) := by kernel_rfl
theorem br_m11 : exStep cfg (low cfg cl 11) ⟨namesOf "bisect_right", bv r x (.int lo) (.int hi) (.glob "_law_first") [.int j]⟩ (at' (whBody (brW 1)) 0) σ = ob (binV .FloorDiv (.int (lo + hi)) (.int 2) σ) fun v => M.bind (th false v) fun v => nx (bv r x (.int lo) (.int hi) (.glob "_law_first") [v]) := by kernel_rfl
theorem br_s311 : exStep cfg (low cfg cl 13) ⟨namesOf "bisect_right", bv r x (.int lo) (.int hi) (.glob "_law_first") [.int j]⟩ (at' (bodyOf "bisect_right") 3) σ = some ((.ret (.int lo), bv r x (.int lo) (.int hi) (.glob "_law_first") [.int j]), σ) := by kernel_rfl
theorem br_b1 : whBody (brW 1) = [at' (whBody (brW 1)) 0, at' (whBody (brW 1)) 1] := by kernel_rfl
theorem br_s01 (hv : V) : (low cfg cl 13).ts ⟨namesOf "bisect_right", bv r x (.int lo) hv (.glob "_law_first") []⟩ (ifTest (at' (bodyOf "bisect_right") 0)) σ = some (decide (lo < 0), σ) := by kernel_rfl
theorem br_s11 : exStep cfg (low cfg cl 13) ⟨namesOf "bisect_right", bv r x (.int lo) (.int hi) (.glob "_law_first") []⟩ (at' (bodyOf "bisect_right") 1) σ = nx (bv r x (.int lo) (.int hi) (.glob "_law_first") []) σ := by kernel_rfl
theorem br_s1n1 : exStep cfg (low cfg cl 13) ⟨namesOf "bisect_right", bv r x (.int lo) .none (.glob "_law_first") []⟩ (at' (bodyOf "bisect_right") 1) σ = sq (M.bind (callB "len" [.lst r]) fun v => M.bind (th false v) fun v => nx (bv r x (.int lo) v (.glob "_law_first") [])) nx σ := by kernel_rfl
theorem br_s21 : (low cfg cl 13).ts ⟨namesOf "bisect_right", bv r x (.int lo) (.int hi) (.glob "_law_first") []⟩ (ifTest (at' (bodyOf "bisect_right") 2)) σ = some (false, σ) := by kernel_rfl
theorem br_c1 : ifElse (at' (bodyOf "bisect_right") 2) = [brW 1] := by kernel_rfl
theorem br_body : bodyOf "bisect_right" = [at' (bodyOf "bisect_right") 0, at' (bodyOf "bisect_right") 1, at' (bodyOf "bisect_right") 2, at' (bodyOf "bisect_right") 3] := by kernel_rfl
theorem br_k0 : isIf (at' (bodyOf "bisect_right") 0) ∧ ifElse (at' (bodyOf "bisect_right") 0) = [] ∧ isIf (at' (bodyOf "bisect_right") 2) ∧ isWh (brW 0) ∧ isWh (brW 1) := ⟨by kernel_rfl, by kernel_rfl, by kernel_rfl, by kernel_rfl, by kernel_rfl⟩
end
theorem bl_loop0 {cl : Str → List V → List (Str × V) → M V} {r : Nat} {x : V} {xs : List V} {lo hi k : Nat} {σ : Sto} (hσ : σ[r]? = some xs) (hl : xs.length < 4096) (H : ∀ i, lo ≤ i → i < hi → ∃ y, xs[i]? = some y ∧ cmpV cfg .Lt y x σ = some (decide (i < k), σ)) (h1 : lo ≤ k) (h2 : k ≤ hi) (h3 : hi ≤ xs.length) :
  ∃ m, Pm m ∧ exStep cfg (low cfg cl 12) ⟨namesOf "bisect_left", bv r x (.int lo) (.int hi) .none []⟩ (blW 0) σ = some ((.next, bv r x (.int k) (.int k) .none m), σ) := by
 obtain ⟨m, hm, h⟩ := bis_loop (rc := low cfg cl 12) (names := namesOf "bisect_left") (t := whTest (blW 0)) (body := whBody (blW 0)) (B := fun a b m => bv r x (.int a) (.int b) .none m) (σ := σ) (k := k) (lo0 := lo) (hi0 := hi) (v0 := bv r x (.int lo) (.int hi) .none [])
  (fun a b m hm => by rcases hm with rfl | ⟨j, rfl⟩; exact bl_t00 .. ; exact bl_t01 ..)
  (fun a b m hm hlt ha hb => by
   have hb4 : b < 4096 := Nat.lt_of_le_of_lt (Nat.le_trans hb h3) hl
   obtain ⟨m1, m2⟩ := half_in hlt
   have e1 : exStep cfg (low cfg cl 11) ⟨namesOf "bisect_left", bv r x (.int a) (.int b) .none m⟩ (at' (whBody (blW 0)) 0) σ = some ((.next, bv r x (.int a) (.int b) .none [.int ((a + b) / 2 : Nat)]), σ) := by
    have e : exStep cfg (low cfg cl 11) ⟨namesOf "bisect_left", bv r x (.int a) (.int b) .none m⟩ (at' (whBody (blW 0)) 0) σ = ob (binV .FloorDiv (.int (a + b)) (.int 2) σ) fun v => M.bind (th false v) fun v => nx (bv r x (.int a) (.int b) .none [v]) := by
     rcases hm with rfl | ⟨j, rfl⟩
     ·exact bl_m00 ..
     ·exact bl_m01 ..
    rw [e, o_div (small_nn (Nat.lt_trans hlt hb4) hb4) (by decide) rfl, ob_some, half]; rfl
   obtain ⟨y, hy, hc⟩ := H ((a + b) / 2) (Nat.le_trans ha m1) (Nat.lt_of_lt_of_le m2 hb)
   have e2 := bl_i0 cl r x a b ((a + b) / 2 : Nat) σ
   rw [ix_lst (Int.natCast_nonneg _) (lt62 (Nat.lt_trans m2 hb4)), hσ, lookR_some, ob_some, Int.toNat_natCast, hy, of_some, ob_some, hc, ob_some] at e2
   show exAll cfg (low cfg cl 11) _ (whBody (blW 0)) σ = _
   rw [bl_b0]
   refine x_next _ _ _ _ _ e1 (x_one (e2.trans ?_))
   by_cases q : (a + b) / 2 < k
   ·rw [if_pos (decide_eq_true q), if_pos q]; rfl
   ·rw [if_neg (by simpa using q), if_neg q]; rfl)
  h1 h2 (Nat.lt_of_le_of_lt h3 hl)
 exact ⟨m, hm, (g_while bl_k0.2.2.2.1 σ).trans h⟩
theorem bl_call0 {r : Nat} {x hv : V} {xs : List V} {lo hi k : Nat} {σ : Sto} {pos : List V} {kw : List (Str × V)} {K : Nat}  (hd : callHead cfg "bisect_left" pos kw = some (namesOf "bisect_left", bodyOf "bisect_left", bv r x (.int lo) hv .none [])) (hσ : σ[r]? = some xs) (hl : xs.length < 4096) (hh : hv = .int hi ∨ (hv = .none ∧ hi = xs.length))
  (H : ∀ i, lo ≤ i → i < hi → ∃ y, xs[i]? = some y ∧ cmpV cfg .Lt y x σ = some (decide (i < k), σ)) (h1 : lo ≤ k) (h2 : k ≤ hi) (h3 : hi ≤ xs.length) (hK : 14 < K) : (tie cfg K).call "bisect_left" pos kw σ = some (.int k, σ) := by
 obtain ⟨m, hm, h⟩ := bl_loop0 (cl := (tie cfg 0).call) hσ hl H h1 h2 h3
 have s1 : exStep cfg (low cfg (tie cfg 0).call 13) ⟨namesOf "bisect_left", bv r x (.int lo) hv .none []⟩ (at' (bodyOf "bisect_left") 1) σ = some ((.next, bv r x (.int lo) (.int hi) .none []), σ) := by
  rcases hh with rfl | ⟨rfl, rfl⟩
  ·exact bl_s10 ..
  ·rw [bl_s1n0]; unfold sq; rw [bind_app, bind_app, b_len_lst, hσ, lookR_some, ob_some, if_pos (by lia)]; rfl
 have s3 : exStep cfg (low cfg (tie cfg 0).call 13) ⟨namesOf "bisect_left", bv r x (.int k) (.int k) .none m⟩ (at' (bodyOf "bisect_left") 3) σ = some ((.ret (.int k), bv r x (.int k) (.int k) .none m), σ) := by
  rcases hm with rfl | ⟨j, rfl⟩
  ·exact bl_s300 ..
  ·exact bl_s301 ..
 refine call_run (n := 14) (m := 0) hd (by lia) (vars' := bv r x (.int k) (.int k) .none m) ?_
 show exAll cfg (low cfg (tie cfg 0).call 13) _ (bodyOf "bisect_left") σ = _
 rw [bl_body]
 refine x_next _ _ _ _ _ (if_not bl_k0.1 bl_k0.2.1 ((bl_s00 ..).trans (by rw [decide_eq_false (by lia)]))) (x_next _ _ _ _ _ s1 (x_next _ _ _ _ _ (if_yes bl_k0.2.2.1 (bl_s20 ..) ?_) (x_ret _ _ _ _ _ s3)))
 rw [bl_c0]
 exact x_one h
theorem bl_loop1 {cl : Str → List V → List (Str × V) → M V} {r : Nat} {x : V} {xs : List V} {lo hi k : Nat} {σ : Sto} (hσ : σ[r]? = some xs) (hl : xs.length < 4096) (H : ∀ i, lo ≤ i → i < hi → Ex2 fun y kv => xs[i]? = some y ∧ cl "_law_first" [y] [] σ = some (kv, σ) ∧ cmpV cfg .Lt kv x σ = some (decide (i < k), σ)) (h1 : lo ≤ k) (h2 : k ≤ hi) (h3 : hi ≤ xs.length) :
  ∃ m, Pm m ∧ exStep cfg (low cfg cl 12) ⟨namesOf "bisect_left", bv r x (.int lo) (.int hi) (.glob "_law_first") []⟩ (blW 1) σ = some ((.next, bv r x (.int k) (.int k) (.glob "_law_first") m), σ) := by
 obtain ⟨m, hm, h⟩ := bis_loop (rc := low cfg cl 12) (names := namesOf "bisect_left") (t := whTest (blW 1)) (body := whBody (blW 1)) (B := fun a b m => bv r x (.int a) (.int b) (.glob "_law_first") m) (σ := σ) (k := k) (lo0 := lo) (hi0 := hi) (v0 := bv r x (.int lo) (.int hi) (.glob "_law_first") [])
  (fun a b m hm => by rcases hm with rfl | ⟨j, rfl⟩; exact bl_t10 .. ; exact bl_t11 ..)
  (fun a b m hm hlt ha hb => by
   have hb4 : b < 4096 := Nat.lt_of_le_of_lt (Nat.le_trans hb h3) hl
   obtain ⟨m1, m2⟩ := half_in hlt
   have e1 : exStep cfg (low cfg cl 11) ⟨namesOf "bisect_left", bv r x (.int a) (.int b) (.glob "_law_first") m⟩ (at' (whBody (blW 1)) 0) σ = some ((.next, bv r x (.int a) (.int b) (.glob "_law_first") [.int ((a + b) / 2 : Nat)]), σ) := by
    have e : exStep cfg (low cfg cl 11) ⟨namesOf "bisect_left", bv r x (.int a) (.int b) (.glob "_law_first") m⟩ (at' (whBody (blW 1)) 0) σ = ob (binV .FloorDiv (.int (a + b)) (.int 2) σ) fun v => M.bind (th false v) fun v => nx (bv r x (.int a) (.int b) (.glob "_law_first") [v]) := by
     rcases hm with rfl | ⟨j, rfl⟩
     ·exact bl_m10 ..
     ·exact bl_m11 ..
    rw [e, o_div (small_nn (Nat.lt_trans hlt hb4) hb4) (by decide) rfl, ob_some, half]; rfl
   obtain ⟨y, kv, hy, hy2, hc⟩ := H ((a + b) / 2) (Nat.le_trans ha m1) (Nat.lt_of_lt_of_le m2 hb)
   have e2 := bl_i1 cl r x a b ((a + b) / 2 : Nat) σ
   rw [ix_lst (Int.natCast_nonneg _) (lt62 (Nat.lt_trans m2 hb4)), hσ, lookR_some, ob_some, Int.toNat_natCast, hy, of_some, ob_some, pure_app, ob_some, hy2, ob_some, hc, ob_some] at e2
   show exAll cfg (low cfg cl 11) _ (whBody (blW 1)) σ = _
   rw [bl_b1]
   refine x_next _ _ _ _ _ e1 (x_one (e2.trans ?_))
   by_cases q : (a + b) / 2 < k
   ·rw [if_pos (decide_eq_true q), if_pos q]; rfl
   ·rw [if_neg (by simpa using q), if_neg q]; rfl)
  h1 h2 (Nat.lt_of_le_of_lt h3 hl)
 exact ⟨m, hm, (g_while bl_k0.2.2.2.2 σ).trans h⟩
theorem bl_call1 {r : Nat} {x hv : V} {xs : List V} {lo hi k : Nat} {σ : Sto} {pos : List V} {kw : List (Str × V)} {K : Nat} {M : Nat} (hd : callHead cfg "bisect_left" pos kw = some (namesOf "bisect_left", bodyOf "bisect_left", bv r x (.int lo) hv (.glob "_law_first") [])) (hσ : σ[r]? = some xs) (hl : xs.length < 4096) (hh : hv = .int hi ∨ (hv = .none ∧ hi = xs.length))
  (H : ∀ i, lo ≤ i → i < hi → Ex2 fun y kv => xs[i]? = some y ∧ (tie cfg M).call "_law_first" [y] [] σ = some (kv, σ) ∧ cmpV cfg .Lt kv x σ = some (decide (i < k), σ)) (h1 : lo ≤ k) (h2 : k ≤ hi) (h3 : hi ≤ xs.length) (hK : 14 + M < K) : (tie cfg K).call "bisect_left" pos kw σ = some (.int k, σ) := by
 obtain ⟨m, hm, h⟩ := bl_loop1 (cl := (tie cfg M).call) hσ hl H h1 h2 h3
 have s1 : exStep cfg (low cfg (tie cfg M).call 13) ⟨namesOf "bisect_left", bv r x (.int lo) hv (.glob "_law_first") []⟩ (at' (bodyOf "bisect_left") 1) σ = some ((.next, bv r x (.int lo) (.int hi) (.glob "_law_first") []), σ) := by
  rcases hh with rfl | ⟨rfl, rfl⟩
  ·exact bl_s11 ..
  ·rw [bl_s1n1]; unfold sq; rw [bind_app, bind_app, b_len_lst, hσ, lookR_some, ob_some, if_pos (by lia)]; rfl
 have s3 : exStep cfg (low cfg (tie cfg M).call 13) ⟨namesOf "bisect_left", bv r x (.int k) (.int k) (.glob "_law_first") m⟩ (at' (bodyOf "bisect_left") 3) σ = some ((.ret (.int k), bv r x (.int k) (.int k) (.glob "_law_first") m), σ) := by
  rcases hm with rfl | ⟨j, rfl⟩
  ·exact bl_s310 ..
  ·exact bl_s311 ..
 refine call_run (n := 14) (m := M) hd (by lia) (vars' := bv r x (.int k) (.int k) (.glob "_law_first") m) ?_
 show exAll cfg (low cfg (tie cfg M).call 13) _ (bodyOf "bisect_left") σ = _
 rw [bl_body]
 refine x_next _ _ _ _ _ (if_not bl_k0.1 bl_k0.2.1 ((bl_s01 ..).trans (by rw [decide_eq_false (by lia)]))) (x_next _ _ _ _ _ s1 (x_next _ _ _ _ _ (if_no bl_k0.2.2.1 (bl_s21 ..) ?_) (x_ret _ _ _ _ _ s3)))
 rw [bl_c1]
 exact x_one h
theorem br_loop0 {cl : Str → List V → List (Str × V) → M V} {r : Nat} {x : V} {xs : List V} {lo hi k : Nat} {σ : Sto} (hσ : σ[r]? = some xs) (hl : xs.length < 4096) (H : ∀ i, lo ≤ i → i < hi → ∃ y, xs[i]? = some y ∧ cmpV cfg .Lt x y σ = some (decide (k ≤ i), σ)) (h1 : lo ≤ k) (h2 : k ≤ hi) (h3 : hi ≤ xs.length) :
  ∃ m, Pm m ∧ exStep cfg (low cfg cl 12) ⟨namesOf "bisect_right", bv r x (.int lo) (.int hi) .none []⟩ (brW 0) σ = some ((.next, bv r x (.int k) (.int k) .none m), σ) := by
 obtain ⟨m, hm, h⟩ := bis_loop (rc := low cfg cl 12) (names := namesOf "bisect_right") (t := whTest (brW 0)) (body := whBody (brW 0)) (B := fun a b m => bv r x (.int a) (.int b) .none m) (σ := σ) (k := k) (lo0 := lo) (hi0 := hi) (v0 := bv r x (.int lo) (.int hi) .none [])
  (fun a b m hm => by rcases hm with rfl | ⟨j, rfl⟩; exact br_t00 .. ; exact br_t01 ..)
  (fun a b m hm hlt ha hb => by
   have hb4 : b < 4096 := Nat.lt_of_le_of_lt (Nat.le_trans hb h3) hl
   obtain ⟨m1, m2⟩ := half_in hlt
   have e1 : exStep cfg (low cfg cl 11) ⟨namesOf "bisect_right", bv r x (.int a) (.int b) .none m⟩ (at' (whBody (brW 0)) 0) σ = some ((.next, bv r x (.int a) (.int b) .none [.int ((a + b) / 2 : Nat)]), σ) := by
    have e : exStep cfg (low cfg cl 11) ⟨namesOf "bisect_right", bv r x (.int a) (.int b) .none m⟩ (at' (whBody (brW 0)) 0) σ = ob (binV .FloorDiv (.int (a + b)) (.int 2) σ) fun v => M.bind (th false v) fun v => nx (bv r x (.int a) (.int b) .none [v]) := by
     rcases hm with rfl | ⟨j, rfl⟩
     ·exact br_m00 ..
     ·exact br_m01 ..
    rw [e, o_div (small_nn (Nat.lt_trans hlt hb4) hb4) (by decide) rfl, ob_some, half]; rfl
   obtain ⟨y, hy, hc⟩ := H ((a + b) / 2) (Nat.le_trans ha m1) (Nat.lt_of_lt_of_le m2 hb)
   have e2 := br_i0 cl r x a b ((a + b) / 2 : Nat) σ
   rw [ix_lst (Int.natCast_nonneg _) (lt62 (Nat.lt_trans m2 hb4)), hσ, lookR_some, ob_some, Int.toNat_natCast, hy, of_some, ob_some, hc, ob_some] at e2
   show exAll cfg (low cfg cl 11) _ (whBody (brW 0)) σ = _
   rw [br_b0]
   refine x_next _ _ _ _ _ e1 (x_one (e2.trans ?_))
   by_cases q : (a + b) / 2 < k
   ·rw [if_neg (by simpa using q), if_pos q]; rfl
   ·rw [if_pos (decide_eq_true (by lia)), if_neg q]; rfl)
  h1 h2 (Nat.lt_of_le_of_lt h3 hl)
 exact ⟨m, hm, (g_while br_k0.2.2.2.1 σ).trans h⟩
theorem br_call0 {r : Nat} {x hv : V} {xs : List V} {lo hi k : Nat} {σ : Sto} {pos : List V} {kw : List (Str × V)} {K : Nat}  (hd : callHead cfg "bisect_right" pos kw = some (namesOf "bisect_right", bodyOf "bisect_right", bv r x (.int lo) hv .none [])) (hσ : σ[r]? = some xs) (hl : xs.length < 4096) (hh : hv = .int hi ∨ (hv = .none ∧ hi = xs.length))
  (H : ∀ i, lo ≤ i → i < hi → ∃ y, xs[i]? = some y ∧ cmpV cfg .Lt x y σ = some (decide (k ≤ i), σ)) (h1 : lo ≤ k) (h2 : k ≤ hi) (h3 : hi ≤ xs.length) (hK : 14 < K) : (tie cfg K).call "bisect_right" pos kw σ = some (.int k, σ) := by
 obtain ⟨m, hm, h⟩ := br_loop0 (cl := (tie cfg 0).call) hσ hl H h1 h2 h3
 have s1 : exStep cfg (low cfg (tie cfg 0).call 13) ⟨namesOf "bisect_right", bv r x (.int lo) hv .none []⟩ (at' (bodyOf "bisect_right") 1) σ = some ((.next, bv r x (.int lo) (.int hi) .none []), σ) := by
  rcases hh with rfl | ⟨rfl, rfl⟩
  ·exact br_s10 ..
  ·rw [br_s1n0]; unfold sq; rw [bind_app, bind_app, b_len_lst, hσ, lookR_some, ob_some, if_pos (by lia)]; rfl
 have s3 : exStep cfg (low cfg (tie cfg 0).call 13) ⟨namesOf "bisect_right", bv r x (.int k) (.int k) .none m⟩ (at' (bodyOf "bisect_right") 3) σ = some ((.ret (.int k), bv r x (.int k) (.int k) .none m), σ) := by
  rcases hm with rfl | ⟨j, rfl⟩
  ·exact br_s300 ..
  ·exact br_s301 ..
 refine call_run (n := 14) (m := 0) hd (by lia) (vars' := bv r x (.int k) (.int k) .none m) ?_
 show exAll cfg (low cfg (tie cfg 0).call 13) _ (bodyOf "bisect_right") σ = _
 rw [br_body]
 refine x_next _ _ _ _ _ (if_not br_k0.1 br_k0.2.1 ((br_s00 ..).trans (by rw [decide_eq_false (by lia)]))) (x_next _ _ _ _ _ s1 (x_next _ _ _ _ _ (if_yes br_k0.2.2.1 (br_s20 ..) ?_) (x_ret _ _ _ _ _ s3)))
 rw [br_c0]
 exact x_one h
theorem br_loop1 {cl : Str → List V → List (Str × V) → M V} {r : Nat} {x : V} {xs : List V} {lo hi k : Nat} {σ : Sto} (hσ : σ[r]? = some xs) (hl : xs.length < 4096) (H : ∀ i, lo ≤ i → i < hi → Ex2 fun y kv => xs[i]? = some y ∧ cl "_law_first" [y] [] σ = some (kv, σ) ∧ cmpV cfg .Lt x kv σ = some (decide (k ≤ i), σ)) (h1 : lo ≤ k) (h2 : k ≤ hi) (h3 : hi ≤ xs.length) :
  ∃ m, Pm m ∧ exStep cfg (low cfg cl 12) ⟨namesOf "bisect_right", bv r x (.int lo) (.int hi) (.glob "_law_first") []⟩ (brW 1) σ = some ((.next, bv r x (.int k) (.int k) (.glob "_law_first") m), σ) := by
 obtain ⟨m, hm, h⟩ := bis_loop (rc := low cfg cl 12) (names := namesOf "bisect_right") (t := whTest (brW 1)) (body := whBody (brW 1)) (B := fun a b m => bv r x (.int a) (.int b) (.glob "_law_first") m) (σ := σ) (k := k) (lo0 := lo) (hi0 := hi) (v0 := bv r x (.int lo) (.int hi) (.glob "_law_first") [])
  (fun a b m hm => by rcases hm with rfl | ⟨j, rfl⟩; exact br_t10 .. ; exact br_t11 ..)
  (fun a b m hm hlt ha hb => by
   have hb4 : b < 4096 := Nat.lt_of_le_of_lt (Nat.le_trans hb h3) hl
   obtain ⟨m1, m2⟩ := half_in hlt
   have e1 : exStep cfg (low cfg cl 11) ⟨namesOf "bisect_right", bv r x (.int a) (.int b) (.glob "_law_first") m⟩ (at' (whBody (brW 1)) 0) σ = some ((.next, bv r x (.int a) (.int b) (.glob "_law_first") [.int ((a + b) / 2 : Nat)]), σ) := by
    have e : exStep cfg (low cfg cl 11) ⟨namesOf "bisect_right", bv r x (.int a) (.int b) (.glob "_law_first") m⟩ (at' (whBody (brW 1)) 0) σ = ob (binV .FloorDiv (.int (a + b)) (.int 2) σ) fun v => M.bind (th false v) fun v => nx (bv r x (.int a) (.int b) (.glob "_law_first") [v]) := by
     rcases hm with rfl | ⟨j, rfl⟩
     ·exact br_m10 ..
     ·exact br_m11 ..
    rw [e, o_div (small_nn (Nat.lt_trans hlt hb4) hb4) (by decide) rfl, ob_some, half]; rfl
   obtain ⟨y, kv, hy, hy2, hc⟩ := H ((a + b) / 2) (Nat.le_trans ha m1) (Nat.lt_of_lt_of_le m2 hb)
   have e2 := br_i1 cl r x a b ((a + b) / 2 : Nat) σ
   rw [ix_lst (Int.natCast_nonneg _) (lt62 (Nat.lt_trans m2 hb4)), hσ, lookR_some, ob_some, Int.toNat_natCast, hy, of_some, ob_some, pure_app, ob_some, hy2, ob_some, hc, ob_some] at e2
   show exAll cfg (low cfg cl 11) _ (whBody (brW 1)) σ = _
   rw [br_b1]
   refine x_next _ _ _ _ _ e1 (x_one (e2.trans ?_))
   by_cases q : (a + b) / 2 < k
   ·rw [if_neg (by simpa using q), if_pos q]; rfl
   ·rw [if_pos (decide_eq_true (by lia)), if_neg q]; rfl)
  h1 h2 (Nat.lt_of_le_of_lt h3 hl)
 exact ⟨m, hm, (g_while br_k0.2.2.2.2 σ).trans h⟩
theorem br_call1 {r : Nat} {x hv : V} {xs : List V} {lo hi k : Nat} {σ : Sto} {pos : List V} {kw : List (Str × V)} {K : Nat} {M : Nat} (hd : callHead cfg "bisect_right" pos kw = some (namesOf "bisect_right", bodyOf "bisect_right", bv r x (.int lo) hv (.glob "_law_first") [])) (hσ : σ[r]? = some xs) (hl : xs.length < 4096) (hh : hv = .int hi ∨ (hv = .none ∧ hi = xs.length))
  (H : ∀ i, lo ≤ i → i < hi → Ex2 fun y kv => xs[i]? = some y ∧ (tie cfg M).call "_law_first" [y] [] σ = some (kv, σ) ∧ cmpV cfg .Lt x kv σ = some (decide (k ≤ i), σ)) (h1 : lo ≤ k) (h2 : k ≤ hi) (h3 : hi ≤ xs.length) (hK : 14 + M < K) : (tie cfg K).call "bisect_right" pos kw σ = some (.int k, σ) := by
 obtain ⟨m, hm, h⟩ := br_loop1 (cl := (tie cfg M).call) hσ hl H h1 h2 h3
 have s1 : exStep cfg (low cfg (tie cfg M).call 13) ⟨namesOf "bisect_right", bv r x (.int lo) hv (.glob "_law_first") []⟩ (at' (bodyOf "bisect_right") 1) σ = some ((.next, bv r x (.int lo) (.int hi) (.glob "_law_first") []), σ) := by
  rcases hh with rfl | ⟨rfl, rfl⟩
  ·exact br_s11 ..
  ·rw [br_s1n1]; unfold sq; rw [bind_app, bind_app, b_len_lst, hσ, lookR_some, ob_some, if_pos (by lia)]; rfl
 have s3 : exStep cfg (low cfg (tie cfg M).call 13) ⟨namesOf "bisect_right", bv r x (.int k) (.int k) (.glob "_law_first") m⟩ (at' (bodyOf "bisect_right") 3) σ = some ((.ret (.int k), bv r x (.int k) (.int k) (.glob "_law_first") m), σ) := by
  rcases hm with rfl | ⟨j, rfl⟩
  ·exact br_s310 ..
  ·exact br_s311 ..
 refine call_run (n := 14) (m := M) hd (by lia) (vars' := bv r x (.int k) (.int k) (.glob "_law_first") m) ?_
 show exAll cfg (low cfg (tie cfg M).call 13) _ (bodyOf "bisect_right") σ = _
 rw [br_body]
 refine x_next _ _ _ _ _ (if_not br_k0.1 br_k0.2.1 ((br_s01 ..).trans (by rw [decide_eq_false (by lia)]))) (x_next _ _ _ _ _ s1 (x_next _ _ _ _ _ (if_no br_k0.2.2.1 (br_s21 ..) ?_) (x_ret _ _ _ _ _ s3)))
 rw [br_c1]
 exact x_one h
theorem first_10 (v : V) (vs : List V) (σ : Sto) : (tie cfg 10).call "_law_first" [.tup (v :: vs)] [] σ = some (v, σ) := by kernel_rfl
theorem first_ok {n : Nat} (h : 10 ≤ n) (v : V) (vs : List V) (σ : Sto) : (tie cfg n).call "_law_first" [.tup (v :: vs)] [] σ = some (v, σ) := (tie_mono cfg h).call _ _ _ _ _ (first_10 v vs σ)
section
variable (cl : Str → List V → List (Str × V) → M V) (r : Nat) (x : V) (lo hv : V) (i : Int) (σ : Sto)
theorem nl_body : bodyOf "insort_left" = [at' (bodyOf "insort_left") 0, at' (bodyOf "insort_left") 1] := by kernel_rfl
theorem nl_s00 : exStep cfg (low cfg cl 12) ⟨namesOf "insort_left", bv r x lo hv .none []⟩ (at' (bodyOf "insort_left") 0) σ = sq (M.bind (cl "bisect_left" [.lst r, x, lo, hv] []) fun v => M.bind (th false v) fun v => nx (bv r x v hv .none [])) nx σ := by kernel_rfl
theorem nl_s10 : exStep cfg (low cfg cl 12) ⟨namesOf "insort_left", bv r x (.int i) hv .none []⟩ (at' (bodyOf "insort_left") 1) σ = ob (callMth cfg (.lst r) "insert" [.int i, x] σ) fun _ => nx (bv r x (.int i) hv .none []) := by kernel_rfl
theorem nl_s01 : exStep cfg (low cfg cl 12) ⟨namesOf "insort_left", bv r x lo hv (.glob "_law_first") []⟩ (at' (bodyOf "insort_left") 0) σ = sq (M.bind (M.bind (M.bind (M.bind (cl "_law_first" [x] []) fun kx => M.pure [kx, lo, hv]) fun vs => M.pure (.lst r :: vs)) fun vs => cl "bisect_left" vs [("key", (.glob "_law_first"))]) fun v => M.bind (th false v) fun v => nx (bv r x v hv (.glob "_law_first") [])) nx σ := by kernel_rfl
theorem nl_s11 : exStep cfg (low cfg cl 12) ⟨namesOf "insort_left", bv r x (.int i) hv (.glob "_law_first") []⟩ (at' (bodyOf "insort_left") 1) σ = ob (callMth cfg (.lst r) "insert" [.int i, x] σ) fun _ => nx (bv r x (.int i) hv (.glob "_law_first") []) := by kernel_rfl
theorem nr_body : bodyOf "insort_right" = [at' (bodyOf "insort_right") 0, at' (bodyOf "insort_right") 1] := by kernel_rfl
theorem nr_s00 : exStep cfg (low cfg cl 12) ⟨namesOf "insort_right", bv r x lo hv .none []⟩ (at' (bodyOf "insort_right") 0) σ = sq (M.bind (cl "bisect_right" [.lst r, x, lo, hv] []) fun v => M.bind (th false v) fun v => nx (bv r x v hv .none [])) nx σ := by kernel_rfl
theorem nr_s10 : exStep cfg (low cfg cl 12) ⟨namesOf "insort_right", bv r x (.int i) hv .none []⟩ (at' (bodyOf "insort_right") 1) σ = ob (callMth cfg (.lst r) "insert" [.int i, x] σ) fun _ => nx (bv r x (.int i) hv .none []) := by kernel_rfl
theorem nr_s01 : exStep cfg (low cfg cl 12) ⟨namesOf "insort_right", bv r x lo hv (.glob "_law_first") []⟩ (at' (bodyOf "insort_right") 0) σ = sq (M.bind (M.bind (M.bind (M.bind (cl "_law_first" [x] []) fun kx => M.pure [kx, lo, hv]) fun vs => M.pure (.lst r :: vs)) fun vs => cl "bisect_right" vs [("key", (.glob "_law_first"))]) fun v => M.bind (th false v) fun v => nx (bv r x v hv (.glob "_law_first") [])) nx σ := by kernel_rfl
theorem nr_s11 : exStep cfg (low cfg cl 12) ⟨namesOf "insort_right", bv r x (.int i) hv (.glob "_law_first") []⟩ (at' (bodyOf "insort_right") 1) σ = ob (callMth cfg (.lst r) "insert" [.int i, x] σ) fun _ => nx (bv r x (.int i) hv (.glob "_law_first") []) := by kernel_rfl
end
theorem nl_call0 {r : Nat} {x hv : V} {xs : List V} {lo hi k : Nat} {σ : Sto} {pos : List V} {kw : List (Str × V)} {K : Nat}  (hd : callHead cfg "insort_left" pos kw = some (namesOf "insort_left", bodyOf "insort_left", bv r x (.int lo) hv .none [])) (hσ : σ[r]? = some xs) (hl : xs.length < 4095) (hh : hv = .int hi ∨ (hv = .none ∧ hi = xs.length))
  (H : ∀ i, lo ≤ i → i < hi → ∃ y, xs[i]? = some y ∧ cmpV cfg .Lt y x σ = some (decide (i < k), σ)) (h1 : lo ≤ k) (h2 : k ≤ hi) (h3 : hi ≤ xs.length) (hK : 43 < K) : (tie cfg K).call "insort_left" pos kw σ = some (.none, σ.set r (insertAt k x xs)) := by
 have e : (tie cfg 30).call "bisect_left" [.lst r, x, .int lo, hv] [] σ = some (.int k, σ) := bl_call0 (lo := lo) (hv := hv) (hi := hi) (by kernel_rfl) hσ (by lia) hh H h1 h2 h3 (by decide)
 have s0 := nl_s00 (tie cfg 30).call r x (.int lo) hv σ
 unfold sq at s0
 rw [bind_app, bind_app, e, ob_some] at s0
 have s1 := nl_s10 (tie cfg 30).call r x hv k σ
 rw [mth_insert cfg hσ (by lia) (by lia), ob_some] at s1
 refine call_run0 (n := 13) (m := 30) hd (by lia) (vars' := bv r x (.int k) hv .none []) ?_
 show exAll cfg (low cfg (tie cfg 30).call 12) _ (bodyOf "insort_left") σ = _
 rw [nl_body]
 exact x_next _ _ _ _ _ s0 (x_one s1)
theorem nl_call1 {r : Nat} {x hv : V} {xs : List V} {lo hi k : Nat} {σ : Sto} {pos : List V} {kw : List (Str × V)} {K : Nat} {kx : V} (hd : callHead cfg "insort_left" pos kw = some (namesOf "insort_left", bodyOf "insort_left", bv r x (.int lo) hv (.glob "_law_first") [])) (hσ : σ[r]? = some xs) (hl : xs.length < 4095) (hh : hv = .int hi ∨ (hv = .none ∧ hi = xs.length))
  (hx : (tie cfg 12).call "_law_first" [x] [] σ = some (kx, σ)) (H : ∀ i, lo ≤ i → i < hi → Ex2 fun y kv => xs[i]? = some y ∧ (tie cfg 12).call "_law_first" [y] [] σ = some (kv, σ) ∧ cmpV cfg .Lt kv kx σ = some (decide (i < k), σ)) (h1 : lo ≤ k) (h2 : k ≤ hi) (h3 : hi ≤ xs.length) (hK : 43 < K) : (tie cfg K).call "insort_left" pos kw σ = some (.none, σ.set r (insertAt k x xs)) := by
 have e : (tie cfg 30).call "bisect_left" [.lst r, kx, .int lo, hv] [("key", (.glob "_law_first"))] σ = some (.int k, σ) := bl_call1 (M := 12) (lo := lo) (hv := hv) (hi := hi) (by kernel_rfl) hσ (by lia) hh H h1 h2 h3 (by decide)
 have s0 := nl_s01 (tie cfg 30).call r x (.int lo) hv σ
 unfold sq at s0
 rw [bind_app, bind_app, bind_app, bind_app, bind_app, (tie_mono cfg (show 12 ≤ 30 by decide)).call _ _ _ _ _ hx, ob_some, pure_app, ob_some, pure_app, ob_some, e, ob_some] at s0
 have s1 := nl_s11 (tie cfg 30).call r x hv k σ
 rw [mth_insert cfg hσ (by lia) (by lia), ob_some] at s1
 refine call_run0 (n := 13) (m := 30) hd (by lia) (vars' := bv r x (.int k) hv (.glob "_law_first") []) ?_
 show exAll cfg (low cfg (tie cfg 30).call 12) _ (bodyOf "insort_left") σ = _
 rw [nl_body]
 exact x_next _ _ _ _ _ s0 (x_one s1)
theorem nr_call0 {r : Nat} {x hv : V} {xs : List V} {lo hi k : Nat} {σ : Sto} {pos : List V} {kw : List (Str × V)} {K : Nat}  (hd : callHead cfg "insort_right" pos kw = some (namesOf "insort_right", bodyOf "insort_right", bv r x (.int lo) hv .none [])) (hσ : σ[r]? = some xs) (hl : xs.length < 4095) (hh : hv = .int hi ∨ (hv = .none ∧ hi = xs.length))
  (H : ∀ i, lo ≤ i → i < hi → ∃ y, xs[i]? = some y ∧ cmpV cfg .Lt x y σ = some (decide (k ≤ i), σ)) (h1 : lo ≤ k) (h2 : k ≤ hi) (h3 : hi ≤ xs.length) (hK : 43 < K) : (tie cfg K).call "insort_right" pos kw σ = some (.none, σ.set r (insertAt k x xs)) := by
 have e : (tie cfg 30).call "bisect_right" [.lst r, x, .int lo, hv] [] σ = some (.int k, σ) := br_call0 (lo := lo) (hv := hv) (hi := hi) (by kernel_rfl) hσ (by lia) hh H h1 h2 h3 (by decide)
 have s0 := nr_s00 (tie cfg 30).call r x (.int lo) hv σ
 unfold sq at s0
 rw [bind_app, bind_app, e, ob_some] at s0
 have s1 := nr_s10 (tie cfg 30).call r x hv k σ
 rw [mth_insert cfg hσ (by lia) (by lia), ob_some] at s1
 refine call_run0 (n := 13) (m := 30) hd (by lia) (vars' := bv r x (.int k) hv .none []) ?_
 show exAll cfg (low cfg (tie cfg 30).call 12) _ (bodyOf "insort_right") σ = _
 rw [nr_body]
 exact x_next _ _ _ _ _ s0 (x_one s1)
theorem nr_call1 {r : Nat} {x hv : V} {xs : List V} {lo hi k : Nat} {σ : Sto} {pos : List V} {kw : List (Str × V)} {K : Nat} {kx : V} (hd : callHead cfg "insort_right" pos kw = some (namesOf "insort_right", bodyOf "insort_right", bv r x (.int lo) hv (.glob "_law_first") [])) (hσ : σ[r]? = some xs) (hl : xs.length < 4095) (hh : hv = .int hi ∨ (hv = .none ∧ hi = xs.length))
  (hx : (tie cfg 12).call "_law_first" [x] [] σ = some (kx, σ)) (H : ∀ i, lo ≤ i → i < hi → Ex2 fun y kv => xs[i]? = some y ∧ (tie cfg 12).call "_law_first" [y] [] σ = some (kv, σ) ∧ cmpV cfg .Lt kx kv σ = some (decide (k ≤ i), σ)) (h1 : lo ≤ k) (h2 : k ≤ hi) (h3 : hi ≤ xs.length) (hK : 43 < K) : (tie cfg K).call "insort_right" pos kw σ = some (.none, σ.set r (insertAt k x xs)) := by
 have e : (tie cfg 30).call "bisect_right" [.lst r, kx, .int lo, hv] [("key", (.glob "_law_first"))] σ = some (.int k, σ) := br_call1 (M := 12) (lo := lo) (hv := hv) (hi := hi) (by kernel_rfl) hσ (by lia) hh H h1 h2 h3 (by decide)
 have s0 := nr_s01 (tie cfg 30).call r x (.int lo) hv σ
 unfold sq at s0
 rw [bind_app, bind_app, bind_app, bind_app, bind_app, (tie_mono cfg (show 12 ≤ 30 by decide)).call _ _ _ _ _ hx, ob_some, pure_app, ob_some, pure_app, ob_some, e, ob_some] at s0
 have s1 := nr_s11 (tie cfg 30).call r x hv k σ
 rw [mth_insert cfg hσ (by lia) (by lia), ob_some] at s1
 refine call_run0 (n := 13) (m := 30) hd (by lia) (vars' := bv r x (.int k) hv (.glob "_law_first") []) ?_
 show exAll cfg (low cfg (tie cfg 30).call 12) _ (bodyOf "insort_right") σ = _
 rw [nr_body]
 exact x_next _ _ _ _ _ s0 (x_one s1)
noncomputable def apV : V := .bytes #[65, 66, 67, 68, 69, 70, 71, 72, 73, 74, 75, 76, 77, 78, 79, 80]
noncomputable def av (n val : V) (m : List V) : Vars := ([("num", n), ("val", val), ("AP", apV)] : Vars) ++ m.map fun v => (("mod" : Str), v)
noncomputable def apS (i : Nat) : Stmt := at' (bodyOf "Int2AP") i
noncomputable def apB (i : Nat) : Stmt := at' (whBody (apS 3)) i
theorem ap_slice (σ : Sto) : ((List.range 16).map fun (m : Nat) => sliceV apV (.int m) (.int (m + 1)) .none σ) = (List.range 16).map fun (m : Nat) => some (.bytes [UInt8.ofNat (65 + m)].toArray, σ) := by kernel_rfl
theorem ap_cut {m : Nat} (h : m < 16) (σ : Sto) : sliceV apV (.int m) (.int (m + 1)) .none σ = some (.bytes [UInt8.ofNat (65 + m)].toArray, σ) := List.map_inj_left.mp (ap_slice σ) m (List.mem_range.mpr h)
section
variable (cl : Str → List V → List (Str × V) → M V) (n i j : Int) (v : V) (σ : Sto)
theorem ap_t0 : (low cfg cl 14).ts ⟨namesOf "Int2AP", av (.int n) v []⟩ (whTest (apS 3)) σ = some (n != 0, σ) := by kernel_rfl
theorem ap_t1 : (low cfg cl 14).ts ⟨namesOf "Int2AP", av (.int n) v [.int j]⟩ (whTest (apS 3)) σ = some (n != 0, σ) := by kernel_rfl
theorem ap_h0 : callHd cfg ⟨namesOf "Int2AP", av (.int n) v []⟩ (asV (apB 0)) (.blt "divmod") ∧ evs (low cfg cl 12) ⟨namesOf "Int2AP", av (.int n) v []⟩ (caArgs (asV (apB 0))) σ = some ([.int n, .int 16], σ) ∧ evKw (low cfg cl 12) ⟨namesOf "Int2AP", av (.int n) v []⟩ (caKws (asV (apB 0))) σ = some ([], σ) := ⟨by kernel_rfl, by kernel_rfl, by kernel_rfl⟩
theorem ap_h1 : callHd cfg ⟨namesOf "Int2AP", av (.int n) v [.int j]⟩ (asV (apB 0)) (.blt "divmod") ∧ evs (low cfg cl 12) ⟨namesOf "Int2AP", av (.int n) v [.int j]⟩ (caArgs (asV (apB 0))) σ = some ([.int n, .int 16], σ) ∧ evKw (low cfg cl 12) ⟨namesOf "Int2AP", av (.int n) v [.int j]⟩ (caKws (asV (apB 0))) σ = some ([], σ) := ⟨by kernel_rfl, by kernel_rfl, by kernel_rfl⟩
theorem ap_k0 : (M.bind (thaw cfg (asT (apB 0)) (asV (apB 0)) (.tup [.int i, .int j])) fun v' => M.bind (setTo (low cfg cl 13) ⟨namesOf "Int2AP", av (.int n) v []⟩ (asT (apB 0)) v') fun vars => nx vars) σ = some ((.next, av (.int i) v [.int j]), σ) := by kernel_rfl
theorem ap_k1 (j' : V) : (M.bind (thaw cfg (asT (apB 0)) (asV (apB 0)) (.tup [.int i, .int j])) fun v' => M.bind (setTo (low cfg cl 13) ⟨namesOf "Int2AP", av (.int n) v [j']⟩ (asT (apB 0)) v') fun vars => nx vars) σ = some ((.next, av (.int i) v [.int j]), σ) := by kernel_rfl
theorem ap_v : (low cfg cl 11).ev ⟨namesOf "Int2AP", av (.int n) v [.int j]⟩ (ixV (biL (asV (apB 1)))) σ = some (apV, σ) ∧ evO (low cfg cl 11) ⟨namesOf "Int2AP", av (.int n) v [.int j]⟩ (slLo (biL (asV (apB 1)))) σ = some (.int j, σ) ∧ evO (low cfg cl 11) ⟨namesOf "Int2AP", av (.int n) v [.int j]⟩ (slHi (biL (asV (apB 1)))) σ = some (.int (j + 1), σ) ∧ evO (low cfg cl 11) ⟨namesOf "Int2AP", av (.int n) v [.int j]⟩ (slSt (biL (asV (apB 1)))) σ = some (.none, σ) ∧ (low cfg cl 12).ev ⟨namesOf "Int2AP", av (.int n) v [.int j]⟩ (biR (asV (apB 1))) σ = some (v, σ) := ⟨by kernel_rfl, by kernel_rfl, by kernel_rfl, by kernel_rfl, by kernel_rfl⟩
theorem ap_k (b : Array UInt8) : (M.bind (thaw cfg (asT (apB 1)) (asV (apB 1)) (.bytes b)) fun v' => M.bind (setTo (low cfg cl 13) ⟨namesOf "Int2AP", av (.int n) v [.int j]⟩ (asT (apB 1)) v') fun vars => nx vars) σ = some ((.next, av (.int n) (.bytes b) [.int j]), σ) := by kernel_rfl
theorem ap_s : isAs (apB 0) ∧ isLC (asV (apB 0)) = false ∧ isAs (apB 1) ∧ isLC (asV (apB 1)) = false ∧ isBin .Add (asV (apB 1)) ∧ isSl (biL (asV (apB 1))) ∧ isWh (apS 3) := ⟨by kernel_rfl, by kernel_rfl, by kernel_rfl, by kernel_rfl, by kernel_rfl, by kernel_rfl, by kernel_rfl⟩
theorem ap_body : whBody (apS 3) = [apB 0, apB 1] := by kernel_rfl
theorem ap_all : bodyOf "Int2AP" = [apS 0, apS 1, apS 2, apS 3, apS 4] := by kernel_rfl
theorem ap_r0 : exStep cfg (low cfg cl 14) ⟨namesOf "Int2AP", av (.int n) v []⟩ (apS 4) σ = some ((.ret v, av (.int n) v []), σ) := by kernel_rfl
theorem ap_r1 : exStep cfg (low cfg cl 14) ⟨namesOf "Int2AP", av (.int n) v [.int j]⟩ (apS 4) σ = some ((.ret v, av (.int n) v [.int j]), σ) := by kernel_rfl
theorem ap_i0 : exStep cfg (low cfg cl 14) ⟨namesOf "Int2AP", [("num", .int n)]⟩ (apS 0) σ = some ((Fl.next, ([("num", .int n), ("val", .bytes [].toArray)] : Vars)), σ) := by kernel_rfl
theorem ap_i1 : exStep cfg (low cfg cl 14) ⟨namesOf "Int2AP", [("num", .int n), ("val", .bytes [].toArray)]⟩ (apS 1) σ = some ((.next, av (.int n) (.bytes [].toArray) []), σ) := by kernel_rfl
theorem ap_i2 : exStep cfg (low cfg cl 14) ⟨namesOf "Int2AP", av (.int n) (.bytes [].toArray) []⟩ (apS 2) σ = some ((.next, av (.int n.natAbs) (.bytes [].toArray) []), σ) := by kernel_rfl
end
theorem ap_turn {cl : Str → List V → List (Str × V) → M V} {n : Nat} {l : List UInt8} {m : List V} (hm : Pm m) (hn : n < 2 ^ 256) (hl : l.length ≤ 65535) (σ : Sto) : (low cfg cl 14).ex ⟨namesOf "Int2AP", av (.int n) (.bytes l.toArray) m⟩ (whBody (apS 3)) σ = some ((.next, av (.int (n / 16 : Nat)) (.bytes (UInt8.ofNat (65 + n % 16) :: l).toArray) [.int (n % 16 : Nat)]), σ) := by
 have e1 : exStep cfg (low cfg cl 13) ⟨namesOf "Int2AP", av (.int n) (.bytes l.toArray) m⟩ (apB 0) σ = some ((.next, av (.int (n / 16 : Nat)) (.bytes l.toArray) [.int (n % 16 : Nat)]), σ) := by
  rcases hm with rfl | ⟨j, rfl⟩
  ·have h := ap_h0 cl n (.bytes l.toArray) σ
   exact as_run ap_s.1 ((evV_no ap_s.2.1 σ).trans (r_call h.1 h.2.1 h.2.2 ((congrFun (cv_blt ..) σ).trans (b_divmod hn σ)))) (ap_k0 ..)
  ·have h := ap_h1 cl n j (.bytes l.toArray) σ
   exact as_run ap_s.1 ((evV_no ap_s.2.1 σ).trans (r_call h.1 h.2.1 h.2.2 ((congrFun (cv_blt ..) σ).trans (b_divmod hn σ)))) (ap_k1 ..)
 have e2 : exStep cfg (low cfg cl 13) ⟨namesOf "Int2AP", av (.int (n / 16 : Nat)) (.bytes l.toArray) [.int (n % 16 : Nat)]⟩ (apB 1) σ = some ((.next, av (.int (n / 16 : Nat)) (.bytes (UInt8.ofNat (65 + n % 16) :: l).toArray) [.int (n % 16 : Nat)]), σ) := by
  have h := ap_v cl (n / 16 : Nat) (n % 16 : Nat) (.bytes l.toArray) σ
  exact as_run ap_s.2.2.1 ((evV_no ap_s.2.2.2.1 σ).trans (r_bin ap_s.2.2.2.2.1 (r_sl ap_s.2.2.2.2.2.1 h.1 h.2.1 h.2.2.1 h.2.2.2.1 (ap_cut (Nat.mod_lt _ (by decide)) σ)) h.2.2.2.2 (o_add_bytes (by rw [List.length_singleton]; lia) σ))) (ap_k ..)
 show exAll cfg (low cfg cl 13) _ _ σ = _
 rw [ap_body]
 exact x_next _ _ _ _ _ e1 (x_one e2)
structure ApI (n : Nat) (σ : Sto) (k : Nat) (vars : Vars) (s : Sto) : Prop where
 s : s = σ
 ex : Ex3 fun a l m => Pm m ∧ vars = av (.int (a : Nat)) (.bytes l.toArray) m ∧ a < 16 ^ k ∧ k ≤ 64 ∧ l.length + k ≤ 64 ∧ apL k a l = apL 64 n []
structure ApE (n : Nat) (σ : Sto) (vars : Vars) (s : Sto) : Prop where
 s : s = σ
 ex : ∃ m, Pm m ∧ vars = av (.int (0 : Nat)) (.bytes (apL 64 n []).toArray) m
theorem ap_loop {cl : Str → List V → List (Str × V) → M V} {n : Nat} (hn : n < 2 ^ 256) (σ : Sto) : ∃ m, Pm m ∧ exStep cfg (low cfg cl 14) ⟨namesOf "Int2AP", av (.int n) (.bytes [].toArray) []⟩ (apS 3) σ = some ((.next, av (.int (0 : Nat)) (.bytes (apL 64 n []).toArray) m), σ) := by
 obtain ⟨vars', σ', h, rfl, m, hm, rfl⟩ := while_run (r := low cfg cl 14) (names := namesOf "Int2AP") (t := whTest (apS 3)) (body := whBody (apS 3))
  (ApI n σ) (ApE n σ)
  (fun k vars s h => by
   obtain ⟨rfl, a, l, m, hm, rfl, ha, hk, hl, hr⟩ := h
   have ht : (low cfg cl 14).ts ⟨namesOf "Int2AP", av (.int (a : Nat)) (.bytes l.toArray) m⟩ (whTest (apS 3)) s = some ((a : Int) != 0, s) := by
    rcases hm with rfl | ⟨j, rfl⟩
    ·exact ap_t0 ..
    ·exact ap_t1 ..
   by_cases h0 : a = 0
   ·subst h0
    refine .inl ⟨ht, rfl, m, hm, ?_⟩
    have : apL k 0 l = l := by cases k <;> rfl
    rw [← hr, this]
   ·refine .inr ⟨by rw [ht]; congr 2; simpa using h0, ?_⟩
    cases k with
    | zero => simp at ha; exact absurd ha h0
    | succ k =>
     have hp : 16 ^ (k + 1) ≤ 2 ^ 256 := Nat.le_trans (Nat.pow_le_pow_right (by decide) hk) (by decide)
     refine ⟨k, _, _, by lia, ap_turn hm (Nat.lt_of_lt_of_le ha hp) (by lia) s, rfl, _, _, _, .inr ⟨_, rfl⟩, rfl, ?_, by lia, by rw [List.length_cons]; lia, ?_⟩
     ·rw [Nat.pow_succ] at ha; lia
     ·rw [← hr, apL, if_neg h0])
  4096 64 (av (.int n) (.bytes [].toArray) []) (av (.int n) (.bytes [].toArray) []) σ (by decide) ⟨rfl, n, [], [], .inl rfl, rfl, by simpa using hn, by decide, by decide, rfl⟩
 exact ⟨m, hm, (g_while ap_s.2.2.2.2.2.2 σ').trans h⟩
theorem ap_call {n : Int} {k : Nat} (hn : n.natAbs < 2 ^ 256) (hk : 15 < k) (σ : Sto) : (tie cfg k).call "Int2AP" [.int n] [] σ = some (.bytes (apL 64 n.natAbs []).toArray, σ) := by
 obtain ⟨m, hm, h⟩ := ap_loop (cl := (tie cfg 0).call) hn σ
 have r : exStep cfg (low cfg (tie cfg 0).call 14) ⟨namesOf "Int2AP", av (.int (0 : Nat)) (.bytes (apL 64 n.natAbs []).toArray) m⟩ (apS 4) σ = some ((.ret (.bytes (apL 64 n.natAbs []).toArray), av (.int (0 : Nat)) (.bytes (apL 64 n.natAbs []).toArray) m), σ) := by
  rcases hm with rfl | ⟨j, rfl⟩
  ·exact ap_r0 ..
  ·exact ap_r1 ..
 refine call_run (n := 15) (m := 0) (names := namesOf "Int2AP") (body := bodyOf "Int2AP") (vars := [("num", .int n)]) (by kernel_rfl) (by lia) (vars' := av (.int (0 : Nat)) (.bytes (apL 64 n.natAbs []).toArray) m) ?_
 show exAll cfg (low cfg (tie cfg 0).call 14) _ _ σ = _
 rw [ap_all]
 exact x_next _ _ _ _ _ (ap_i0 ..) (x_next _ _ _ _ _ (ap_i1 ..) (x_next _ _ _ _ _ (ap_i2 ..) (x_next _ _ _ _ _ h (x_ret _ _ _ _ _ r))))
noncomputable def ceS (i : Nat) : Stmt := at' (bodyOf "_law_cells") i
noncomputable def ceI : List Int := [6, 9, 8, 135, 12, 175, 53, 4, 33, 20, 7]
noncomputable def ceB : Stmt := at' (frBody (ceS 1)) 0
noncomputable def cv (xs : List V) (m : List V) : Vars := ([("script", .list xs), ("cells", .lst 0)] : Vars) ++ m.map fun v => (("place" : Str), v)
section
variable (cl : Str → List V → List (Str × V) → M V) (xs : List V) (i : Int) (v : V) (σ : Sto)
theorem ce_0 : exStep cfg (low cfg cl 14) ⟨namesOf "_law_cells", [("script", .list xs)]⟩ (ceS 0) [] = some ((.next, cv xs []), [ceI.map V.int]) := by kernel_rfl
theorem ce_it : callHd cfg ⟨namesOf "_law_cells", cv xs []⟩ (frIter (ceS 1)) (.typ "range") ∧ evKw (low cfg cl 13) ⟨namesOf "_law_cells", cv xs []⟩ (caKws (frIter (ceS 1))) σ = some ([], σ) ∧ caArgs (frIter (ceS 1)) = [caA 0 (frIter (ceS 1))] ∧ callHd cfg ⟨namesOf "_law_cells", cv xs []⟩ (caA 0 (frIter (ceS 1))) (.blt "len") ∧ evKw (low cfg cl 12) ⟨namesOf "_law_cells", cv xs []⟩ (caKws (caA 0 (frIter (ceS 1)))) σ = some ([], σ) ∧ evs (low cfg cl 12) ⟨namesOf "_law_cells", cv xs []⟩ (caArgs (caA 0 (frIter (ceS 1)))) σ = some ([.list xs], σ) := ⟨by kernel_rfl, by kernel_rfl, by kernel_rfl, by kernel_rfl, by kernel_rfl, by kernel_rfl⟩
theorem ce_t : setTo (low cfg cl 14) ⟨namesOf "_law_cells", cv xs []⟩ (frTgt (ceS 1)) (.int i) σ = some (cv xs [.int i], σ) := by kernel_rfl
theorem ce_t1 : setTo (low cfg cl 14) ⟨namesOf "_law_cells", cv xs [v]⟩ (frTgt (ceS 1)) (.int i) σ = some (cv xs [.int i], σ) := by kernel_rfl
theorem ce_v : exStep cfg (low cfg cl 13) ⟨namesOf "_law_cells", cv xs [.int i]⟩ ceB σ = ob (ob (indexV (.lst 0) (.int (i.fmod 11)) σ) fun a => M.bind (M.bind (indexV (.list xs) (.int i)) fun b => binV .Mod b (.int 1000000)) fun d => binV .Add a d) fun v => M.bind (M.bind (putItem (.lst 0) (.int (i.fmod 11)) v) fun _ => M.pure (cv xs [.int i])) nx := by kernel_rfl
theorem ce_b : frBody (ceS 1) = [ceB] := by kernel_rfl
theorem ce_all : bodyOf "_law_cells" = [ceS 0, ceS 1, ceS 2] := by kernel_rfl
theorem ce_k : isFr (ceS 1) := by kernel_rfl
theorem ce_2 (m : List V) (hm : Pm m) : exStep cfg (low cfg cl 14) ⟨namesOf "_law_cells", cv xs m⟩ (ceS 2) σ = some ((.ret (.lst 0), cv xs m), σ) := by
 rcases hm with rfl | ⟨j, rfl⟩
 ·kernel_rfl
 ·kernel_rfl
end
theorem ce_turn {cl : Str → List V → List (Str × V) → M V} {xs : List Int} {cs : List Int} {i : Nat} (hc : cs.length = 11) (hi : i < xs.length) (hl : xs.length ≤ 63) :
  Ex2 fun c x => cs[i % 11]? = some c ∧ xs[i]? = some x ∧ (low cfg cl 14).ex ⟨namesOf "_law_cells", cv (xs.map V.int) [.int i]⟩ (frBody (ceS 1)) [cs.map V.int] = some ((.next, cv (xs.map V.int) [.int i]), [(cs.set (i % 11) (c + x.fmod 1000000)).map V.int]) := by
 obtain ⟨c, hc'⟩ : ∃ c, cs[i % 11]? = some c := ⟨cs[i % 11]'(by lia), List.getElem?_eq_getElem _⟩
 obtain ⟨x, hx⟩ : ∃ x, xs[i]? = some x := ⟨xs[i], List.getElem?_eq_getElem _⟩
 refine ⟨c, x, hc', hx, ?_⟩
 show exAll cfg (low cfg cl 13) _ _ _ = _
 rw [ce_b]
 refine x_one ((ce_v ..).trans ?_)
 rw [show (11 : Int) = ((11 : Nat) : Int) from rfl, fmod_nat, ix_lst (by lia) (by lia)]
 show ob (ob (ob (lookR (some (cs.map V.int)) _) _) _) _ = _
 rw [lookR_some, ob_some, Int.toNat_natCast, List.getElem?_map, hc']
 show ob (ob (some (V.int c, _)) _) _ = _
 rw [ob_some, bind_app, bind_app, ix_list (by lia) (by lia), Int.toNat_natCast, List.getElem?_map, hx]
 show ob (ob (ob (some (V.int x, _)) _) _) _ = _
 rw [ob_some, o_mod (by decide), ob_some, o_add, ob_some, bind_app, bind_app, put_lst (xs := cs.map V.int) rfl (by rw [List.length_map, hc]; exact Nat.mod_lt _ (by decide)) (by rw [List.length_map]; lia), ob_some, pure_app, ob_some]
 show some _ = some _
 rw [List.map_set]; rfl
noncomputable def cB : Nat → Int
 | 0 => 175
 | d + 1 => cB d + 1000000
theorem cB_le : ∀ d < 64, cB d ≤ 70000000 := by decide +kernel
theorem ce_bound {cs : List Int} {c x B : Int} {i : Nat} (hc : c ∈ cs) (hb : ∀ c ∈ cs, 0 ≤ c ∧ c ≤ B) : ∀ z ∈ cs.set i (c + x.fmod 1000000), 0 ≤ z ∧ z ≤ B + 1000000 := fun z hz => by
 rcases List.mem_or_eq_of_mem_set hz with hz | rfl
 ·exact ⟨(hb z hz).1, Int.le_trans (hb z hz).2 (Int.le_add_of_nonneg_right (by decide))⟩
 ·exact ⟨Int.add_nonneg (hb c hc).1 (Int.fmod_nonneg_of_pos x (by decide)), Int.add_le_add (hb c hc).2 (Int.le_of_lt (Int.fmod_lt_of_pos x (by decide)))⟩
structure CeI (xs : List Int) (d : Nat) (vars : Vars) (s : Sto) : Prop where
 ex : Ex2 fun (m : List V) (cs : List Int) => Pm m ∧ vars = cv (xs.map V.int) m ∧ cs.length = 11 ∧ (∀ c ∈ cs, 0 ≤ c ∧ c ≤ cB d) ∧ s = [cs.map V.int]
theorem ce_call {xs : List Int} (hl : xs.length ≤ 63) : ∃ cs : List Int, cs.length = 11 ∧ (∀ c ∈ cs, 0 ≤ c ∧ c ≤ 70000000) ∧ ∀ k, 16 < k → (tie cfg k).call "_law_cells" [.list (xs.map V.int)] [] [] = some (.lst 0, [cs.map V.int]) := by
 obtain ⟨vars', σ', h, ⟨m, cs, hm, rfl, hcs, hb, rfl⟩⟩ := for_range (N := xs.length) (r := low cfg (tie cfg 0).call 14) (names := namesOf "_law_cells") (tgt := frTgt (ceS 1)) (body := frBody (ceS 1)) (chk := none) (all := (List.range xs.length).map fun (j : Nat) => V.int j) (CeI xs)
  (fun _ _ _ _ => rfl)
  (fun d vars s hd h => by
   obtain ⟨m, cs, hm, rfl, hcs, hb, rfl⟩ := h
   obtain ⟨c, x, h1, h2, h3⟩ := ce_turn (cl := (tie cfg 0).call) (xs := xs) hcs hd hl
   refine ⟨cv (xs.map V.int) [.int d], cv (xs.map V.int) [.int d], _, ?_, h3, [.int d], cs.set (d % 11) (c + x.fmod 1000000), .inr ⟨_, rfl⟩, rfl, (List.length_set ..).trans hcs, ce_bound (List.mem_of_getElem? h1) hb, rfl⟩
   rcases hm with rfl | ⟨j, rfl⟩
   ·exact ce_t ..
   ·exact ce_t1 ..)
  (cv (xs.map V.int) []) (cv (xs.map V.int) []) [ceI.map V.int] ⟨[], ceI, .inl rfl, rfl, rfl, by decide +kernel, rfl⟩
 refine ⟨cs, hcs, fun c hc => ⟨(hb c hc).1, Int.le_trans (hb c hc).2 (cB_le _ (Nat.lt_succ_of_le hl))⟩, fun k hk => ?_⟩
 refine call_run (n := 15) (m := 0) (names := namesOf "_law_cells") (body := bodyOf "_law_cells") (vars := [("script", .list (xs.map V.int))]) (by kernel_rfl) (by lia) (vars' := cv (xs.map V.int) m) ?_
 show exAll cfg (low cfg (tie cfg 0).call 14) _ _ _ = _
 rw [ce_all]
 refine x_next _ _ _ _ _ (ce_0 ..) (x_next _ _ _ _ _ ?_ (x_ret _ _ _ _ _ (ce_2 _ _ _ m hm)))
 have hi := ce_it (tie cfg 0).call (xs.map V.int) [ceI.map V.int]
 have hlen : callB "len" [.list (xs.map V.int)] [ceI.map V.int] = some (.int xs.length, [ceI.map V.int]) := by rw [b_len_list, List.length_map, if_pos (by lia)]
 have hr : callT "range" [.int xs.length] [ceI.map V.int] = some (.rng 0 xs.length 1, [ceI.map V.int]) := rfl
 rw [g_for ce_k, r_call (n := 12) hi.1 (by rw [hi.2.2.1]; exact r_evs (r_call (n := 11) hi.2.2.2.1 hi.2.2.2.2.2 hi.2.2.2.2.1 ((congrFun (cv_blt ..) _).trans hlen)) rfl) hi.2.1 ((congrFun (cv_typ ..) _).trans hr), ob_some, bind_app, iter_rng0 _ (by lia), ob_some]
 exact h
end Mine.Internal.L01
namespace Mine.Internal.L01
open PySem PyProof.Rows PySem.W PySem.SeqAt PySem.Calls PySem.Challenge Mine.Internal
variable {cl : Str → List V → List (Str × V) → M V} {σ : Sto}
noncomputable def CL : Str → List V → List (Str × V) → M V := (tie cfg 70).call
noncomputable def unL : List Nat := [173, 847, 6150, 6155, 6156, 6157, 8203, 8204, 8205, 8288] ++ (List.range 16).map (65024 + ·) ++ [65279]
noncomputable def beL : List Nat := [172, 174, 846, 848, 6149, 6151, 6154, 6158, 8202, 8206, 8287, 8289, 65023, 65040, 65278, 65280]
noncomputable def sgF (w f : Nat) : Nat := if f < 2 then 97 - 32 * f + w else 119808 + 52 * [0, 1, 2, 4, 7, 8, 9, 10, 11, 12].getD (f - 2) 0 + w
noncomputable def sgC (x : Nat) : Nat := if x % 2 = 0 then unL.getD (x / 2 % 27) 0 else if 25 < x / 2 % 42 then beL.getD (x / 2 % 42 - 26) 0 else sgF (x / 2 % 42) (x / 84 % 12)
noncomputable def mtC (x : Nat) : Nat := if 25 < x / 2 % 42 then beL.getD (x / 2 % 42 - 26) 0 else 97 + x / 2 % 42
noncomputable def emp : V := .str ⟨#[]⟩
noncomputable def sgV (x : Nat) : V := .tup [one (sgC x), if x % 2 = 0 then emp else one (mtC x)]
noncomputable def sgS (i : Nat) : Stmt := at' (bodyOf "_law_sign") i
noncomputable def nSg : List (Str × NameKind) := namesOf "_law_sign"
noncomputable def S00 : Stmt := at' (ifThen (sgS 0)) 0
noncomputable def S01 : Stmt := at' (ifThen (sgS 0)) 1
theorem sg_k : (isIf (sgS 0) ∧ isIf (sgS 2) ∧ ifElse (sgS 0) = [] ∧ ifElse (sgS 2) = [] ∧ ifThen (sgS 0) = [S00, S01]) ∧ bodyOf "_law_sign" = [sgS 0, sgS 1, sgS 2, sgS 3, sgS 4, sgS 5] := ⟨⟨by kernel_rfl, by kernel_rfl, by kernel_rfl, by kernel_rfl, by kernel_rfl⟩, by kernel_rfl⟩
noncomputable def tupO (m : Option (List V × Sto)) (vars : Vars) : Option ((Fl × Vars) × Sto) := ob (ob m fun vs => if vs.length ≤ 65536 then M.pure (.tup vs) else M.fail) fun v => rt v vars
noncomputable def chrO (m : Option (V × Sto)) : Option (V × Sto) := ob (ob m fun v => M.pure [v]) fun vs => callB "chr" vs
noncomputable def uVs (x : V) : Vars := [("x", x), ("unseen", .list (unL.map iV))]
theorem sg_0t (x : Int) : (low cfg cl 14).ts ⟨nSg, [("x", .int x)]⟩ (ifTest (sgS 0)) σ = some (x.fmod 2 == 0, σ) := by kernel_rfl
theorem sg_0a (x : V) : exStep cfg (low cfg cl 13) ⟨nSg, [("x", x)]⟩ S00 σ = some ((.next, uVs x), σ) := by kernel_rfl
theorem sg_0b (x : V) : exStep cfg (low cfg cl 13) ⟨nSg, uVs x⟩ S01 σ = tupO (ob (chrO (ob (ob (binV .FloorDiv x (iV 2) σ) fun d => binV .Mod d (iV 27)) fun i => indexV (.list (unL.map iV)) i)) fun c => M.pure [c, emp]) (uVs x) := by kernel_rfl
theorem sg_1 (x : V) : exStep cfg (low cfg cl 14) ⟨nSg, [("x", x)]⟩ (sgS 1) σ = ob (ob (binV .FloorDiv x (iV 2) σ) fun d => binV .Mod d (iV 42)) fun v => M.bind (th false v) fun v => nx ([("x", x), ("which", v)] : Vars) := by kernel_rfl
theorem sg_2t (x : V) (w : Int) : (low cfg cl 14).ts ⟨nSg, [("x", x), ("which", .int w)]⟩ (ifTest (sgS 2)) σ = some (decide (w > 25), σ) := by kernel_rfl
theorem sg_2 (x : V) : ((List.range 16).map fun j => exAll cfg (low cfg cl 13) ⟨nSg, [("x", x), ("which", iV (j + 26))]⟩ (ifThen (sgS 2)) σ) = (List.range 16).map fun j => some ((.ret (.tup [one (beL.getD j 0), one (beL.getD j 0)]), ([("x", x), ("which", iV (j + 26)), ("beside", .list (beL.map iV))] : Vars)), σ) := by kernel_rfl
theorem sg_3 (x w : V) : exStep cfg (low cfg cl 14) ⟨nSg, [("x", x), ("which", w)]⟩ (sgS 3) σ = ob (ob (binV .FloorDiv x (iV 84) σ) fun d => binV .Mod d (iV 12)) fun v => M.bind (th false v) fun v => nx ([("x", x), ("which", w), ("form", v)] : Vars) := by kernel_rfl
noncomputable def wfL : List (Nat × Nat) := (List.range 26).flatMap fun w => (List.range 12).map fun f => (w, f)
noncomputable def v4 (x : V) (p : Nat × Nat) : Vars := [("x", x), ("which", iV p.1), ("form", iV p.2)]
theorem sg_4 (x : V) : (wfL.map fun p => exAll cfg (low cfg cl 14) ⟨nSg, v4 x p⟩ [sgS 4, sgS 5] σ) = wfL.map fun p => some ((.ret (.tup [one (sgF p.1 p.2), one (97 + p.1)]), v4 x p), σ) := by kernel_rfl
theorem chr_e (a : List V) : callB "chr" a = arg1 a fun v => intOf v fun i => if 0 ≤ i && i < 1114112 && !Str.isSurrogate i.toNat then M.pure (one i.toNat) else M.fail := by kernel_rfl
theorem arg1_e {β : Type} (v : V) (f : V → M β) : arg1 [v] f = f v := rfl
theorem intOf_e {β : Type} (i : Int) (f : Int → M β) : intOf (.int i) f = f i := rfl
theorem chr_ok {c : Nat} (h : (Nat.blt c 1114112 && !Str.isSurrogate c) = true) (σ : Sto) : callB "chr" [iV c] σ = some (one c, σ) := by
 obtain ⟨h1, h2⟩ := Bool.and_eq_true_iff.mp h
 unfold iV
 rw [chr_e, arg1_e, intOf_e, Int.toNat_natCast, if_pos]
 ·rfl
 ·rw [Bool.and_eq_true_iff, Bool.and_eq_true_iff]
  exact ⟨⟨decide_eq_true (Int.natCast_nonneg _), decide_eq_true (Int.ofNat_lt.mpr (Nat.blt_eq.mp h1))⟩, h2⟩
theorem un_ok : (unL.all fun c => Nat.blt c 1114112 && !Str.isSurrogate c) = true := by kernel_rfl
theorem map_at {α β : Type} {l : List α} {i : Nat} (h : i < l.length) (f : α → β) (d : α) : (l.map f)[i]? = some (f (l.getD i d)) := by
 rw [List.getElem?_map, List.getD_eq_getElem?_getD, List.getElem?_eq_getElem h]; rfl
theorem getD_mem {α : Type} {l : List α} {i : Nat} {d : α} (h : i < l.length) : l.getD i d ∈ l := by
 rw [List.getD_eq_getElem?_getD, List.getElem?_eq_getElem h]; exact List.getElem_mem h
theorem sg_call {x k : Nat} (hx : x < 10 ^ 9) (hk : 15 < k) (σ : Sto) : (tie cfg k).call "_law_sign" [iV x] [] σ = some (sgV x, σ) := by
 have hx2 : x < 2 ^ 256 := Nat.lt_trans hx (by decide)
 have dm : ∀ {p q : Nat}, p < 2 ^ 256 → p ≠ 0 → q ≠ 0 → ob (binV .FloorDiv (iV x) (iV p) σ) (fun d => binV .Mod d (iV q)) = some (iV (x / p % q), σ) := fun h1 h2 h3 => obT (o_divN hx2 h1 h2 σ) (o_modN h3 σ)
 have t0 := sg_0t (cl := (tie cfg 0).call) (σ := σ) x
 have em : (x : Int).fmod 2 = ((x % 2 : Nat) : Int) := fmod_nat x 2
 rw [em] at t0
 have run : ∀ {v : V} {vars' : Vars}, exAll cfg (low cfg (tie cfg 0).call 14) ⟨nSg, [("x", iV x)]⟩ [sgS 0, sgS 1, sgS 2, sgS 3, sgS 4, sgS 5] σ = some ((.ret v, vars'), σ) → (tie cfg k).call "_law_sign" [iV x] [] σ = some (v, σ) := fun {v vars'} h => by
  refine call_run (n := 15) (m := 0) (names := nSg) (body := bodyOf "_law_sign") (vars := [("x", iV x)]) (by kernel_rfl) (show 15 + 0 < k from hk) (vars' := vars') ?_
  show exAll cfg (low cfg (tie cfg 0).call 14) _ _ σ = _
  rw [sg_k.2]; exact h
 unfold sgV sgC mtC
 by_cases h0 : x % 2 = 0
 ·rw [if_pos h0, if_pos h0]
  rw [h0] at t0
  refine run (vars' := uVs (iV x)) (x_ret _ _ _ _ _ (if_yes sg_k.1.1 t0 ?_))
  have hl : x / 2 % 27 < unL.length := Nat.mod_lt _ (by decide)
  rw [sg_k.1.2.2.2.2]
  refine x_next _ _ _ _ _ (sg_0a ..) (x_ret _ _ _ _ _ ((sg_0b ..).trans ?_))
  exact obT (obT (obT (obT (obT (obT (dm (by decide) (by decide) (by decide)) (ix_at (map_at hl iV 0) (Nat.lt_trans hl (by decide)) σ)) rfl) (chr_ok (List.all_eq_true.mp un_ok _ (getD_mem hl)) σ)) rfl) rfl) rfl
 ·rw [if_neg h0, if_neg h0]
  have h1 : x % 2 = 1 := (Nat.mod_two_eq_zero_or_one x).resolve_left h0
  rw [h1] at t0
  have s0 := if_not sg_k.1.1 sg_k.1.2.2.1 t0
  have s1 : exStep cfg (low cfg (tie cfg 0).call 14) ⟨nSg, [("x", iV x)]⟩ (sgS 1) σ = some ((.next, ([("x", iV x), ("which", iV (x / 2 % 42))] : Vars)), σ) := (sg_1 ..).trans (obT (dm (by decide) (by decide) (by decide)) rfl)
  have t2 := sg_2t (cl := (tie cfg 0).call) (σ := σ) (iV x) (x / 2 % 42 : Nat)
  have hw : x / 2 % 42 < 42 := Nat.mod_lt _ (by decide)
  by_cases h2 : 25 < x / 2 % 42
  ·rw [if_pos h2, if_pos h2]
   rw [decide_eq_true (show ((x / 2 % 42 : Nat) : Int) > 25 from Int.ofNat_lt.mpr h2)] at t2
   refine run (vars' := [("x", iV x), ("which", iV (x / 2 % 42)), ("beside", .list (beL.map iV))]) (x_next _ _ _ _ _ s0 (x_next _ _ _ _ _ s1 (x_ret _ _ _ _ _ (if_yes sg_k.1.2.1 t2 ?_))))
   have h := List.map_inj_left.mp (sg_2 (cl := (tie cfg 0).call) (σ := σ) (iV x)) (x / 2 % 42 - 26) (List.mem_range.mpr (Nat.sub_lt_right_of_lt_add (show 26 ≤ x / 2 % 42 from h2) (show x / 2 % 42 < 16 + 26 from hw)))
   rw [Nat.sub_add_cancel (show 26 ≤ x / 2 % 42 from h2)] at h
   exact h
  ·rw [if_neg h2, if_neg h2]
   rw [decide_eq_false (show ¬ ((x / 2 % 42 : Nat) : Int) > 25 from fun q => h2 (Int.ofNat_lt.mp q))] at t2
   have s3 : exStep cfg (low cfg (tie cfg 0).call 14) ⟨nSg, [("x", iV x), ("which", iV (x / 2 % 42))]⟩ (sgS 3) σ = some ((.next, v4 (iV x) (x / 2 % 42, x / 84 % 12)), σ) := (sg_3 ..).trans (obT (dm (by decide) (by decide) (by decide)) rfl)
   refine run (vars' := v4 (iV x) (x / 2 % 42, x / 84 % 12)) (x_next _ _ _ _ _ s0 (x_next _ _ _ _ _ s1 (x_next _ _ _ _ _ (if_not sg_k.1.2.1 sg_k.1.2.2.2.1 t2) (x_next _ _ _ _ _ s3 ?_))))
   exact List.map_inj_left.mp (sg_4 (cl := (tie cfg 0).call) (σ := σ) (iV x)) (x / 2 % 42, x / 84 % 12) (List.mem_flatMap.mpr ⟨_, List.mem_range.mpr (Nat.lt_succ_of_le (Nat.not_lt.mp h2)), List.mem_map.mpr ⟨_, List.mem_range.mpr (Nat.mod_lt _ (by decide)), rfl⟩⟩)
end Mine.Internal.L01
namespace Mine.Internal.L01
open PySem PyProof.Rows PySem.W PySem.SeqAt PySem.Calls PySem.Challenge Mine.Internal
variable {σ : Sto}
theorem ch_b1 : (wfL.map fun p => (tie cfg 40).call "in_table_b1" [one (sgF p.1 p.2)] [] σ) = wfL.map fun _ => some (.bool false, σ) := by kernel_rfl
theorem ch_b3 : (wfL.map fun p => (tie cfg 40).call "map_table_b3" [one (sgF p.1 p.2)] [] σ) = wfL.map fun p => some (one (97 + p.1), σ) := by kernel_rfl
theorem be_b1 : (beL.map fun c => (tie cfg 40).call "in_table_b1" [one c] [] σ) = beL.map fun _ => some (.bool false, σ) := by kernel_rfl
theorem be_b3 : (beL.map fun c => (tie cfg 40).call "map_table_b3" [one c] [] σ) = beL.map fun c => some (one c, σ) := by kernel_rfl
theorem un_b1 : (unL.map fun c => (tie cfg 40).call "in_table_b1" [one c] [] σ) = unL.map fun _ => some (.bool true, σ) := by kernel_rfl
theorem wf_of {f : Str} {r : Nat × Nat → V} {x : Nat} (h : ¬ 25 < x / 2 % 42) (e : ∀ σ, (wfL.map fun p => (tie cfg 40).call f [one (sgF p.1 p.2)] [] σ) = wfL.map fun p => some (r p, σ)) (σ : Sto) : (tie cfg 40).call f [one (sgF (x / 2 % 42) (x / 84 % 12))] [] σ = some (r (x / 2 % 42, x / 84 % 12), σ) :=
 List.map_inj_left.mp (e σ) (x / 2 % 42, x / 84 % 12) (List.mem_flatMap.mpr ⟨_, List.mem_range.mpr (Nat.lt_succ_of_le (Nat.not_lt.mp h)), List.mem_map.mpr ⟨_, List.mem_range.mpr (Nat.mod_lt _ (by decide)), rfl⟩⟩)
theorem CL_of {f : Str} {v : V} {r : V × Sto} {σ : Sto} (h : (tie cfg 40).call f [v] [] σ = some r) : CL f [v] [] σ = some r := (tie_mono cfg (show 40 ≤ 70 by decide)).call _ _ _ _ _ h
theorem be_mem (x : Nat) (h : 25 < x / 2 % 42) : beL.getD (x / 2 % 42 - 26) 0 ∈ beL := getD_mem (Nat.sub_lt_right_of_lt_add (Nat.succ_le_of_lt h) (Nat.mod_lt _ (by decide)))
theorem b1_sg (x : Nat) (σ : Sto) : CL "in_table_b1" [one (sgC x)] [] σ = some (.bool (decide (x % 2 = 0)), σ) := by
 unfold sgC
 by_cases h0 : x % 2 = 0
 ·rw [if_pos h0, decide_eq_true h0]
  exact CL_of (List.map_inj_left.mp un_b1 _ (getD_mem (show x / 2 % 27 < 27 from Nat.mod_lt _ (by decide))))
 ·rw [if_neg h0, decide_eq_false h0]
  by_cases h2 : 25 < x / 2 % 42
  ·rw [if_pos h2]
   exact CL_of (List.map_inj_left.mp be_b1 _ (be_mem x h2))
  ·rw [if_neg h2]
   exact CL_of (wf_of (r := fun _ => .bool false) h2 (fun _ => ch_b1) σ)
theorem b3_sg {x : Nat} (h0 : x % 2 ≠ 0) (σ : Sto) : CL "map_table_b3" [one (sgC x)] [] σ = some (one (mtC x), σ) := by
 unfold sgC mtC
 rw [if_neg h0]
 by_cases h2 : 25 < x / 2 % 42
 ·rw [if_pos h2, if_pos h2]
  exact CL_of (List.map_inj_left.mp be_b3 _ (be_mem x h2))
 ·rw [if_neg h2, if_neg h2]
  exact CL_of (wf_of (r := fun p => one (97 + p.1)) h2 (fun _ => ch_b3) σ)
end Mine.Internal.L01
namespace Mine.Internal.L01
noncomputable def pl (m : Nat) : List Nat := (List.range 10).filter fun p => m.testBit p
noncomputable def hl (m : Nat) : List Nat := (List.range 10).filter fun p => !m.testBit p
noncomputable def szN (a b : List Nat) : List Nat := a.map fun o => (b.filter fun p => Nat.blt p o).length
noncomputable def hkRow (z : List Nat) (row : Nat) : List (Nat × Nat × Nat) := (List.range (z.getD row 0)).map fun c => (z.getD row 0 - c + ((List.range row).filter fun k => Nat.blt c (z.getD k 0)).length, row, c)
noncomputable def hkN (z : List Nat) : List (Nat × Nat × Nat) := (List.range z.length).flatMap (hkRow z)
noncomputable def dg : Nat → Nat → List Nat
 | _, 0 => []
 | n, k + 1 => n % 16 :: dg (n / 16) k
noncomputable def sumN : List Nat → Nat
 | [] => 0
 | x :: l => x + sumN l
noncomputable def numN (m : Nat) : Nat := sumN ((pl m).map fun p => 16 ^ p)
noncomputable def numH (m : Nat) : Nat := sumN ((hl m).map fun p => 16 ^ (9 - p))
noncomputable def prodN (m : Nat) : Nat := numN m * numH m
noncomputable def R19 : Nat := 16 ^ 19 / 15
noncomputable def figs (m : Nat) : List Nat := dg (prodN m) 19
noncomputable def leq : List Nat → List Nat → Bool
 | [], [] => true
 | x :: l, y :: r => Nat.beq x y && leq l r
 | _, _ => false
theorem leq_eq : ∀ {l r : List Nat}, leq l r = true → l = r
 | [], [], _ => rfl
 | x :: l, y :: r, h => by
  obtain ⟨h1, h2⟩ := Bool.and_eq_true_iff.mp h
  rw [Nat.eq_of_beq_eq_true h1, leq_eq h2]
 | [], _ :: _, h => Bool.noConfusion h
 | _ :: _, [], h => Bool.noConfusion h
noncomputable def cnt (x : Nat) (l : List (Nat × Nat × Nat)) : Nat := l.countP fun p => Nat.beq p.1 x
noncomputable def bt (m p : Nat) : Bool := Nat.beq (Nat.mod (Nat.div m (Nat.pow 2 p)) 2) 1
noncomputable def R10 : List Nat := [0, 1, 2, 3, 4, 5, 6, 7, 8, 9]
noncomputable def P19 : List Nat := [0, 1, 2, 3, 4, 5, 6, 7, 8, 9, 10, 11, 12, 13, 14, 15, 16, 17, 18]
noncomputable def plF (m : Nat) : List Nat := R10.filter (bt m)
noncomputable def hlF (m : Nat) : List Nat := R10.filter fun p => !bt m p
noncomputable def numF (m : Nat) : Nat := sumN ((plF m).map fun p => Nat.pow 16 p)
noncomputable def numFH (m : Nat) : Nat := sumN ((hlF m).map fun p => Nat.pow 16 (Nat.sub 9 p))
noncomputable def prF (m : Nat) : Nat := Nat.mul (numF m) (numFH m)
noncomputable def fg (m i : Nat) : Nat := Nat.mod (Nat.div (prF m) (Nat.pow 16 i)) 16
theorem bt_eq (m p : Nat) : bt m p = m.testBit p := by
 rw [Nat.testBit_eq_decide_div_mod_eq]
 show Nat.beq (m / 2 ^ p % 2) 1 = _
 by_cases h : m / 2 ^ p % 2 = 1
 ·rw [h]; rfl
 ·rw [decide_eq_false h]; exact Bool.eq_false_iff.mpr fun q => h (Nat.eq_of_beq_eq_true q)
theorem bt_fun (m : Nat) : bt m = fun p => m.testBit p := funext (bt_eq m)
theorem plF_eq : plF = pl := funext fun m => by
 unfold plF
 rw [bt_fun]; rfl
theorem hlF_eq : hlF = hl := funext fun m => by
 unfold hlF
 rw [bt_fun]; rfl
theorem numF_eq : numF = numN := funext fun m => by
 unfold numF
 rw [plF_eq]; rfl
theorem prF_eq : prF = prodN := funext fun m => by
 unfold prF numFH
 rw [numF_eq, hlF_eq]; rfl
theorem dg_get : ∀ (k n i : Nat), i < k → (dg n k).getD i 0 = n / 16 ^ i % 16
 | 0, _, i, h => absurd h (Nat.not_lt_zero i)
 | k + 1, n, 0, _ => by rw [Nat.pow_zero, Nat.div_one]; rfl
 | k + 1, n, i + 1, h => by
  show (dg (n / 16) k).getD i 0 = _
  rw [dg_get k (n / 16) i (Nat.lt_of_succ_lt_succ h), Nat.div_div_eq_div_mul, Nat.pow_succ, Nat.mul_comm]
theorem dg_len : ∀ k n, (dg n k).length = k
 | 0, _ => rfl
 | k + 1, n => congrArg (· + 1) (dg_len k (n / 16))
theorem fg_get {m i : Nat} (h : i < 19) : (figs m).getD i 0 = fg m i := by
 unfold figs fg
 rw [dg_get 19 _ i h, prF_eq]; rfl
noncomputable def frF (a step : Nat) : List Nat := (plF a).filter fun p => Nat.ble step p && !bt a (Nat.sub p step)
noncomputable def fhF (a step : Nat) : List Nat := (hlF a).filter fun p => Nat.ble step p && bt a (Nat.sub p step)
noncomputable def chA (m : Nat) : Bool := P19.all (fun i => Nat.ble (fg m i) 5) && Nat.blt (prF m) (Nat.pow 16 19) && Nat.beq (fg m 9) 0
noncomputable def R9 : List Nat := [1, 2, 3, 4, 5, 6, 7, 8, 9]
noncomputable def chB (m : Nat) : Bool := R9.all fun L => Nat.beq (frF m L).length (fg m (Nat.add 9 L)) && Nat.beq (fhF m L).length (fg m (Nat.sub 9 L))
noncomputable def qu (f : Nat → Bool) (j : Nat) : Bool := (List.range 256).all fun k => f (Nat.add (Nat.mul 256 j) k)
structure All (f : Nat → Bool) : Prop where
 a : qu f 0 = true
 b : qu f 1 = true
 c : qu f 2 = true
 d : qu f 3 = true
theorem of_all {f : Nat → Bool} (h : All f) {m : Nat} (hm : m < 1024) : f m = true := by
 have key : ∀ j, qu f j = true → m / 256 = j → f m = true := fun j hj e => by
  have h := List.all_eq_true.mp hj (m % 256) (List.mem_range.mpr (Nat.mod_lt _ (by decide)))
  have e2 : Nat.add (Nat.mul 256 j) (m % 256) = m := by
   show 256 * j + m % 256 = m
   rw [← e]; exact Nat.div_add_mod m 256
  rwa [e2] at h
 have : m / 256 = 0 ∨ m / 256 = 1 ∨ m / 256 = 2 ∨ m / 256 = 3 := (show ∀ j, j < 4 → j = 0 ∨ j = 1 ∨ j = 2 ∨ j = 3 by decide) _ (Nat.div_lt_of_lt_mul hm)
 rcases this with q | q | q | q
 ·exact key 0 h.a q
 ·exact key 1 h.b q
 ·exact key 2 h.c q
 ·exact key 3 h.d q
theorem allA : All chA := ⟨by decide +kernel, by decide +kernel, by decide +kernel, by decide +kernel⟩
theorem allB0 : qu chB 0 = true := by decide +kernel
theorem allB1 : qu chB 1 = true := by decide +kernel
theorem allB2 : qu chB 2 = true := by decide +kernel
theorem allB3 : qu chB 3 = true := by decide +kernel
theorem allB : All chB := ⟨allB0, allB1, allB2, allB3⟩
noncomputable def rep : Nat → Nat
 | 0 => 0
 | k + 1 => 16 * rep k + 1
theorem dm16 {a b : Nat} (h : b < 16) : (16 * a + b) / 16 = a ∧ (16 * a + b) % 16 = b := ⟨by rw [Nat.mul_add_div (by decide), Nat.div_eq_of_lt h, Nat.add_zero], by rw [Nat.mul_add_mod, Nat.mod_eq_of_lt h]⟩
theorem dg_rep (k : Nat) : ∀ N n, n < 16 ^ N → (∀ d ∈ dg n N, d + k < 16) → dg (n + k * rep N) N = (dg n N).map (· + k) ∧ n + k * rep N < 16 ^ N
 | 0, n, h, _ => ⟨rfl, by rw [rep, Nat.mul_zero]; exact h⟩
 | N + 1, n, h, hd => by
  have h1 : n / 16 < 16 ^ N := Nat.div_lt_of_lt_mul (by rw [Nat.pow_succ, Nat.mul_comm] at h; exact h)
  obtain ⟨i1, i2⟩ := dg_rep k N (n / 16) h1 fun d hq => hd d (List.mem_cons_of_mem _ hq)
  have h2 : n % 16 + k < 16 := hd _ List.mem_cons_self
  have e : n + k * rep (N + 1) = 16 * (n / 16 + k * rep N) + (n % 16 + k) := by
   rw [rep, Nat.mul_add, Nat.mul_one, Nat.mul_left_comm k 16, Nat.mul_add 16, Nat.add_add_add_comm, Nat.div_add_mod]
  refine ⟨?_, ?_⟩
  ·show (n + k * rep (N + 1)) % 16 :: dg ((n + k * rep (N + 1)) / 16) N = (n % 16 + k) :: (dg (n / 16) N).map (· + k)
   rw [← i1, e]
   rw [(dm16 h2).1, (dm16 h2).2]
  ·rw [e, Nat.pow_succ]
   exact Nat.lt_of_lt_of_le (Nat.add_lt_add_left h2 _) (by rw [← Nat.mul_succ, Nat.mul_comm]; exact Nat.mul_le_mul_right 16 i2)
theorem R19_rep : R19 = rep 19 := by decide +kernel
theorem figs_le {m : Nat} (h : m < 1024) : (∀ d ∈ figs m, d ≤ 5) ∧ prodN m < 16 ^ 19 ∧ (figs m).getD 9 0 = 0 := by
 have := of_all allA h
 unfold chA at this
 obtain ⟨h1, h3⟩ := Bool.and_eq_true_iff.mp this
 obtain ⟨h1, h2⟩ := Bool.and_eq_true_iff.mp h1
 refine ⟨fun d hd => ?_, ?_, ?_⟩
 ·obtain ⟨i, hi⟩ := List.mem_iff_getElem?.mp hd
  have hi' : i < 19 := by
   have := (List.getElem?_eq_some_iff.mp hi).1
   unfold figs at this
   rwa [dg_len] at this
  have e : fg m i = d := by
   rw [← fg_get hi', List.getD_eq_getElem?_getD, hi]; rfl
  rw [← e]
  exact Nat.le_of_ble_eq_true (List.all_eq_true.mp h1 i (show i ∈ List.range 19 from List.mem_range.mpr hi'))
 ·have := Nat.blt_eq.mp h2
  rw [prF_eq] at this; exact this
 ·rw [fg_get (by decide)]; exact Nat.eq_of_beq_eq_true h3
end Mine.Internal.L01
namespace Mine.Internal.L01
open PySem PyProof.Rows PySem.W PySem.SeqAt PySem.Calls PySem.Challenge Mine.Internal
variable {cl : Str → List V → List (Str × V) → M V} {σ : Sto}
noncomputable def tI (M0 : Bool) : M Bool := if M0 = true then M.pure true else M.pure false
theorem tI_e (b : Bool) (σ : Sto) : tI b σ = some (b, σ) := by cases b <;> rfl
noncomputable def nLs (l : List Nat) : V := .list (l.map iV)
noncomputable def hkS (i : Nat) : Stmt := at' (bodyOf "_law_hooks") i
noncomputable def nHk : List (Str × NameKind) := namesOf "_law_hooks"
noncomputable def hb (a b : V) (m : List (Str × V)) : Vars := ([("ones", a), ("others", b)] : Vars) ++ m
noncomputable def H0 : Expr := asV (hkS 0)
noncomputable def H1 : Expr := caA 0 (lcElt H0)
noncomputable def hn0 : List (Str × NameKind) := compNames (lcSc H0)
noncomputable def hn1 : List (Str × NameKind) := compNames (lcSc H1)
noncomputable def o0 (b x : V) : Vars := [("others", b), ("one", x)]
noncomputable def hkR (i : Nat) : Stmt := at' (frBody (hkS 2)) i
noncomputable def hkI (i : Nat) : Stmt := at' (frBody (hkR 0)) i
noncomputable def H2 : Expr := caA 0 (asV (hkI 0))
noncomputable def hn2 : List (Str × NameKind) := compNames (lcSc H2)
theorem hk_k : (isAs (hkS 0) ∧ isLc H0 ∧ isLc H1 ∧ isFr (hkS 2) ∧ frBody (hkS 2) = [hkR 0] ∧ isFr (hkR 0) ∧ frBody (hkR 0) = [hkI 0, hkI 1] ∧ isAs (hkI 0) ∧ isLc H2) ∧ bodyOf "_law_hooks" = [hkS 0, hkS 1, hkS 2, hkS 3] := ⟨⟨by kernel_rfl, by kernel_rfl, by kernel_rfl, by kernel_rfl, by kernel_rfl, by kernel_rfl, by kernel_rfl, by kernel_rfl, by kernel_rfl⟩, by kernel_rfl⟩
noncomputable def cH0 (b : V) : Vars := [("others", b)]
noncomputable def cH1 (x : V) : Vars := [("one", x)]
noncomputable def oH1 (x y : V) : Vars := [("one", x), ("place", y)]
theorem h0_c (a b : V) : LcK cfg cl 13 ⟨nHk, hb a b []⟩ σ H0 iV (cH0 b) (fun x => o0 b (iV x)) := ⟨by kernel_rfl, by kernel_rfl, fun _ => by kernel_rfl, fun _ _ => by kernel_rfl⟩
theorem h1_c (b x : V) : LcK cfg cl 10 ⟨hn0, o0 b x⟩ σ H1 iV (cH1 x) (fun y => oH1 x (iV y)) := ⟨by kernel_rfl, by kernel_rfl, fun _ => by kernel_rfl, fun _ _ => by kernel_rfl⟩
theorem h0_it (a b : V) : (low cfg cl 14).ev ⟨nHk, hb a b []⟩ (lcG H0).iter σ = some (a, σ) ∧ (∀ x, tests (low cfg cl 13) ⟨hn0, o0 b x⟩ (lcG H0).ifs σ = some (true, σ)) ∧ (∀ x, (low cfg cl 13).ev ⟨hn0, o0 b x⟩ (lcElt H0) σ = ob (ob ((low cfg cl 12).ev ⟨hn0, o0 b x⟩ H1 σ) fun v => M.pure [v]) fun vs => callB "len" vs) := ⟨by kernel_rfl, fun _ => by kernel_rfl, fun _ => by kernel_rfl⟩
theorem h1_it (b x : V) : (low cfg cl 11).ev ⟨hn0, o0 b x⟩ (lcG H1).iter σ = some (b, σ) ∧ (∀ y z : Nat, tests (low cfg cl 10) ⟨hn1, oH1 (iV y) (iV z)⟩ (lcG H1).ifs σ = tI (decide ((z : Int) < y)) σ) ∧ (∀ y, (low cfg cl 10).ev ⟨hn1, oH1 x y⟩ (lcElt H1) σ = some (y, σ)) := ⟨by kernel_rfl, fun _ _ => by kernel_rfl, fun _ => by kernel_rfl⟩
theorem h0_as (a b : V) (s : List V) : (M.bind (thaw cfg (asT (hkS 0)) (asV (hkS 0)) (.list s)) fun v => M.bind (setTo (low cfg cl 14) ⟨nHk, hb a b []⟩ (asT (hkS 0)) v) fun vars => nx vars) σ = some ((.next, hb a b [("sizes", .list s)]), σ) := by kernel_rfl
theorem blt_dec (a b : Nat) : Nat.blt a b = decide ((a : Int) < b) := by
 by_cases h : a < b
 ·rw [decide_eq_true (Int.ofNat_lt.mpr h)]; exact Nat.blt_eq.mpr h
 ·rw [decide_eq_false (fun q => h (Int.ofNat_lt.mp q))]
  exact Bool.eq_false_iff.mpr fun q => h (Nat.blt_eq.mp q)
theorem h0_run {a b : List Nat} (ha : a.length ≤ 10) (hb' : b.length ≤ 10) : exStep cfg (low cfg cl 14) ⟨nHk, hb (nLs a) (nLs b) []⟩ (hkS 0) σ = some ((.next, hb (nLs a) (nLs b) [("sizes", nLs (szN a b))]), σ) := by
 obtain ⟨i1, i2, i3⟩ := h0_it (cl := cl) (σ := σ) (nLs a) (nLs b)
 refine as_run hk_k.1.1 ((evV_lc hk_k.1.2.1 σ).trans (lc_st (n := 13) (h0_c (nLs a) (nLs b)) (fun _ => true) (fun o => iV (b.filter fun p => Nat.blt p o).length) i1 rfl rfl (fun x _ => i2 (iV x)) (fun x _ _ => (i3 (iV x)).trans ?_) (Nat.le_trans ha (by decide)))) ?_
 ·obtain ⟨j1, j2, j3⟩ := h1_it (cl := cl) (σ := σ) (nLs b) (iV x)
  have h := r_lc (n := 11) hk_k.1.2.2.1 (lc_st (n := 10) (h1_c (cl := cl) (σ := σ) (nLs b) (iV x)) (fun p => Nat.blt p x) iV j1 rfl rfl (fun y _ => (j2 x y).trans ((tI_e ..).trans (by rw [blt_dec]))) (fun y _ _ => j3 (iV y)) (Nat.le_trans hb' (by decide)))
  rw [h, ob_some, pure_app, ob_some, len_list (by rw [List.length_map]; exact Nat.le_trans (List.length_filter_le ..) (Nat.le_trans hb' (by decide))), List.length_map]
 ·have e : (a.map fun o => iV (b.filter fun p => Nat.blt p o).length) = (szN a b).map iV := (List.map_map (l := a) (f := fun o => (b.filter fun p => Nat.blt p o).length) (g := iV)).symm
  rw [filt, e]
  exact h0_as ..
noncomputable def hM (m : List V) : List (Str × V) := (["row", "column", "below"] : List Str).zip m
noncomputable def hv (a b z h : V) (m : List V) : Vars := hb a b (([("sizes", z), ("hooks", h)] : Vars) ++ hM m)
theorem h1_s (a b z : V) : exStep cfg (low cfg cl 14) ⟨nHk, hb a b [("sizes", z)]⟩ (hkS 1) σ = some ((.next, hv a b z (.lst σ.length) []), σ ++ [[]]) := by kernel_rfl
theorem h3_s (a b z h : V) (m : List V) (hm : m = [] ∨ (∃ r, m = [r]) ∨ Ex3 fun r c l => m = [r, c, l]) : exStep cfg (low cfg cl 14) ⟨nHk, hv a b z h m⟩ (hkS 3) σ = some ((.ret h, hv a b z h m), σ) := by
 rcases hm with rfl | ⟨r, rfl⟩ | ⟨r, c, l, rfl⟩
 ·kernel_rfl
 ·kernel_rfl
 ·kernel_rfl
theorem r_it (a b h : V) (z : List V) : (low cfg cl 14).ev ⟨nHk, hv a b (.list z) h []⟩ (frIter (hkS 2)) σ = ob (ob (callB "len" [.list z] σ) fun v => M.pure [v]) fun vs => callT "range" vs := by kernel_rfl
theorem r_set (a b z h x : V) (m : List V) (hm : m = [] ∨ (∃ r, m = [r]) ∨ Ex3 fun r c l => m = [r, c, l]) : setTo (low cfg cl 14) ⟨nHk, hv a b z h m⟩ (frTgt (hkS 2)) x σ = some (hv a b z h (x :: m.drop 1), σ) := by
 rcases hm with rfl | ⟨r, rfl⟩ | ⟨r, c, l, rfl⟩
 ·kernel_rfl
 ·kernel_rfl
 ·kernel_rfl
noncomputable def cQ (m : List V) : Prop := m = [] ∨ Ex2 fun c l => m = [c, l]
theorem c_it (a b h x : V) (z : List V) (m : List V) (hm : cQ m) : (low cfg cl 13).ev ⟨nHk, hv a b (.list z) h (x :: m)⟩ (frIter (hkR 0)) σ = ob (ob (indexV (.list z) x σ) fun v => M.pure [v]) fun vs => callT "range" vs := by
 rcases hm with rfl | ⟨c, l, rfl⟩
 ·kernel_rfl
 ·kernel_rfl
theorem c_set (a b z h x y : V) (m : List V) (hm : cQ m) : setTo (low cfg cl 13) ⟨nHk, hv a b z h (x :: m)⟩ (frTgt (hkR 0)) y σ = some (hv a b z h (x :: y :: m.drop 1), σ) := by
 rcases hm with rfl | ⟨c, l, rfl⟩
 ·kernel_rfl
 ·kernel_rfl
noncomputable def cD (m : List V) : Prop := m = [] ∨ ∃ l, m = [l]
noncomputable def cH2 (z : List V) (y : V) : Vars := [("sizes", .list z), ("column", y)]
noncomputable def oH2 (z : List V) (y k : V) : Vars := [("sizes", .list z), ("column", y), ("k", k)]
theorem h2_c (a b h x y : V) (z : List V) (m : List V) (hm : cD m) : LcK cfg cl 9 ⟨nHk, hv a b (.list z) h (x :: y :: m)⟩ σ H2 iV (cH2 z y) (fun k => oH2 z y (iV k)) := by
 rcases hm with rfl | ⟨l, rfl⟩
 ·exact ⟨by kernel_rfl, by kernel_rfl, fun _ => by kernel_rfl, fun _ _ => by kernel_rfl⟩
 ·exact ⟨by kernel_rfl, by kernel_rfl, fun _ => by kernel_rfl, fun _ _ => by kernel_rfl⟩
theorem h2_it (a b h x y : V) (z : List V) (m : List V) (hm : cD m) : (low cfg cl 10).ev ⟨nHk, hv a b (.list z) h (x :: y :: m)⟩ (lcG H2).iter σ = callT "range" [x] σ := by
 rcases hm with rfl | ⟨l, rfl⟩
 ·kernel_rfl
 ·kernel_rfl
theorem h2_p (y : V) (z : List V) (k : V) : tests (low cfg cl 9) ⟨hn2, oH2 z y k⟩ (lcG H2).ifs σ = ob (ob (indexV (.list z) k σ) fun v => cmpV cfg .Gt v y) tI ∧ (low cfg cl 9).ev ⟨hn2, oH2 z y k⟩ (lcElt H2) σ = some (k, σ) := ⟨by kernel_rfl, by kernel_rfl⟩
theorem h2_v (a b h x y : V) (z : List V) (m : List V) (hm : cD m) : exStep cfg (low cfg cl 12) ⟨nHk, hv a b (.list z) h (x :: y :: m)⟩ (hkI 0) σ = ob (ob (ob ((low cfg cl 11).ev ⟨nHk, hv a b (.list z) h (x :: y :: m)⟩ H2 σ) fun v => M.pure [v]) fun vs => callB "len" vs) fun v => M.bind (th false v) fun v => nx (hv a b (.list z) h [x, y, v]) := by
 rcases hm with rfl | ⟨l, rfl⟩
 ·kernel_rfl
 ·kernel_rfl
theorem h2_a (a b h x y l : V) (z : List V) : exStep cfg (low cfg cl 12) ⟨nHk, hv a b (.list z) h [x, y, l]⟩ (hkI 1) σ = ob (ob (ob (ob (ob (ob (ob (indexV (.list z) x σ) fun v => binV .Sub v y) fun v => binV .Add v l) fun v => M.pure [v, x, y]) fun vs => if vs.length ≤ 65536 then M.pure (.tup vs) else M.fail) fun v => M.pure [v]) fun vs => callMth cfg h "append" vs) fun _ => nx (hv a b (.list z) h [x, y, l]) := by kernel_rfl
noncomputable def hkV (p : Nat × Nat × Nat) : V := .tup [iV p.1, iV p.2.1, iV p.2.2]
noncomputable def hkE (z : List Nat) (row c : Nat) : Nat × Nat × Nat := (z.getD row 0 - c + ((List.range row).filter fun k => Nat.blt c (z.getD k 0)).length, row, c)
theorem h2_run {z : List Nat} {row : Nat} (hr : row < z.length) (hz : z.length ≤ 10) (a b h : V) (c : Nat) (m : List V) (hm : cD m) : (low cfg cl 11).ev ⟨nHk, hv a b (nLs z) h (iV row :: iV c :: m)⟩ H2 σ = some (.list (((List.range row).filter fun k => Nat.blt c (z.getD k 0)).map iV), σ) := by
 have hr' : row < 100 := Nat.lt_of_lt_of_le hr (Nat.le_trans hz (by decide))
 refine r_lc (n := 10) hk_k.1.2.2.2.2.2.2.2.2 (lc_st (n := 9) (it := .rng 0 row 1) (h2_c a b h (iV row) (iV c) (z.map iV) m hm) (fun k => Nat.blt c (z.getD k 0)) iV ((h2_it _ _ _ _ _ _ _ hm).trans (range1N _ σ)) (iter_rngN (Nat.lt_trans hr' (by decide)) σ) rfl (fun k hk => ?_) (fun k _ _ => (h2_p ..).2) (by rw [List.length_range]; exact Nat.le_of_lt (Nat.lt_trans hr' (by decide))))
 have hk := List.mem_range.mp hk
 refine (h2_p ..).1.trans (obT (obT (ix_at (map_at (Nat.lt_trans hk hr) iV 0) (Nat.lt_trans hk (Nat.lt_trans hr' (by decide))) σ) (cmp_gt ..)) ((tI_e ..).trans ?_))
 rw [blt_dec]
theorem mth_append (C : Cfg) {r : Nat} {x : V} {xs : List V} {σ : Sto} (h : σ[r]? = some xs) (hl : xs.length < 65536) : callMth C (.lst r) "append" [x] σ = some (.none, σ.set r (xs ++ [x])) := by
 have e : callMth C (.lst r) "append" [x] = M.bind (M.look r) (fun xs => if xs.length < 65536 then M.bind (M.put r (xs ++ [x])) fun _ => M.pure .none else M.fail) := by kernel_rfl
 rw [e, bind_app, look_app, h, lookR_some, ob_some, if_pos hl]; rfl
theorem hk_turn {z : List Nat} {row c r : Nat} {acc : List V} (hr : row < z.length) (hz : z.length ≤ 10) (hc : c < z.getD row 0) (hσ : σ[r]? = some acc) (hl : acc.length < 65536) (a b : V) (m : List V) (hm : cD m) : ∃ l, exAll cfg (low cfg cl 12) ⟨nHk, hv a b (nLs z) (.lst r) (iV row :: iV c :: m)⟩ [hkI 0, hkI 1] σ = some ((.next, hv a b (nLs z) (.lst r) [iV row, iV c, l]), σ.set r (acc ++ [hkV (hkE z row c)])) := by
 have hr' : row < 100 := Nat.lt_of_lt_of_le hr (Nat.le_trans hz (by decide))
 refine ⟨iV ((List.range row).filter fun k => Nat.blt c (z.getD k 0)).length, x_next _ _ _ _ _ ((h2_v _ _ _ _ _ _ _ hm).trans (obT (obT (obT (h2_run hr hz _ _ _ c m hm) rfl) (len_list (by rw [List.length_map]; exact Nat.le_trans (List.length_filter_le ..) (by rw [List.length_range]; exact Nat.le_of_lt (Nat.lt_trans hr' (by decide)))) σ)) rfl)) (x_one ?_)⟩
 rw [List.length_map]
 refine (h2_a ..).trans (obT (obT (obT (obT (obT (obT (obT (ix_at (map_at hr iV 0) (Nat.lt_trans hr' (by decide)) σ) (o_sub ..)) (o_add ..)) rfl) rfl) rfl) (mth_append cfg hσ hl)) ?_)
 have e : (((z.getD row 0 : Nat) : Int) - (c : Nat) + (((List.range row).filter fun k => Nat.blt c (z.getD k 0)).length : Nat)) = ((hkE z row c).1 : Nat) := by
  unfold hkE
  rw [← Int.ofNat_sub (Nat.le_of_lt hc)]; rfl
 rw [e]; rfl
structure HkI (a b : V) (z : List Nat) (σ : Sto) (row : Nat) (pre : List (Nat × Nat × Nat)) (c : Nat) (vars : Vars) (s : Sto) : Prop where
 s : s = σ ++ [(pre ++ (List.range c).map (hkE z row)).map hkV]
 v : ∃ m, cQ m ∧ vars = hv a b (nLs z) (.lst σ.length) (iV row :: m)
theorem hk_in {z : List Nat} {row : Nat} {pre : List (Nat × Nat × Nat)} (hr : row < z.length) (hz : z.length ≤ 10) (h10 : ∀ i, z.getD i 0 ≤ 10) (hp : pre.length ≤ 100) (a b : V) (m : List V) (hm : cQ m) :
  ∃ m', cQ m' ∧ exStep cfg (low cfg cl 13) ⟨nHk, hv a b (nLs z) (.lst σ.length) (iV row :: m)⟩ (hkR 0) (σ ++ [pre.map hkV]) = some ((.next, hv a b (nLs z) (.lst σ.length) (iV row :: m')), σ ++ [(pre ++ hkRow z row).map hkV]) := by
 have hr' : row < 100 := Nat.lt_of_lt_of_le hr (Nat.le_trans hz (by decide))
 have hN : z.getD row 0 < 2 ^ 60 := Nat.lt_of_le_of_lt (h10 row) (by decide)
 obtain ⟨vars', σ', h1, h2, m', h3, h4⟩ := for_range (N := z.getD row 0) (r := low cfg cl 13) (names := nHk) (tgt := frTgt (hkR 0)) (body := frBody (hkR 0)) (chk := none) (all := (List.range (z.getD row 0)).map iV) (HkI a b z σ row pre)
  (fun _ _ _ _ => rfl)
  (fun c vars s hc h => by
   obtain ⟨rfl, m, hm, rfl⟩ := h
   have hcl : c ≤ 10 := Nat.le_trans (Nat.le_of_lt hc) (h10 row)
   have hd : cD (m.drop 1) := by
    rcases hm with rfl | ⟨c, l, rfl⟩
    ·exact .inl rfl
    ·exact .inr ⟨l, rfl⟩
   obtain ⟨l, ht⟩ := hk_turn (cl := cl) hr hz hc (app_get σ [(pre ++ (List.range c).map (hkE z row)).map hkV] 0) (by rw [List.length_map, List.length_append, List.length_map, List.length_range]; exact Nat.lt_of_le_of_lt (Nat.add_le_add hp hcl) (by decide)) a b (m.drop 1) hd
   refine ⟨_, hv a b (nLs z) (.lst σ.length) [iV row, iV c, l], σ ++ [(pre ++ (List.range (c + 1)).map (hkE z row)).map hkV], c_set _ _ _ _ _ _ _ hm, ?_, rfl, [iV c, l], .inr ⟨_, _, rfl⟩, rfl⟩
   show exAll cfg (low cfg cl 12) _ _ _ = _
   rw [hk_k.1.2.2.2.2.2.2.1]
   refine ht.trans ?_
   have e : (pre ++ (List.range (c + 1)).map (hkE z row)).map hkV = (pre ++ (List.range c).map (hkE z row)).map hkV ++ [hkV (hkE z row c)] := by simp only [List.range_succ, List.map_append, List.map_cons, List.map_nil, List.append_assoc]
   rw [app_set, e]
   rfl)
  (hv a b (nLs z) (.lst σ.length) (iV row :: m)) (hv a b (nLs z) (.lst σ.length) (iV row :: m)) (σ ++ [pre.map hkV]) ⟨by rw [List.range_zero, List.map_nil, List.append_nil], m, hm, rfl⟩
 subst h2 h4
 refine ⟨m', h3, ?_⟩
 rw [g_for hk_k.1.2.2.2.2.2.1, nLs, c_it _ _ _ _ _ _ hm, ix_at (map_at hr iV 0) (Nat.lt_trans hr' (by decide)), ob_some, pure_app, ob_some, range1N, ob_some, bind_app, iter_rngN hN, ob_some]
 exact h1
structure HkO (a b : V) (z : List Nat) (σ : Sto) (d : Nat) (vars : Vars) (s : Sto) : Prop where
 s : s = σ ++ [((List.range d).flatMap (hkRow z)).map hkV]
 l : ((List.range d).flatMap (hkRow z)).length ≤ 10 * d
 v : ∃ m, (m = [] ∨ (∃ r, m = [r]) ∨ Ex3 fun r c l => m = [r, c, l]) ∧ vars = hv a b (nLs z) (.lst σ.length) m
theorem hk_out {z : List Nat} (hz : z.length ≤ 10) (h10 : ∀ i, z.getD i 0 ≤ 10) (a b : V) : ∃ m, (m = [] ∨ (∃ r, m = [r]) ∨ Ex3 fun r c l => m = [r, c, l]) ∧
  exStep cfg (low cfg cl 14) ⟨nHk, hv a b (nLs z) (.lst σ.length) []⟩ (hkS 2) (σ ++ [[]]) = some ((.next, hv a b (nLs z) (.lst σ.length) m), σ ++ [(hkN z).map hkV]) := by
 have hN : z.length < 2 ^ 60 := Nat.lt_of_le_of_lt hz (by decide)
 obtain ⟨vars', σ', h1, h2, _, m', h3, h4⟩ := for_range (N := z.length) (r := low cfg cl 14) (names := nHk) (tgt := frTgt (hkS 2)) (body := frBody (hkS 2)) (chk := none) (all := (List.range z.length).map iV) (HkO a b z σ)
  (fun _ _ _ _ => rfl)
  (fun d vars s hd h => by
   obtain ⟨rfl, hl, m, hm, rfl⟩ := h
   have hq : cQ (m.drop 1) := by
    rcases hm with rfl | ⟨r, rfl⟩ | ⟨r, c, l, rfl⟩
    ·exact .inl rfl
    ·exact .inl rfl
    ·exact .inr ⟨c, l, rfl⟩
   obtain ⟨m', hm', ht⟩ := hk_in (cl := cl) (σ := σ) hd hz h10 (Nat.le_trans hl (show 10 * d ≤ 100 from Nat.mul_le_mul_left 10 (Nat.le_trans (Nat.le_of_lt hd) hz))) a b (m.drop 1) hq
   have e : (List.range (d + 1)).flatMap (hkRow z) = (List.range d).flatMap (hkRow z) ++ hkRow z d := by
    rw [List.range_succ, List.flatMap_append, List.flatMap_singleton]
   refine ⟨_, hv a b (nLs z) (.lst σ.length) (iV d :: m'), σ ++ [((List.range (d + 1)).flatMap (hkRow z)).map hkV], r_set _ _ _ _ _ _ hm, ?_, rfl, ?_, iV d :: m', ?_, rfl⟩
   ·show exAll cfg (low cfg cl 13) _ _ _ = _
    rw [hk_k.1.2.2.2.2.1, e]
    exact x_one ht
   ·rw [e, List.length_append]
    refine Nat.add_le_add hl ?_
    unfold hkRow
    rw [List.length_map, List.length_range]; exact h10 d
   ·rcases hm' with rfl | ⟨c, l, rfl⟩
    ·exact .inr (.inl ⟨_, rfl⟩)
    ·exact .inr (.inr ⟨_, _, _, rfl⟩))
  (hv a b (nLs z) (.lst σ.length) []) (hv a b (nLs z) (.lst σ.length) []) (σ ++ [[]]) ⟨rfl, Nat.le_refl _, [], .inl rfl, rfl⟩
 subst h2 h4
 refine ⟨m', h3, ?_⟩
 rw [g_for hk_k.1.2.2.2.1, nLs, r_it, len_list (by rw [List.length_map]; exact Nat.le_trans hz (by decide)), ob_some, pure_app, ob_some, List.length_map, range1N, ob_some, bind_app, iter_rngN hN, ob_some]
 exact h1
theorem szN_le {a b : List Nat} (hb : b.length ≤ 10) (i : Nat) : (szN a b).getD i 0 ≤ 10 := by
 unfold szN
 rw [List.getD_eq_getElem?_getD, List.getElem?_map]
 cases a[i]? with
 | none => exact Nat.zero_le _
 | some x => exact Nat.le_trans (List.length_filter_le ..) hb
theorem hk_call {a b : List Nat} {k : Nat} (ha : a.length ≤ 10) (hb' : b.length ≤ 10) (hk : 15 < k) (σ : Sto) : (tie cfg k).call "_law_hooks" [nLs a, nLs b] [] σ = some (.lst σ.length, σ ++ [(hkN (szN a b)).map hkV]) := by
 have hz : (szN a b).length ≤ 10 := by unfold szN; rw [List.length_map]; exact ha
 obtain ⟨m, hm, h2⟩ := hk_out (cl := (tie cfg 0).call) (σ := σ) hz (szN_le hb') (nLs a) (nLs b)
 refine call_run (n := 15) (m := 0) (names := nHk) (body := bodyOf "_law_hooks") (vars := hb (nLs a) (nLs b) []) (by kernel_rfl) hk (vars' := hv (nLs a) (nLs b) (nLs (szN a b)) (.lst σ.length) m) ?_
 show exAll cfg (low cfg (tie cfg 0).call 14) _ _ σ = _
 rw [hk_k.2]
 exact x_next _ _ _ _ _ (h0_run ha hb') (x_next _ _ _ _ _ (h1_s ..) (x_next _ _ _ _ _ h2 (x_ret _ _ _ _ _ (h3_s _ _ _ _ _ hm))))
noncomputable def fgS (i : Nat) : Stmt := at' (bodyOf "_law_figures") i
noncomputable def nFg : List (Str × NameKind) := namesOf "_law_figures"
noncomputable def fgv (w n : V) : Vars := [("word", w), ("size", n)]
noncomputable def F0 (i : Nat) : Expr := boV i (ifTest (fgS 0))
noncomputable def FX : Expr := ixV (biL (rtV (fgS 1)))
noncomputable def fn0 : List (Str × NameKind) := compNames (lcSc FX)
noncomputable def fo (x : V) : Vars := [("octet", x)]
noncomputable def bV (u : UInt8) : V := .int (u.toNat : Nat)
theorem fg_k : (isIf (fgS 0) ∧ ifElse (fgS 0) = [] ∧ isOr (ifTest (fgS 0)) ∧ boVs (ifTest (fgS 0)) = [F0 0, F0 1, F0 2] ∧ isLc FX) ∧ bodyOf "_law_figures" = [fgS 0, fgS 1] := ⟨⟨by kernel_rfl, by kernel_rfl, by kernel_rfl, by kernel_rfl, by kernel_rfl⟩, by kernel_rfl⟩
theorem fg_0 (b : Array UInt8) (n : V) : (low cfg cl 13).ts ⟨nFg, fgv (.bytes b) n⟩ (F0 0) σ = some (false, σ) := by kernel_rfl
theorem fg_1 (w n : V) : (low cfg cl 13).ts ⟨nFg, fgv w n⟩ (F0 1) σ = ob (sliceV w .none (.int 1) .none σ) fun v => cmpV cfg .Eq v (.bytes #[65]) := by kernel_rfl
theorem fg_2 (w n : V) : (low cfg cl 13).ts ⟨nFg, fgv w n⟩ (F0 2) σ = ob (callB "len" [w] σ) fun v => cmpV cfg .Gt v n := by kernel_rfl
theorem fx_c (w n : V) : LcK cfg cl 10 ⟨nFg, fgv w n⟩ σ FX bV [] (fun x => fo (bV x)) := ⟨by kernel_rfl, by kernel_rfl, fun _ => by kernel_rfl, fun _ _ => by kernel_rfl⟩
theorem fx_it (w n : V) : (low cfg cl 11).ev ⟨nFg, fgv w n⟩ (lcG FX).iter σ = some (w, σ) ∧ (∀ x, tests (low cfg cl 10) ⟨fn0, fo x⟩ (lcG FX).ifs σ = some (true, σ)) ∧ (∀ x, (low cfg cl 10).ev ⟨fn0, fo x⟩ (lcElt FX) σ = binV .Sub x (.int 65) σ) := ⟨by kernel_rfl, fun _ => by kernel_rfl, fun _ => by kernel_rfl⟩
theorem fg_r (w n : V) : exStep cfg (low cfg cl 14) ⟨nFg, fgv w n⟩ (fgS 1) σ = ob (ob (ob ((low cfg cl 12).ev ⟨nFg, fgv w n⟩ FX σ) fun v => sliceV v .none .none (.int (-1))) fun a => M.bind (M.bind (M.bind (callB "len" [w]) fun l => binV .Sub n l) fun k => binV .Mult (.list [.int 0]) k) fun b => binV .Add a b) fun v => rt v (fgv w n) := by kernel_rfl
theorem len_bytes {l : List UInt8} (h : l.length ≤ 65536) (σ : Sto) : callB "len" [.bytes l.toArray] σ = some (iV l.length, σ) := by
 have e : callB "len" [.bytes l.toArray] = if l.toArray.size ≤ 65536 then M.pure (.int l.toArray.size) else M.fail := by kernel_rfl
 rw [e, if_pos (show l.toArray.size ≤ 65536 from h)]; rfl
theorem cut1 {l : List UInt8} (h : l.length ≤ 65536) (σ : Sto) : sliceV (.bytes l.toArray) .none (.int 1) .none σ = some (.bytes (cut none (some 1) l).toArray, σ) := by
 have e : sliceV (.bytes l.toArray) .none (.int 1) .none = if l.toArray.size ≤ 65536 then M.pure (.bytes (cut none (some 1) l).toArray) else M.fail := by kernel_rfl
 rw [e, if_pos (show l.toArray.size ≤ 65536 from h)]; rfl
theorem sl_rev {xs : List V} (h : xs.length ≤ 65536) (σ : Sto) : sliceV (.list xs) .none .none (.int (-1)) σ = some (.list xs.reverse, σ) := by
 have e : sliceV (.list xs) .none .none (.int (-1)) = if xs.length ≤ 65536 then M.pure (.list xs.reverse) else M.fail := by kernel_rfl
 rw [e, if_pos h]; rfl
theorem add_list {xs ys : List V} (h : xs.length + ys.length ≤ 65536) (σ : Sto) : binV .Add (.list xs) (.list ys) σ = some (.list (xs ++ ys), σ) := by
 have e : binV .Add (.list xs) (.list ys) = if xs.length + ys.length ≤ 65536 then M.pure (.list (xs ++ ys)) else M.fail := by kernel_rfl
 rw [e, if_pos h]; rfl
theorem mul_list {n : Nat} (h : n ≤ 65536) (v : V) (σ : Sto) : binV .Mult (.list [v]) (iV n) σ = some (.list (List.replicate n v), σ) := by
 have e : binV .Mult (.list [v]) (iV n) = if (decide (0 ≤ (n : Int)) && decide ((n : Int) ≤ 65536)) = true then M.pure (.list (List.replicate (n : Int).toNat [v]).flatten) else M.fail := by kernel_rfl
 rw [e, if_pos (by rw [decide_eq_true (Int.natCast_nonneg n), decide_eq_true (show (n : Int) ≤ 65536 from Int.ofNat_le.mpr h)]; rfl), Int.toNat_natCast]
 have : ∀ k, (List.replicate k [v]).flatten = List.replicate k v := fun k => by
  induction k with
  | zero => rfl
  | succ k ih => rw [List.replicate_succ, List.flatten_cons, ih]; rfl
 rw [this]; rfl
theorem dg_pad : ∀ N n, (pad N n).reverse = (dg n N).map fun d => UInt8.ofNat (65 + d)
 | 0, _ => rfl
 | N + 1, n => by
  rw [pad, List.reverse_append, dg_pad N (n / 16)]; rfl
theorem dg_lt : ∀ N n, ∀ d ∈ dg n N, d < 16
 | 0, _, _, h => absurd h List.not_mem_nil
 | N + 1, n, d, h => by
  rcases List.mem_cons.mp h with rfl | h
  ·exact Nat.mod_lt _ (by decide)
  ·exact dg_lt N (n / 16) d h
noncomputable def fV (u : UInt8) : V := .int ((u.toNat : Nat) - 65)
theorem fig_eq {N n : Nat} (h : n < 16 ^ N) (hN : N ≤ 64) : ((apL 64 n []).map fV).reverse ++ List.replicate (N - (apL 64 n []).length) (.int 0) = (dg n N).map iV := by
 obtain ⟨_, h2⟩ := pad_apL N 64 n h hN
 have h3 := congrArg (fun l => (l.reverse).map fV) h2
 have h4 : ((List.replicate (N - (apL 64 n []).length) 65 ++ apL 64 n []).reverse).map fV = (pad N n).reverse.map fV := h3
 rw [dg_pad, List.map_map, List.reverse_append, List.reverse_replicate, List.map_append, List.map_reverse, List.map_replicate] at h4
 refine h4.trans (List.map_congr_left fun d hd => ?_)
 have hd' := dg_lt N n d hd
 show V.int (((UInt8.ofNat (65 + d)).toNat : Nat) - 65) = .int (d : Nat)
 rw [UInt8.toNat_ofNat_of_lt' (show 65 + d < 256 by lia)]
 congr 1
 lia
theorem not_head {l : List UInt8} (h : l.take 1 ≠ [65]) (σ : Sto) : cmpV cfg .Eq (.bytes (cut none (some 1) l).toArray) (.bytes #[65]) σ = some (false, σ) := by
 have e : cmpV cfg .Eq (.bytes (cut none (some 1) l).toArray) (.bytes #[65]) = M.pure ((cut none (some 1) l) == [65]) := by kernel_rfl
 have e2 : cut none (some 1) l = l.take 1 := by
  cases l with
  | nil => rfl
  | cons x l =>
   show ((x :: l).drop 0).take (clipAt (l.length + 1) 1 - 0) = _
   have : clipAt (l.length + 1) 1 = 1 := (clipAt_nat (l.length + 1) 1).trans (Nat.min_eq_left (Nat.le_add_left 1 _))
   rw [this]; rfl
 rw [e, e2]
 show some ((l.take 1 == [65]), σ) = _
 rw [beq_eq_false_iff_ne.mpr h]
theorem fg_call {N n k : Nat} (h : n < 16 ^ N) (hN : N ≤ 64) (hk : 15 < k) (σ : Sto) : (tie cfg k).call "_law_figures" [.bytes (apL 64 n []).toArray, iV N] [] σ = some (nLs (dg n N), σ) := by
 obtain ⟨h1, _⟩ := pad_apL N 64 n h hN
 have hl : (apL 64 n []).length ≤ 65536 := Nat.le_trans h1 (Nat.le_trans hN (by decide))
 have h64 : n < 16 ^ 64 := Nat.lt_of_lt_of_le h (Nat.pow_le_pow_right (by decide) hN)
 generalize hA : apL 64 n [] = A at *
 have hd : A.take 1 ≠ [65] := hA ▸ apL_head 64 n h64
 have e := fig_eq h hN
 rw [hA] at e
 refine call_run (n := 15) (m := 0) (names := nFg) (body := bodyOf "_law_figures") (vars := fgv (.bytes A.toArray) (iV N)) (by kernel_rfl) hk (vars' := fgv (.bytes A.toArray) (iV N)) ?_
 show exAll cfg (low cfg (tie cfg 0).call 14) _ _ σ = _
 rw [fg_k.2]
 refine x_next _ _ _ _ _ (if_not (σ1 := σ) fg_k.1.1 fg_k.1.2.1 (r_or fg_k.1.2.2.1 ?_)) (x_ret _ _ _ _ _ ((fg_r ..).trans ?_))
 ·rw [fg_k.1.2.2.2.1]
  refine r_or_f (fg_0 ..) (r_or_f ((fg_1 ..).trans (obT (cut1 hl σ) (not_head hd σ))) (r_or_f ((fg_2 ..).trans (obT (len_bytes hl σ) ((cmp_gt ..).trans ?_))) rfl))
  rw [decide_eq_false (show ¬ ((A.length : Nat) : Int) > (N : Nat) from Int.not_lt.mpr (Int.ofNat_le.mpr h1))]
 ·obtain ⟨i1, i2, i3⟩ := fx_it (cl := (tie cfg 0).call) (σ := σ) (.bytes A.toArray) (iV N)
  have hx := r_lc (n := 11) fg_k.1.2.2.2.2 (lc_st (n := 10) (ys := A) (chk := none) (fx_c (cl := (tie cfg 0).call) (σ := σ) (.bytes A.toArray) (iV N)) (fun _ => true) fV i1 rfl rfl (fun x _ => i2 (bV x)) (fun x _ _ => (i3 (bV x)).trans (o_sub ..)) hl)
  rw [filt] at hx
  refine obT (obT (obT hx (sl_rev (by rw [List.length_map]; exact hl) σ)) (obT (obT (obT (len_bytes hl σ) (o_sub ..)) ?_) (add_list (ys := List.replicate (N - A.length) (.int 0)) ?_ σ))) ?_
  ·rw [← Int.ofNat_sub h1]; exact mul_list (Nat.le_trans (Nat.sub_le ..) (Nat.le_trans hN (by decide))) _ σ
  ·rw [List.length_reverse, List.length_map, List.length_replicate, Nat.add_sub_cancel' h1]; exact Nat.le_trans hN (by decide)
  ·rw [e]; rfl
end Mine.Internal.L01
namespace Mine.Internal.L01
noncomputable def mv (a s t : Nat) : Nat := Nat.xor (Nat.xor a (Nat.pow 2 s)) (Nat.pow 2 t)
noncomputable def frN (a step : Nat) : List Nat := (pl a).filter fun p => Nat.ble step p && !a.testBit (p - step)
noncomputable def crG (step : Nat) : List Nat → Nat → List Nat
 | [], _ => []
 | p :: l, s => Nat.add (Nat.mul 16 (Nat.mod p step)) (Nat.mod (Nat.div s (Nat.pow 16 (Nat.mod p step))) 16) :: crG step l (Nat.add s (Nat.pow 16 (Nat.mod p step)))
noncomputable def crN (a step : Nat) : List Nat := crG step (plF a) 0
noncomputable def inN (k x : Nat) (l : List Nat) : List Nat := l.take k ++ x :: l.drop k
noncomputable def cL (x : Nat) (l : List Nat) : Nat := l.countP fun y => Nat.blt y x
noncomputable def cR (x : Nat) (l : List Nat) : Nat := l.countP fun y => Nat.ble y x
noncomputable def mvL (os : List Nat) (ks kt : Nat) : List Nat := inN kt (os.getD ks 0) (os.eraseIdx ks)
noncomputable def wn (a step : Nat) : Nat := sumN ((List.range (9 / step)).map fun k => (figs a).getD (9 + (step + k * step)) 0)
noncomputable def wnF (a step : Nat) : Nat := sumN ((List.range (Nat.div 9 step)).map fun k => fg a (Nat.add 9 (Nat.add step (Nat.mul k step))))
noncomputable def md (a step : Nat) : Nat := numN a % (16 ^ step - 1)
noncomputable def mdF (a step : Nat) : Nat := Nat.mod (numF a) (Nat.sub (Nat.pow 16 step) 1)
noncomputable def rs (a step : Nat) : List Nat := dg (md a step) step
noncomputable def cls (m step c : Nat) : List Nat := (pl m).filter fun p => Nat.beq (p % step) c
noncomputable def clF (m step c : Nat) : List Nat := (plF m).filter fun p => Nat.beq (Nat.mod p step) c
noncomputable def GN (m step k : Nat) : Nat := (cls m step (k / 16)).getD (k % 16) 0
noncomputable def GF (m step k : Nat) : Nat := (clF m step (Nat.div k 16)).getD (Nat.mod k 16) 0
noncomputable def coreP (r : List Nat) (step p : Nat) : Bool := Nat.blt (p / step) (r.getD (p % step) 0)
theorem frF_eq : frF = frN := funext fun a => funext fun s => by
 unfold frF
 rw [plF_eq, bt_fun]; rfl
theorem mdF_eq : mdF = md := funext fun a => funext fun s => by
 unfold mdF
 rw [numF_eq]; rfl
theorem clF_eq : clF = cls := funext fun a => funext fun s => funext fun c => by
 unfold clF
 rw [plF_eq]; rfl
theorem GF_eq : GF = GN := funext fun a => funext fun s => funext fun k => by
 unfold GF
 rw [clF_eq]; rfl
theorem wnF_eq {a step : Nat} (h : step = 2 ∨ step = 3 ∨ step = 4) : wnF a step = wn a step := by
 unfold wnF wn
 have e : ∀ k ∈ List.range (9 / step), 9 + (step + k * step) < 19 := by
  rcases h with rfl | rfl | rfl <;> decide +kernel
 exact congrArg sumN (List.map_congr_left fun k hk => (fg_get (e k hk)).symm)
noncomputable def isE (l : List Nat) : Bool := match l with
 | [] => true
 | _ => false
noncomputable def chkM1 (a step b ks kt : Nat) : Bool := Nat.beq (Nat.add (wnF b step) 1) (wnF a step) && Nat.beq (mdF b step) (mdF a step) && leq (crN b step) (mvL (crN a step) ks kt)
noncomputable def chkM (step a : Nat) : Bool := (frF a step).all fun s => chkM1 a step (mv a s (Nat.sub s step)) (cL s (plF a)) (cL (Nat.sub s step) (plF a))
noncomputable def chkE (step a : Nat) : Bool := !isE (frF a step) || (leq (plF a) (R10.filter (coreP (dg (mdF a step) step) step)) && Nat.beq (wnF a step) 0 && leq (crN a step) ((plF a).map fun p => Nat.add (Nat.mul 16 (Nat.mod p step)) (Nat.div p step)))
noncomputable def chkI (step m : Nat) : Bool := leq ((crN m step).map (GF m step)) (plF m) && leq (dg (mdF m step) step) ((List.range step).map fun c => (clF m step c).length) && Nat.ble (wnF m step) 39
theorem chI2 : All (chkI 2) := ⟨by decide +kernel, by decide +kernel, by decide +kernel, by decide +kernel⟩
theorem chI3 : All (chkI 3) := ⟨by decide +kernel, by decide +kernel, by decide +kernel, by decide +kernel⟩
theorem chI4 : All (chkI 4) := ⟨by decide +kernel, by decide +kernel, by decide +kernel, by decide +kernel⟩
theorem chE2 : All (chkE 2) := ⟨by decide +kernel, by decide +kernel, by decide +kernel, by decide +kernel⟩
theorem chE3 : All (chkE 3) := ⟨by decide +kernel, by decide +kernel, by decide +kernel, by decide +kernel⟩
theorem chE4 : All (chkE 4) := ⟨by decide +kernel, by decide +kernel, by decide +kernel, by decide +kernel⟩
theorem chM2 : All (chkM 2) := ⟨by decide +kernel, by decide +kernel, by decide +kernel, by decide +kernel⟩
theorem chM3 : All (chkM 3) := ⟨by decide +kernel, by decide +kernel, by decide +kernel, by decide +kernel⟩
theorem chM4 : All (chkM 4) := ⟨by decide +kernel, by decide +kernel, by decide +kernel, by decide +kernel⟩
noncomputable def ne1 (x : Nat) (l : List Nat) : List Nat := l.filter fun y => !Nat.beq y x
structure At (x : Nat) (l : List Nat) : Prop where
 er : l.eraseIdx (cL x l) = ne1 x l
 gt : l.getD (cL x l) 10 = x
 r : cR x l = cL x l + 1
 i : inN (cL x l) x (ne1 x l) = l
theorem bne {y x : Nat} (h : y ≠ x) : (!Nat.beq y x) = true := by rw [Bool.eq_false_iff.mpr (fun w => h (Nat.eq_of_beq_eq_true w))]; rfl
theorem at_of {x : Nat} : ∀ {l : List Nat}, l.Pairwise (· < ·) → x ∈ l → At x l
 | y :: l, h, hx => by
  obtain ⟨h1, h2⟩ := List.pairwise_cons.mp h
  by_cases q : x = y
  ·subst q
   have c0 : cL x (x :: l) = 0 := List.countP_eq_zero.mpr fun z hz w => by
    have w := Nat.blt_eq.mp w
    rcases List.mem_cons.mp hz with rfl | hz
    ·exact Nat.lt_irrefl _ w
    ·exact Nat.lt_asymm w (h1 z hz)
   have n0 : ne1 x (x :: l) = l := by
    unfold ne1
    rw [List.filter_cons, Nat.beq_refl]
    exact List.filter_eq_self.mpr fun z hz => bne (Nat.ne_of_gt (h1 z hz))
   have r0 : cR x (x :: l) = 1 := by
    unfold cR
    rw [List.countP_cons_of_pos (p := fun y => Nat.ble y x) (Nat.ble_eq_true_of_le (Nat.le_refl x)), List.countP_eq_zero.mpr fun z hz w => Nat.not_le_of_lt (h1 z hz) (Nat.le_of_ble_eq_true w)]
   exact ⟨by rw [c0, n0]; rfl, by rw [c0]; rfl, by rw [c0, r0], by rw [c0, n0]; rfl⟩
  ·have hx := (List.mem_cons.mp hx).resolve_left q
   obtain ⟨i1, i2, i3, i4⟩ := at_of h2 hx
   have hy := h1 x hx
   have c1 : cL x (y :: l) = cL x l + 1 := List.countP_cons_of_pos (Nat.blt_eq.mpr hy)
   have n1 : ne1 x (y :: l) = y :: ne1 x l := List.filter_cons_of_pos (bne (Nat.ne_of_lt hy))
   have r1 : cR x (y :: l) = cR x l + 1 := List.countP_cons_of_pos (Nat.ble_eq_true_of_le (Nat.le_of_lt hy))
   exact ⟨by rw [c1, n1, ← i1]; rfl, by rw [c1]; exact i2, by rw [c1, r1, i3], by rw [c1, n1]; exact congrArg (y :: ·) i4⟩
theorem cR_out {x : Nat} {l : List Nat} (h : x ∉ l) : cR x l = cL x l := List.countP_congr fun y hy => by
 rw [Nat.blt_eq, Nat.ble_eq]
 exact ⟨fun w => Nat.lt_of_le_of_ne w fun q => h (q ▸ hy), Nat.le_of_lt⟩
theorem cL_ne {t s : Nat} (h : t ≤ s) (l : List Nat) : cL t (ne1 s l) = cL t l := by
 unfold cL ne1
 rw [List.countP_filter]
 refine List.countP_congr fun y _ => ⟨fun w => (Bool.and_eq_true_iff.mp w).1, fun w => Bool.and_eq_true_iff.mpr ⟨w, bne ?_⟩⟩
 exact Nat.ne_of_lt (Nat.lt_of_lt_of_le (Nat.blt_eq.mp w) h)
theorem pl_srt (a : Nat) : (pl a).Pairwise (· < ·) := List.pairwise_lt_range.filter _
theorem hl_srt (a : Nat) : (hl a).Pairwise (· < ·) := List.pairwise_lt_range.filter _
theorem mem_pl {a p : Nat} : p ∈ pl a ↔ p < 10 ∧ a.testBit p = true := List.mem_filter.trans (and_congr_left fun _ => List.mem_range)
theorem mem_hl {a p : Nat} : p ∈ hl a ↔ p < 10 ∧ a.testBit p = false := List.mem_filter.trans (and_congr List.mem_range (Iff.of_eq (Bool.not_eq_true' _)))
theorem mv_bit (a s t p : Nat) : (mv a s t).testBit p = ((a.testBit p ^^ decide (s = p)) ^^ decide (t = p)) := by
 show ((a ^^^ 2 ^ s) ^^^ 2 ^ t).testBit p = _
 rw [Nat.testBit_xor, Nat.testBit_xor, Nat.testBit_two_pow, Nat.testBit_two_pow]
theorem mv_ne {a s t : Nat} (hs : a.testBit s = true) (ht : a.testBit t = false) : ne1 t (pl (mv a s t)) = ne1 s (pl a) ∧ ne1 s (hl (mv a s t)) = ne1 t (hl a) := by
 have hn : s ≠ t := fun q => by rw [q, ht] at hs; exact Bool.noConfusion hs
 have b1 : Nat.beq s t = false := Bool.eq_false_iff.mpr fun w => hn (Nat.eq_of_beq_eq_true w)
 have b2 : Nat.beq t s = false := Bool.eq_false_iff.mpr fun w => hn (Nat.eq_of_beq_eq_true w).symm
 unfold ne1 pl hl
 rw [List.filter_filter, List.filter_filter, List.filter_filter, List.filter_filter]
 refine ⟨List.filter_congr fun p _ => ?_, List.filter_congr fun p _ => ?_⟩
 ·rw [mv_bit]
  by_cases e1 : s = p
  ·subst e1
   rw [hs, decide_eq_true rfl, decide_eq_false hn.symm, Nat.beq_refl, b1]; rfl
  ·rw [decide_eq_false e1]
   by_cases e2 : t = p
   ·subst e2
    rw [ht, Nat.beq_refl, b2]; rfl
   ·rw [decide_eq_false e2, bne fun q => e1 q.symm, bne fun q => e2 q.symm, Bool.xor_false, Bool.xor_false]
 ·rw [mv_bit]
  by_cases e1 : s = p
  ·subst e1
   rw [hs, Nat.beq_refl, b1]; rfl
  ·rw [decide_eq_false e1]
   by_cases e2 : t = p
   ·subst e2
    rw [ht, decide_eq_true rfl, Nat.beq_refl, b2]; rfl
   ·rw [decide_eq_false e2, bne fun q => e1 q.symm, bne fun q => e2 q.symm, Bool.xor_false, Bool.xor_false]
structure Mv (a b step s t ks kt ht : Nat) : Prop where
 b1 : b < 1024
 rs : cR s (pl a) = ks + 1
 rt : cR t (pl a) = kt
 le : kt ≤ ks
 as : (pl a).getD ks 10 = s
 ah : (hl a).getD ht 10 = t
 lt1 : cL t ((pl a).eraseIdx ks) = kt
 rt1 : cR t ((pl a).eraseIdx ks) = kt
 pb : inN kt t ((pl a).eraseIdx ks) = pl b
 rl : cR s ((hl a).eraseIdx ht) = cL s ((hl a).eraseIdx ht)
 hb : inN (cL s ((hl a).eraseIdx ht)) s ((hl a).eraseIdx ht) = hl b
 wn : wn b step + 1 = wn a step
 md : md b step = md a step
 cr : crN b step = mvL (crN a step) ks kt
theorem chM {step : Nat} (h : step = 2 ∨ step = 3 ∨ step = 4) : All (chkM step) := by
 rcases h with rfl | rfl | rfl
 ·exact chM2
 ·exact chM3
 ·exact chM4
theorem fr_mem {a step s : Nat} (h : s ∈ frN a step) : s ∈ pl a ∧ step ≤ s ∧ a.testBit (s - step) = false := by
 obtain ⟨h1, h2⟩ := List.mem_filter.mp h
 obtain ⟨h2, h3⟩ := Bool.and_eq_true_iff.mp h2
 exact ⟨h1, Nat.le_of_ble_eq_true h2, (Iff.of_eq (Bool.not_eq_true' _)).mp h3⟩
theorem mv_of {step a s : Nat} (h : step = 2 ∨ step = 3 ∨ step = 4) (ha : a < 1024) (hs : s ∈ frN a step) : Mv a (mv a s (s - step)) step s (s - step) (cL s (pl a)) (cL (s - step) (pl a)) (cL (s - step) (hl a)) := by
 have this := of_all (chM h) ha
 unfold chkM at this
 rw [frF_eq, plF_eq] at this
 have this := List.all_eq_true.mp this s hs
 obtain ⟨h1, h3⟩ := Bool.and_eq_true_iff.mp this
 obtain ⟨h1, h2⟩ := Bool.and_eq_true_iff.mp h1
 have h1 := Nat.eq_of_beq_eq_true h1
 have h2 := Nat.eq_of_beq_eq_true h2
 have h3 := leq_eq h3
 rw [wnF_eq h, wnF_eq h] at h1
 rw [mdF_eq] at h2
 obtain ⟨f1, f2, f3⟩ := fr_mem hs
 have hts : s - step ≤ s := Nat.sub_le _ _
 obtain ⟨s10, sb⟩ := mem_pl.mp f1
 change crN (mv a s (s - step)) step = mvL (crN a step) (cL s (pl a)) (cL (s - step) (pl a)) at h3
 change wn (mv a s (s - step)) step + 1 = wn a step at h1
 change md (mv a s (s - step)) step = md a step at h2
 generalize s - step = t at f3 hts h1 h2 h3
 have t10 : t < 10 := Nat.lt_of_le_of_lt hts s10
 have hn : s ≠ t := fun q => by rw [q, f3] at sb; exact Bool.noConfusion sb
 have tA : t ∉ pl a := fun w => by rw [(mem_pl.mp w).2] at f3; exact Bool.noConfusion f3
 have sH : s ∉ hl a := fun w => by rw [(mem_hl.mp w).2] at sb; exact Bool.noConfusion sb
 obtain ⟨n1, n2⟩ := mv_ne sb f3
 have tb : t ∈ pl (mv a s t) := mem_pl.mpr ⟨t10, by rw [mv_bit, f3, decide_eq_false hn, decide_eq_true rfl]; rfl⟩
 have sb' : s ∈ hl (mv a s t) := mem_hl.mpr ⟨s10, by rw [mv_bit, sb, decide_eq_true rfl, decide_eq_false hn.symm]; rfl⟩
 have A := at_of (pl_srt a) f1
 have H := at_of (hl_srt a) (mem_hl.mpr ⟨t10, f3⟩)
 have B := at_of (pl_srt _) tb
 have G := at_of (hl_srt _) sb'
 have ck : cL t (ne1 s (pl a)) = cL t (pl a) := cL_ne hts _
 have tE : t ∉ ne1 s (pl a) := fun w => tA (List.mem_filter.mp w).1
 have sE : s ∉ ne1 t (hl a) := fun w => sH (List.mem_filter.mp w).1
 have eb : cL t (pl (mv a s t)) = cL t (pl a) := by rw [← cL_ne (Nat.le_refl t) (pl (mv a s t)), n1, ck]
 have eh : cL s (hl (mv a s t)) = cL s (ne1 t (hl a)) := by rw [← cL_ne (Nat.le_refl s) (hl (mv a s t)), n2]
 refine ⟨?_, A.r, cR_out tA, ?_, A.gt, H.gt, ?_, ?_, ?_, ?_, ?_, h1, h2, h3⟩
 ·have p : ∀ x, x < 10 → 2 ^ x < 2 ^ 10 := fun x hx => Nat.pow_lt_pow_right (by decide) hx
  exact Nat.xor_lt_two_pow (n := 10) (Nat.xor_lt_two_pow (n := 10) ha (p s s10)) (p t t10)
 ·exact List.countP_mono_left fun y _ w => Nat.blt_eq.mpr (Nat.lt_of_lt_of_le (Nat.blt_eq.mp w) hts)
 ·rw [A.er, ck]
 ·rw [A.er, cR_out tE, ck]
 ·rw [A.er, ← eb, ← n1]; exact B.i
 ·rw [H.er, cR_out sE]
 ·rw [H.er, ← eh, ← n2]; exact G.i
end Mine.Internal.L01
namespace Mine.Internal.L01
open PySem PyProof.Rows PySem.W PySem.SeqAt PySem.Calls PySem.Challenge Mine.Internal
variable {cl : Str → List V → List (Str × V) → M V} {σ : Sto}
noncomputable def lwS (i : Nat) : Stmt := at' (bodyOf "law") i
noncomputable def nL : List (Str × NameKind) := namesOf "law"
noncomputable def nmL : List Str := ["script", "cells", "rule", "signs", "seen", "hidden", "place", "came", "shelf", "border"]
noncomputable def zV (vs : List V) : Vars := nmL.zip vs
noncomputable def X2 : Expr := asV (lwS 2)
noncomputable def X3 : Expr := asV (lwS 3)
noncomputable def X4 : Expr := asV (lwS 4)
noncomputable def P5 : Stmt := at' (frBody (lwS 5)) 0
noncomputable def oX (x : V) : Vars := [("x", x)]
noncomputable def cCe (c : V) : Vars := [("cells", c)]
noncomputable def oCe (c x : V) : Vars := [("cells", c), ("place", x)]
theorem l_k : isAs (lwS 2) ∧ isLc X2 ∧ isAs (lwS 3) ∧ isLc X3 ∧ isAs (lwS 4) ∧ isLc X4 ∧ isFr (lwS 5) ∧ frBody (lwS 5) = [P5] ∧ isIf P5 ∧ ifElse P5 = [] := ⟨by kernel_rfl, by kernel_rfl, by kernel_rfl, by kernel_rfl, by kernel_rfl, by kernel_rfl, by kernel_rfl, by kernel_rfl, by kernel_rfl, by kernel_rfl⟩
theorem l0 (s : V) : exStep cfg (low cfg cl 29) ⟨nL, zV [s]⟩ (lwS 0) σ = ob (cl "_law_cells" [s] [] σ) fun v => M.bind (th false v) fun v => nx (zV [s, v]) := by kernel_rfl
theorem l1 (s c : V) : exStep cfg (low cfg cl 29) ⟨nL, zV [s, c]⟩ (lwS 1) σ = ob (callB "sum" [c] σ) fun v => M.bind (th false v) fun v => nx (zV [s, c, v]) := by kernel_rfl
theorem l2_c (s c r : V) : LcK cfg cl 28 ⟨nL, zV [s, c, r]⟩ σ X2 iV [] (fun x => oX (iV x)) := ⟨by kernel_rfl, by kernel_rfl, fun _ => by kernel_rfl, fun _ _ => by kernel_rfl⟩
theorem l2_p (s c r : V) : (low cfg cl 29).ev ⟨nL, zV [s, c, r]⟩ (lcG X2).iter σ = sliceV c .none (.int 10) .none σ ∧ (∀ x, tests (low cfg cl 28) ⟨compNames (lcSc X2), oX x⟩ (lcG X2).ifs σ = some (true, σ)) ∧ (∀ x, (low cfg cl 28).ev ⟨compNames (lcSc X2), oX x⟩ (lcElt X2) σ = cl "_law_sign" [x] [] σ) := ⟨by kernel_rfl, fun _ => by kernel_rfl, fun _ => by kernel_rfl⟩
theorem l2_as (s c r : V) (l : List V) : (M.bind (thaw cfg (asT (lwS 2)) (asV (lwS 2)) (.list l)) fun v => M.bind (setTo (low cfg cl 29) ⟨nL, zV [s, c, r]⟩ (asT (lwS 2)) v) fun vars => nx vars) σ = some ((.next, zV [s, c, r, .list l]), σ) := by kernel_rfl
theorem l3_c (s c r g : V) : LcK cfg cl 28 ⟨nL, zV [s, c, r, g]⟩ σ X3 iV (cCe c) (fun x => oCe c (iV x)) := ⟨by kernel_rfl, by kernel_rfl, fun _ => by kernel_rfl, fun _ _ => by kernel_rfl⟩
theorem l4_c (s c r g a : V) : LcK cfg cl 28 ⟨nL, zV [s, c, r, g, a]⟩ σ X4 iV (cCe c) (fun x => oCe c (iV x)) := ⟨by kernel_rfl, by kernel_rfl, fun _ => by kernel_rfl, fun _ _ => by kernel_rfl⟩
theorem l3_p (s c r g : V) : (low cfg cl 29).ev ⟨nL, zV [s, c, r, g]⟩ (lcG X3).iter σ = some (.rng 0 (10 : Nat) 1, σ) ∧ (∀ x, tests (low cfg cl 28) ⟨compNames (lcSc X3), oCe c x⟩ (lcG X3).ifs σ = ob (ob (ob (indexV c x σ) fun v => binV .Mod v (iV 2)) fun v => cmpV cfg .Eq v (iV 1)) tI) ∧ (∀ x, (low cfg cl 28).ev ⟨compNames (lcSc X3), oCe c x⟩ (lcElt X3) σ = some (x, σ)) := ⟨by kernel_rfl, fun _ => by kernel_rfl, fun _ => by kernel_rfl⟩
theorem l4_p (s c r g a : V) : (low cfg cl 29).ev ⟨nL, zV [s, c, r, g, a]⟩ (lcG X4).iter σ = some (.rng 0 (10 : Nat) 1, σ) ∧ (∀ x, tests (low cfg cl 28) ⟨compNames (lcSc X4), oCe c x⟩ (lcG X4).ifs σ = ob (ob (ob (indexV c x σ) fun v => binV .Mod v (iV 2)) fun v => cmpV cfg .Eq v (iV 0)) tI) ∧ (∀ x, (low cfg cl 28).ev ⟨compNames (lcSc X4), oCe c x⟩ (lcElt X4) σ = some (x, σ)) := ⟨by kernel_rfl, fun _ => by kernel_rfl, fun _ => by kernel_rfl⟩
theorem l3_as (s c r g : V) (l : List V) : (M.bind (thaw cfg (asT (lwS 3)) (asV (lwS 3)) (.list l)) fun v => M.bind (setTo (low cfg cl 29) ⟨nL, zV [s, c, r, g]⟩ (asT (lwS 3)) v) fun vars => nx vars) σ = some ((.next, zV [s, c, r, g, .list l]), σ) := by kernel_rfl
theorem l4_as (s c r g a : V) (l : List V) : (M.bind (thaw cfg (asT (lwS 4)) (asV (lwS 4)) (.list l)) fun v => M.bind (setTo (low cfg cl 29) ⟨nL, zV [s, c, r, g, a]⟩ (asT (lwS 4)) v) fun vars => nx vars) σ = some ((.next, zV [s, c, r, g, a, .list l]), σ) := by kernel_rfl
theorem l5_it (s c r g a b : V) : (low cfg cl 29).ev ⟨nL, zV [s, c, r, g, a, b]⟩ (frIter (lwS 5)) σ = some (.rng 0 (10 : Nat) 1, σ) := by kernel_rfl
theorem l5_set (s c r g a b x : V) : setTo (low cfg cl 29) ⟨nL, zV [s, c, r, g, a, b]⟩ (frTgt (lwS 5)) x σ = some (zV [s, c, r, g, a, b, x], σ) ∧ ∀ y, setTo (low cfg cl 29) ⟨nL, zV [s, c, r, g, a, b, y]⟩ (frTgt (lwS 5)) x σ = some (zV [s, c, r, g, a, b, x], σ) := ⟨by kernel_rfl, fun _ => by kernel_rfl⟩
theorem l5_t (s c r g a b x : V) : (low cfg cl 28).ts ⟨nL, zV [s, c, r, g, a, b, x]⟩ (ifTest P5) σ = ob (ob (ob (ob (indexV g x σ) fun v => indexV v (.int 0)) fun v => M.pure [v]) fun vs => cl "in_table_b1" vs []) fun v => M.bind (M.bind (cmpV cfg .In x b) fun t => M.pure (.bool t)) fun w => cmpV cfg .IsNot v w := by kernel_rfl
noncomputable def isSeen (cs : List Nat) (p : Nat) : Bool := Nat.beq (cs.getD p 0 % 2) 1
theorem mask_ex : ∀ (n : Nat) (f : Nat → Bool), ∃ m, m < 2 ^ n ∧ ∀ p, p < n → m.testBit p = f p
 | 0, _ => ⟨0, Nat.one_pos, fun p h => absurd h (Nat.not_lt_zero p)⟩
 | n + 1, f => by
  obtain ⟨m, h1, h2⟩ := mask_ex n (fun p => f (p + 1))
  refine ⟨2 * m + (f 0).toNat, ?_, fun p hp => ?_⟩
  ·have : (f 0).toNat ≤ 1 := Bool.toNat_le _
   rw [Nat.pow_succ, Nat.mul_comm 2 m]
   exact Nat.lt_of_lt_of_le (Nat.add_lt_add_left (Nat.lt_succ_of_le this) (m * 2)) (by rw [← Nat.succ_mul]; exact Nat.mul_le_mul_right 2 h1)
  ·cases p with
   | zero =>
    rw [Nat.testBit_zero, Nat.mul_add_mod]
    cases f 0 <;> rfl
   | succ p =>
    rw [Nat.testBit_succ]
    rw [Nat.mul_add_div (by decide), Nat.div_eq_of_lt (Nat.lt_succ_of_le (Bool.toNat_le _)), Nat.add_zero]; exact h2 p (Nat.lt_of_succ_lt_succ hp)
structure Mask (cs : List Nat) (m : Nat) : Prop where
 lt : m < 1024
 bit : ∀ p, p < 10 → m.testBit p = isSeen cs p
theorem mask_of (cs : List Nat) : ∃ m, Mask cs m := by
 obtain ⟨m, h1, h2⟩ := mask_ex 10 (isSeen cs)
 exact ⟨m, h1, h2⟩
theorem cut_take {α : Type} (n : Nat) (l : List α) (h : n ≤ l.length) : cut none (some (n : Int)) l = l.take n := by
 show (l.drop 0).take (clipAt l.length (n : Int) - 0) = _
 have : clipAt l.length (n : Int) = n := (clipAt_nat ..).trans (Nat.min_eq_left h)
 rw [this]; rfl
theorem sl_lst {r : Nat} {xs : List V} {n : Nat} (hr : σ[r]? = some xs) (h : n ≤ xs.length) (hl : xs.length ≤ 65536) (hn : n < 2 ^ 62) : sliceV (.lst r) .none (iV n) .none σ = some (.list (xs.take n), σ) := by
 have e : sliceV (.lst r) .none (iV n) .none = M.bind (M.of (if decide ((n : Int).natAbs < 2 ^ 62) then some (some (n : Int)) else Option.none)) fun o => M.bind (M.look r) fun xs => if xs.length ≤ 65536 then M.pure (.list (cut none o xs)) else M.fail := by kernel_rfl
 rw [e, Int.natAbs_natCast, if_pos (decide_eq_true hn), bind_app, of_some, ob_some, bind_app, look_app, hr, lookR_some, ob_some, if_pos hl, cut_take n xs h]; rfl
theorem sum_ints : ∀ l : List Nat, sumV (l.map iV) = some ((sumN l : Nat) : Int)
 | [] => rfl
 | x :: l => by
  rw [List.map_cons, iV, sumV, sum_ints l]; rfl
theorem sum_lst {r : Nat} {l : List Nat} (hr : σ[r]? = some (l.map iV)) : callB "sum" [.lst r] σ = some (iV (sumN l), σ) := by
 have e : callB "sum" [.lst r] = M.bind (M.look r) fun xs => M.bind (M.of (sumV xs)) fun i => M.pure (.int i) := by kernel_rfl
 rw [e, bind_app, look_app, hr, lookR_some, ob_some, sum_ints, bind_app, of_some, ob_some]; rfl
theorem sum_list (l : List Nat) (σ : Sto) : callB "sum" [nLs l] σ = some (iV (sumN l), σ) := by
 have e : callB "sum" [nLs l] = M.bind (M.of (sumV (l.map iV))) fun i => M.pure (.int i) := by kernel_rfl
 rw [e, sum_ints, bind_app, of_some, ob_some]; rfl
theorem in_nls (p : Nat) : ∀ (l : List Nat) (σ : Sto), cmpV cfg .In (iV p) (nLs l) σ = some (l.any fun y => Nat.beq y p, σ)
 | [], σ => rfl
 | y :: l, σ => by
  have e : cmpV cfg .In (iV p) (nLs (y :: l)) = M.bind (M.pure ((y : Int) == p)) fun a => M.bind (cmpV cfg .In (iV p) (nLs l)) fun b => M.pure (a || b) := by kernel_rfl
  rw [e, bind_app, pure_app, ob_some, bind_app, in_nls p l σ, ob_some, List.any_cons]
  have : ((y : Int) == p) = Nat.beq y p := by
   by_cases h : y = p
   ·subst h; rw [beq_self_eq_true, Nat.beq_refl]
   ·rw [beq_eq_false_iff_ne.mpr (show (y : Int) ≠ p from fun q => h (Int.ofNat.inj q))]
    exact (Bool.eq_false_iff.mpr fun q => h (Nat.eq_of_beq_eq_true q)).symm
  rw [this]; rfl
theorem any_mem (p : Nat) (l : List Nat) : (l.any fun y => Nat.beq y p) = decide (p ∈ l) := by
 by_cases h : p ∈ l
 ·rw [decide_eq_true h]; exact List.any_eq_true.mpr ⟨p, h, Nat.beq_refl p⟩
 ·rw [decide_eq_false h]
  exact List.any_eq_false.mpr fun y hy q => h (Nat.eq_of_beq_eq_true q ▸ hy)
noncomputable def sgL (cs : List Nat) : List V := (cs.take 10).map sgV
theorem at_cs {cs : List Nat} (h : cs.length = 11) {p : Nat} (hp : p < 10) : (cs.map iV)[p]? = some (iV (cs.getD p 0)) := map_at (by lia) iV 0
theorem par_t {cs : List Nat} (h : cs.length = 11) {p : Nat} (hp : p < 10) (k : Nat) (hσ : σ[0]? = some (cs.map iV)) : ob (ob (ob (indexV (.lst 0) (iV p) σ) fun v => binV .Mod v (iV 2)) fun v => cmpV cfg .Eq v (iV k)) tI = some (decide (cs.getD p 0 % 2 = k), σ) := by
 refine obT (obT (obT (ix_lat hσ (at_cs h hp) (Nat.lt_trans hp (by decide))) (o_modN (by decide) σ)) (cmp_eq ..)) ((tI_e ..).trans ?_)
 have : ∀ a b : Nat, ((a : Int) == b) = decide (a = b) := fun a b => by
  by_cases q : a = b
  ·rw [decide_eq_true q, q, beq_self_eq_true]
  ·rw [decide_eq_false q]; exact beq_eq_false_iff_ne.mpr fun z => q (Int.ofNat.inj z)
 rw [this]
theorem law_a {cs : List Nat} {m : Nat} {s : V} (h : cs.length = 11) (hc : ∀ c ∈ cs, c < 10 ^ 9) (hm : Mask cs m) (hσ : σ = [cs.map iV]) (hs : CL "_law_cells" [s] [] [] = some (.lst 0, σ)) {ss : List Stmt} {y : Option ((Fl × Vars) × Sto)}
  (k : exAll cfg (low cfg CL 29) ⟨nL, zV [s, .lst 0, iV (sumN cs), .list (sgL cs), nLs (pl m), nLs (hl m)]⟩ ss σ = y) :
  exAll cfg (low cfg CL 29) ⟨nL, zV [s]⟩ (lwS 0 :: lwS 1 :: lwS 2 :: lwS 3 :: lwS 4 :: ss) [] = y := by
 have hr : σ[0]? = some (cs.map iV) := by rw [hσ]; rfl
 suffices H : exStep cfg (low cfg CL 29) ⟨nL, zV [s, .lst 0, iV (sumN cs)]⟩ (lwS 2) σ = some ((.next, zV [s, .lst 0, iV (sumN cs), .list (sgL cs)]), σ) ∧ exStep cfg (low cfg CL 29) ⟨nL, zV [s, .lst 0, iV (sumN cs), .list (sgL cs)]⟩ (lwS 3) σ = some ((.next, zV [s, .lst 0, iV (sumN cs), .list (sgL cs), nLs (pl m)]), σ) ∧ exStep cfg (low cfg CL 29) ⟨nL, zV [s, .lst 0, iV (sumN cs), .list (sgL cs), nLs (pl m)]⟩ (lwS 4) σ = some ((.next, zV [s, .lst 0, iV (sumN cs), .list (sgL cs), nLs (pl m), nLs (hl m)]), σ) from
  x_next _ _ _ _ _ ((l0 s).trans (obT hs rfl)) (x_next _ _ _ _ _ ((l1 ..).trans (obT (sum_lst hr) rfl)) (x_next _ _ _ _ _ H.1 (x_next _ _ _ _ _ H.2.1 (x_next _ _ _ _ _ H.2.2 k))))
 refine ⟨?_, ?_, ?_⟩
 ·obtain ⟨i1, i2, i3⟩ := l2_p (cl := CL) (σ := σ) s (.lst 0) (iV (sumN cs))
  refine as_run (v := .list (sgL cs)) l_k.1 ((evV_lc l_k.2.1 σ).trans (?_ : _ = some (_, σ))) (l2_as ..)
  have := lc_st (n := 28) (ys := cs.take 10) (chk := none) (l2_c (cl := CL) (σ := σ) s (.lst 0) (iV (sumN cs))) (fun _ => true) sgV (i1.trans (sl_lst (n := 10) hr (by rw [List.length_map, h]; decide) (by rw [List.length_map, h]; decide) (by decide))) (by rw [← List.map_take]; rfl) rfl (fun x _ => i2 (iV x)) (fun x hx _ => (i3 (iV x)).trans (sg_call (hc x (List.mem_of_mem_take hx)) (by decide) σ)) (by rw [List.length_take]; exact Nat.le_trans (Nat.min_le_left ..) (by decide))
  rw [filt] at this
  exact this
 ·obtain ⟨i1, i2, i3⟩ := l3_p (cl := CL) (σ := σ) s (.lst 0) (iV (sumN cs)) (.list (sgL cs))
  refine as_run (v := nLs (pl m)) l_k.2.2.1 ((evV_lc l_k.2.2.2.1 σ).trans (?_ : _ = some (_, σ))) (l3_as ..)
  exact lc_st (n := 28) (l3_c (cl := CL) (σ := σ) s (.lst 0) (iV (sumN cs)) (.list (sgL cs))) (fun p => m.testBit p) iV i1 (iter_rngN (by decide) σ) rfl (fun p hp => (i2 (iV p)).trans ((par_t h (List.mem_range.mp hp) 1 hr).trans (by rw [hm.bit p (List.mem_range.mp hp)]; unfold isSeen; cases q : decide (cs.getD p 0 % 2 = 1) with
   | true => rw [of_decide_eq_true q]; rfl
   | false => rw [Bool.eq_false_iff.mpr fun z => of_decide_eq_false q (Nat.eq_of_beq_eq_true z)]))) (fun p _ _ => i3 (iV p)) (by decide)
 ·obtain ⟨i1, i2, i3⟩ := l4_p (cl := CL) (σ := σ) s (.lst 0) (iV (sumN cs)) (.list (sgL cs)) (nLs (pl m))
  refine as_run (v := nLs (hl m)) l_k.2.2.2.2.1 ((evV_lc l_k.2.2.2.2.2.1 σ).trans (?_ : _ = some (_, σ))) (l4_as ..)
  exact lc_st (n := 28) (l4_c (cl := CL) (σ := σ) s (.lst 0) (iV (sumN cs)) (.list (sgL cs)) (nLs (pl m))) (fun p => !m.testBit p) iV i1 (iter_rngN (by decide) σ) rfl (fun p hp => (i2 (iV p)).trans ((par_t h (List.mem_range.mp hp) 0 hr).trans (by rw [hm.bit p (List.mem_range.mp hp)]; unfold isSeen; rcases Nat.mod_two_eq_zero_or_one (cs.getD p 0) with q | q <;> rw [q] <;> rfl))) (fun p _ _ => i3 (iV p)) (by decide)
structure L5I (vs : List V) (σ : Sto) (d : Nat) (vars : Vars) (s : Sto) : Prop where
 s : s = σ
 v : (d = 0 ∧ vars = zV vs) ∨ ∃ x, vars = zV (vs ++ [x])
theorem law_5 {cs : List Nat} {m : Nat} {s c r a : V} (h : cs.length = 11) (hm : Mask cs m) : ∃ x, exStep cfg (low cfg CL 29) ⟨nL, zV [s, c, r, .list (sgL cs), a, nLs (hl m)]⟩ (lwS 5) σ = some ((.next, zV [s, c, r, .list (sgL cs), a, nLs (hl m), x]), σ) := by
 obtain ⟨vars', σ', h1, h2, h3⟩ := for_range (N := 10) (r := low cfg CL 29) (names := nL) (tgt := frTgt (lwS 5)) (body := frBody (lwS 5)) (chk := none) (all := (List.range 10).map iV) (L5I [s, c, r, .list (sgL cs), a, nLs (hl m)] σ)
  (fun _ _ _ _ => rfl)
  (fun d vars s' hd h' => by
   obtain ⟨rfl, hv⟩ := h'
   refine ⟨zV [s, c, r, .list (sgL cs), a, nLs (hl m), iV d], zV [s, c, r, .list (sgL cs), a, nLs (hl m), iV d], s', ?_, ?_, rfl, .inr ⟨iV d, rfl⟩⟩
   ·rcases hv with ⟨_, rfl⟩ | ⟨x, rfl⟩
    ·exact (l5_set ..).1
    ·exact (l5_set ..).2 _
   ·show exAll cfg (low cfg CL 28) _ _ _ = _
    rw [l_k.2.2.2.2.2.2.2.1]
    refine x_one (if_not (n := 27) (σ1 := s') l_k.2.2.2.2.2.2.2.2.1 l_k.2.2.2.2.2.2.2.2.2 ((l5_t ..).trans ?_))
    have hp : (sgL cs)[d]? = some (sgV (cs.getD d 0)) := by
     unfold sgL
     rw [List.getElem?_map, List.getElem?_take, if_pos hd, List.getD_eq_getElem?_getD, List.getElem?_eq_getElem (by lia)]; rfl
    have e : decide (d ∈ hl m) = decide (cs.getD d 0 % 2 = 0) := by
     refine decide_eq_decide.mpr (mem_hl.trans ?_)
     rw [hm.bit d hd]; unfold isSeen
     rcases Nat.mod_two_eq_zero_or_one (cs.getD d 0) with q | q <;> rw [q]
     ·exact ⟨fun _ => rfl, fun _ => ⟨hd, rfl⟩⟩
     ·exact ⟨fun z => Bool.noConfusion z.2, fun z => Nat.noConfusion z⟩
    refine obT (obT (obT (obT (ix_at hp (Nat.lt_trans hd (by decide)) s') (ix_at (i := 0) (xs := _ :: _) rfl (by decide) s')) rfl) (b1_sg (cs.getD d 0) s')) (obT (obT (in_nls ..) rfl) ?_)
    rw [any_mem, e]
    have : ∀ b : Bool, cmpV cfg .IsNot (.bool b) (.bool b) s' = some (false, s') := fun b => by cases b <;> rfl
    exact this _)
  (zV [s, c, r, .list (sgL cs), a, nLs (hl m)]) (zV [s, c, r, .list (sgL cs), a, nLs (hl m)]) σ ⟨rfl, .inl ⟨rfl, rfl⟩⟩
 subst h2
 obtain ⟨x, rfl⟩ := h3.resolve_left fun q => Nat.noConfusion q.1
 refine ⟨x, ?_⟩
 rw [g_for l_k.2.2.2.2.2.2.1, l5_it, ob_some, bind_app, iter_rngN (by decide), ob_some]
 exact h1
end Mine.Internal.L01
namespace Mine.Internal.L01
noncomputable def Pf (f : Nat → Bool) (n : Nat) : List Nat := (List.range n).filter f
noncomputable def Gf (f : Nat → Bool) (n : Nat) : List Nat := (List.range n).filter fun p => !f p
noncomputable def Zf (f : Nat → Bool) (n : Nat) : List Nat := (Pf f n).map fun o => (Gf f o).length
noncomputable def Kf (f : Nat → Bool) (n : Nat) : List Nat := (Pf f n).flatMap fun o => (Gf f o).map (o - ·)
theorem Pf_yes {f : Nat → Bool} {n : Nat} (h : f n = true) : Pf f (n + 1) = Pf f n ++ [n] ∧ Gf f (n + 1) = Gf f n := by
 unfold Pf Gf
 rw [List.range_succ, List.filter_append, List.filter_append, List.filter_cons, List.filter_cons, h]
 exact ⟨rfl, List.append_nil _⟩
theorem Pf_no {f : Nat → Bool} {n : Nat} (h : f n = false) : Pf f (n + 1) = Pf f n ∧ Gf f (n + 1) = Gf f n ++ [n] := by
 unfold Pf Gf
 rw [List.range_succ, List.filter_append, List.filter_append, List.filter_cons, List.filter_cons, h]
 exact ⟨List.append_nil _, rfl⟩
theorem getD_app {z t : List Nat} {k : Nat} (h : k < z.length) : (z ++ t).getD k 0 = z.getD k 0 := by
 rw [List.getD_eq_getElem?_getD, List.getD_eq_getElem?_getD, List.getElem?_append_left h]
theorem map_getD_range : ∀ (z t : List Nat), ((List.range z.length).map fun k => (z ++ t).getD k 0) = z
 | [], _ => rfl
 | x :: z, t => by
  rw [List.length_cons, List.range_succ_eq_map, List.map_cons, List.map_map]
  exact congrArg (x :: ·) (map_getD_range z t)
theorem flt_len (p : Nat → Bool) (z t : List Nat) : ((List.range z.length).filter fun k => p ((z ++ t).getD k 0)).length = (z.filter p).length := by
 have := congrArg (fun l => (l.filter p).length) (map_getD_range z t)
 rw [List.filter_map, List.length_map] at this
 exact this
theorem hkN_snoc (z : List Nat) (s : Nat) : hkN (z ++ [s]) = hkN z ++ hkRow (z ++ [s]) z.length := by
 unfold hkN
 rw [List.length_append, List.length_singleton, List.range_succ, List.flatMap_append, List.flatMap_singleton]
 congr 1
 rw [List.flatMap_def, List.flatMap_def]
 refine congrArg List.flatten (List.map_congr_left fun r hr => ?_)
 have hr := List.mem_range.mp hr
 unfold hkRow
 rw [getD_app hr]
 refine List.map_congr_left fun c _ => ?_
 have : ((List.range r).filter fun k => Nat.blt c ((z ++ [s]).getD k 0)) = (List.range r).filter fun k => Nat.blt c (z.getD k 0) := List.filter_congr fun k hk => by rw [getD_app (Nat.lt_trans (List.mem_range.mp hk) hr)]
 rw [this]
theorem Gf_le {f : Nat → Bool} {o n : Nat} (h : o ≤ n) : (Gf f o).length ≤ (Gf f n).length := ((List.range_sublist.mpr h).filter _).length_le
theorem Gf_lt {f : Nat → Bool} {n g : Nat} (h : g ∈ Gf f n) : g < n := List.mem_range.mp (List.mem_filter.mp h).1
theorem row_f (f : Nat → Bool) : ∀ n, ((List.range (Gf f n).length).map fun c => (Gf f n).length - c + ((Zf f n).filter fun x => Nat.blt c x).length) = (Gf f n).map (n - ·)
 | 0 => rfl
 | n + 1 => by
  have ih := row_f f n
  have e2 : ((Gf f n).map fun g => n - g + 1) = (Gf f n).map (n + 1 - ·) := List.map_congr_left fun g hg => (Nat.sub_add_comm (Nat.le_of_lt (Gf_lt hg))).symm
  have ih := congrArg (List.map (· + 1)) ih
  rw [List.map_map, List.map_map] at ih
  have ih := ih.trans e2
  cases q : f n with
  | true =>
   obtain ⟨e, g⟩ := Pf_yes q
   rw [g, ← ih]
   refine List.map_congr_left fun c hc => ?_
   have hc := List.mem_range.mp hc
   unfold Zf
   rw [e, List.map_append, List.filter_append, List.length_append, List.map_singleton, List.filter_cons_of_pos (Nat.blt_eq.mpr hc)]
   rfl
  | false =>
   obtain ⟨e, g⟩ := Pf_no q
   have hz : Zf f (n + 1) = Zf f n := by unfold Zf; rw [e]
   have h0 : ((Zf f n).filter fun x => Nat.blt (Gf f n).length x) = [] := List.filter_eq_nil_iff.mpr fun x hx w => by
    obtain ⟨o, ho, rfl⟩ := List.mem_map.mp hx
    exact Nat.not_lt_of_le (Gf_le (f := f) (Nat.le_of_lt (List.mem_range.mp (List.mem_filter.mp ho).1))) (Nat.blt_eq.mp w)
   rw [hz, g, List.length_append, List.length_singleton, List.range_succ, List.map_append, List.map_append, ← ih]
   refine congr (congrArg HAppend.hAppend (List.map_congr_left fun c hc => ?_)) ?_
   ·have := List.mem_range.mp hc
    show _ = _ + 1
    rw [Nat.sub_add_comm (Nat.le_of_lt this), Nat.add_right_comm]
   ·rw [List.map_singleton, List.map_singleton, h0, Nat.add_sub_cancel_left, Nat.add_sub_cancel_left]; rfl
theorem keys_f (f : Nat → Bool) : ∀ n, (hkN (Zf f n)).map (·.1) = Kf f n
 | 0 => rfl
 | n + 1 => by
  have ih := keys_f f n
  cases q : f n with
  | true =>
   obtain ⟨e, g⟩ := Pf_yes q
   have hz : Zf f (n + 1) = Zf f n ++ [(Gf f n).length] := by unfold Zf; rw [e, List.map_append]; rfl
   unfold Kf at *
   rw [hz, hkN_snoc, List.map_append, ih, e, List.flatMap_append, List.flatMap_singleton, ← row_f f n]
   unfold hkRow
   rw [List.map_map]
   have e3 : (Zf f n ++ [(Gf f n).length]).getD (Zf f n).length 0 = (Gf f n).length := by
    rw [List.getD_eq_getElem?_getD, List.getElem?_append_right (Nat.le_refl _), Nat.sub_self]; rfl
   rw [e3]
   exact congrArg _ (List.map_congr_left fun c _ => congrArg _ (flt_len (fun x => Nat.blt c x) (Zf f n) [(Gf f n).length]))
  | false =>
   obtain ⟨e, _⟩ := Pf_no q
   unfold Kf Zf at *
   rw [e]; exact ih
theorem cut_f (f : Nat → Bool) (o : Nat) : ∀ k, (Gf f (o + k)).filter (fun p => Nat.blt p o) = Gf f o
 | 0 => List.filter_eq_self.mpr fun p hp => Nat.blt_eq.mpr (Gf_lt hp)
 | k + 1 => by
  have ih := cut_f f o k
  have : Nat.blt (o + k) o = false := Bool.eq_false_iff.mpr fun w => Nat.not_lt_of_le (Nat.le_add_right o k) (Nat.blt_eq.mp w)
  cases q : f (o + k) with
  | true => rw [← Nat.add_assoc, (Pf_yes q).2]; exact ih
  | false => rw [← Nat.add_assoc, (Pf_no q).2, List.filter_append, ih, List.filter_cons, this]; exact List.append_nil _
theorem szN_f (f : Nat → Bool) (n : Nat) : szN (Pf f n) (Gf f n) = Zf f n := List.map_congr_left fun o ho => by
 have h := List.mem_range.mp (List.mem_filter.mp ho).1
 have := cut_f f o (n - o)
 rw [Nat.add_sub_cancel' (Nat.le_of_lt h)] at this
 rw [this]
theorem sum_f (f : Nat → Bool) : ∀ n, (Pf f n).length + (Gf f n).length = n
 | 0 => rfl
 | n + 1 => by
  have ih := sum_f f n
  cases q : f n with
  | true => rw [(Pf_yes q).1, (Pf_yes q).2, List.length_append, List.length_singleton, Nat.add_right_comm, ih]
  | false => rw [(Pf_no q).1, (Pf_no q).2, List.length_append, List.length_singleton, ← Nat.add_assoc, ih]
theorem len_f (f : Nat → Bool) : ∀ n, (Kf f n).length ≤ (Pf f n).length * (Gf f n).length
 | 0 => Nat.le_refl _
 | n + 1 => by
  have ih := len_f f n
  unfold Kf at *
  cases q : f n with
  | true =>
   rw [(Pf_yes q).1, (Pf_yes q).2, List.flatMap_append, List.flatMap_singleton, List.length_append, List.length_append, List.length_singleton, Nat.succ_mul, List.length_map]
   exact Nat.add_le_add_right ih _
  | false =>
   rw [(Pf_no q).1, (Pf_no q).2, List.length_append]
   exact Nat.le_trans ih (Nat.mul_le_mul_left _ (Nat.le_add_right _ _))
theorem row_cnt {f : Nat → Bool} {L : Nat} (hL : 0 < L) (n : Nat) : ((Gf f n).map (n - ·)).countP (Nat.beq · L) = if (Nat.ble L n && !f (n - L)) = true then 1 else 0 := by
 rw [List.countP_map]
 have hn : (Gf f n).Nodup := List.nodup_range.filter _
 by_cases q : L ≤ n
 ·have e : (Gf f n).countP ((Nat.beq · L) ∘ (n - ·)) = (Gf f n).count (n - L) := List.countP_congr fun g hg => by
   have := Gf_lt hg
   show Nat.beq (n - g) L = true ↔ (g == n - L) = true
   rw [Nat.beq_eq, beq_iff_eq]
   exact ⟨fun h => by rw [← h, Nat.sub_sub_self (Nat.le_of_lt this)], fun h => by rw [h, Nat.sub_sub_self q]⟩
  rw [e, hn.count, Nat.ble_eq_true_of_le q, Bool.true_and]
  have e2 : (n - L ∈ Gf f n) = ((!f (n - L)) = true) := propext (List.mem_filter.trans ⟨fun w => w.2, fun w => ⟨List.mem_range.mpr (Nat.sub_lt (Nat.lt_of_lt_of_le hL q) hL), w⟩⟩)
  simp only [e2]
 ·have e : (Gf f n).countP ((Nat.beq · L) ∘ (n - ·)) = 0 := List.countP_eq_zero.mpr fun g hg w => by
   have : n - g = L := Nat.eq_of_beq_eq_true w
   exact q (this ▸ Nat.sub_le n g)
  rw [e, Bool.eq_false_iff.mpr (fun w => q (Nat.le_of_ble_eq_true w))]; rfl
theorem cnt_f {f : Nat → Bool} {L : Nat} (hL : 0 < L) : ∀ n, (Kf f n).countP (Nat.beq · L) = ((Pf f n).filter fun p => Nat.ble L p && !f (p - L)).length
 | 0 => rfl
 | n + 1 => by
  have ih := cnt_f hL (f := f) n
  unfold Kf at *
  cases q : f n with
  | true =>
   rw [(Pf_yes q).1, List.flatMap_append, List.flatMap_singleton, List.countP_append, ih, row_cnt hL, List.filter_append, List.length_append, List.filter_cons]
   cases Nat.ble L n && !f (n - L) <;> rfl
  | false =>
   rw [(Pf_no q).1]; exact ih
theorem nz_f {f : Nat → Bool} {n k : Nat} (h : k ∈ Kf f n) : k ≠ 0 := by
 obtain ⟨o, _, h⟩ := List.mem_flatMap.mp h
 obtain ⟨g, hg, rfl⟩ := List.mem_map.mp h
 exact Nat.sub_ne_zero_of_lt (Gf_lt hg)
noncomputable def hkP (m : Nat) : List (Nat × Nat × Nat) := hkN (szN (pl m) (hl m))
noncomputable def hkM (m : Nat) : List (Nat × Nat × Nat) := hkN (szN (hl m) (pl m))
noncomputable def bN (m : Nat) : Nat → Bool := fun p => !bt m p
theorem keys_P (m : Nat) : (hkP m).map (·.1) = Kf (bt m) 10 := by
 unfold hkP
 rw [← keys_f, ← szN_f, ← plF_eq, ← hlF_eq]; rfl
theorem pl_bN (m : Nat) : Gf (bN m) 10 = plF m := congrArg (fun f => (List.range 10).filter f) (funext fun p => Bool.not_not (bt m p))
theorem keys_M (m : Nat) : (hkM m).map (·.1) = Kf (bN m) 10 := by
 unfold hkM
 rw [← keys_f, ← szN_f, ← plF_eq, ← hlF_eq, pl_bN]; rfl
theorem le25 {f : Nat → Bool} : (Kf f 10).length ≤ 25 := by
 have h1 := sum_f f 10
 have h2 := len_f f 10
 have : ∀ a, a < 11 → ∀ b, b < 11 → a + b = 10 → a * b ≤ 25 := by decide
 exact Nat.le_trans h2 (this _ (Nat.lt_succ_of_le (Nat.le.intro h1)) _ (Nat.lt_succ_of_le (Nat.le.intro ((Nat.add_comm ..).trans h1))) h1)
theorem hk_len (m : Nat) : (hkP m).length ≤ 25 ∧ (hkM m).length ≤ 25 := by
 rw [← List.length_map (as := hkP m) (f := (·.1)), ← List.length_map (as := hkM m) (f := (·.1)), keys_P, keys_M]
 exact ⟨le25, le25⟩
theorem hk_nz {m : Nat} : (∀ p ∈ hkP m, p.1 ≠ 0) ∧ ∀ p ∈ hkM m, p.1 ≠ 0 :=
 ⟨fun _ hp => nz_f (keys_P m ▸ List.mem_map_of_mem hp), fun _ hp => nz_f (keys_M m ▸ List.mem_map_of_mem hp)⟩
theorem cnt_key (L : Nat) (l : List (Nat × Nat × Nat)) : cnt L l = (l.map (·.1)).countP (Nat.beq · L) := by rw [List.countP_map]; rfl
theorem chk_b {m : Nat} (h : m < 1024) {L : Nat} (h0 : 0 < L) (hL : L < 10) : cnt L (hkP m) = (figs m).getD (9 + L) 0 ∧ cnt L (hkM m) = (figs m).getD (9 - L) 0 := by
 have hm : L ∈ R9 := by
  have : ∀ L, L < 10 → 0 < L → L ∈ R9 := by decide
  exact this L hL h0
 have := of_all allB h
 unfold chB at this
 obtain ⟨h1, h2⟩ := Bool.and_eq_true_iff.mp (List.all_eq_true.mp this L hm)
 rw [cnt_key, cnt_key, keys_P, keys_M, cnt_f h0, cnt_f h0, fg_get (Nat.add_lt_add_left hL 9), fg_get (Nat.lt_of_le_of_lt (Nat.sub_le 9 L) (by decide))]
 refine ⟨Nat.eq_of_beq_eq_true h1, (congrArg List.length ?_).trans (Nat.eq_of_beq_eq_true h2)⟩
 exact List.filter_congr fun p _ => congrArg (Nat.ble L p && ·) (Bool.not_not _)
end Mine.Internal.L01
namespace Mine.Internal.L01
open PySem PyProof.Rows PySem.W PySem.SeqAt PySem.Calls PySem.Challenge Mine.Internal
variable {cl : Str → List V → List (Str × V) → M V} {σ : Sto}
abbrev It := Int × Nat × Nat
noncomputable def itV (p : It) : V := .tup [.int p.1, iV p.2.1, iV p.2.2]
noncomputable def up (p : Nat × Nat × Nat) : It := (p.1, p.2)
noncomputable def dn (p : Nat × Nat × Nat) : It := (-(p.1 : Int), p.2)
noncomputable def came0 (m : Nat) : List It := (hkP m).map up ++ (hkM m).map dn
noncomputable def X6 : Expr := biR (asV (lwS 6))
noncomputable def X7a : Expr := biL (asV (lwS 7))
noncomputable def X7b : Expr := biR (asV (lwS 7))
noncomputable def o6 (x y z : V) : Vars := [("hook", x), ("row", y), ("column", z)]
noncomputable def cCa (c : V) : Vars := [("came", c)]
noncomputable def oCa (c x : V) : Vars := [("came", c), ("k", x)]
theorem l67_k : isLc X6 ∧ isLc X7a ∧ isLc X7b := ⟨by kernel_rfl, by kernel_rfl, by kernel_rfl⟩
theorem l6 (s c r g a b p : V) : exStep cfg (low cfg cl 29) ⟨nL, zV [s, c, r, g, a, b, p]⟩ (lwS 6) σ = ob (ob (cl "_law_hooks" [a, b] [] σ) fun x => M.bind ((low cfg cl 28).ev ⟨nL, zV [s, c, r, g, a, b, p]⟩ X6) fun y => binV .Add x y) fun v => M.bind (th false v) fun v => nx (zV [s, c, r, g, a, b, p, v]) := by kernel_rfl
theorem l6_c (s c r g a b p : V) : LcK cfg cl 26 ⟨nL, zV [s, c, r, g, a, b, p]⟩ σ X6 hkV [] (fun x => o6 (iV x.1) (iV x.2.1) (iV x.2.2)) := ⟨by kernel_rfl, by kernel_rfl, fun _ => by kernel_rfl, fun _ _ => by kernel_rfl⟩
theorem l6_p (s c r g a b p : V) : (low cfg cl 27).ev ⟨nL, zV [s, c, r, g, a, b, p]⟩ (lcG X6).iter σ = cl "_law_hooks" [b, a] [] σ ∧ (lcG X6).ifs = [] ∧ (∀ x : Nat × Nat × Nat, (low cfg cl 26).ev ⟨compNames (lcSc X6), o6 (iV x.1) (iV x.2.1) (iV x.2.2)⟩ (lcElt X6) σ = some (itV (dn x), σ)) := ⟨by kernel_rfl, by kernel_rfl, fun _ => by kernel_rfl⟩
theorem l7 (s c r g a b p : V) (l : List V) : exStep cfg (low cfg cl 29) ⟨nL, zV [s, c, r, g, a, b, p, .list l]⟩ (lwS 7) σ = ob (ob ((low cfg cl 28).ev ⟨nL, zV [s, c, r, g, a, b, p, .list l]⟩ X7a σ) fun x => M.bind ((low cfg cl 28).ev ⟨nL, zV [s, c, r, g, a, b, p, .list l]⟩ X7b) fun y => binV .Add x y) fun v => M.bind (th false v) fun v => nx (zV [s, c, r, g, a, b, p, v]) := by kernel_rfl
theorem l7a_c (s c r g a b p : V) (l : List V) : LcK cfg cl 26 ⟨nL, zV [s, c, r, g, a, b, p, .list l]⟩ σ X7a iV (cCa (.list l)) (fun x => oCa (.list l) (iV x)) ∧ LcK cfg cl 26 ⟨nL, zV [s, c, r, g, a, b, p, .list l]⟩ σ X7b iV (cCa (.list l)) (fun x => oCa (.list l) (iV x)) := ⟨⟨by kernel_rfl, by kernel_rfl, fun _ => by kernel_rfl, fun _ _ => by kernel_rfl⟩, ⟨by kernel_rfl, by kernel_rfl, fun _ => by kernel_rfl, fun _ _ => by kernel_rfl⟩⟩
theorem l7a_p (s c r g a b p : V) (l : List V) : (low cfg cl 27).ev ⟨nL, zV [s, c, r, g, a, b, p, .list l]⟩ (lcG X7a).iter σ = ob (ob (ob (callB "len" [.list l] σ) fun v => M.pure [v, iV 2]) fun vs => M.pure (iV 0 :: vs)) (fun vs => callT "range" vs) ∧ (∀ x, tests (low cfg cl 26) ⟨compNames (lcSc X7a), oCa (.list l) x⟩ (lcG X7a).ifs σ = some (true, σ)) ∧ (∀ x, (low cfg cl 26).ev ⟨compNames (lcSc X7a), oCa (.list l) x⟩ (lcElt X7a) σ = indexV (.list l) x σ) := ⟨by kernel_rfl, fun _ => by kernel_rfl, fun _ => by kernel_rfl⟩
theorem l7b_p (s c r g a b p : V) (l : List V) : (low cfg cl 27).ev ⟨nL, zV [s, c, r, g, a, b, p, .list l]⟩ (lcG X7b).iter σ = ob (ob (ob (callB "len" [.list l] σ) fun v => M.pure [v, iV 2]) fun vs => M.pure (iV 1 :: vs)) (fun vs => callT "range" vs) ∧ (∀ x, tests (low cfg cl 26) ⟨compNames (lcSc X7b), oCa (.list l) x⟩ (lcG X7b).ifs σ = some (true, σ)) ∧ (∀ x, (low cfg cl 26).ev ⟨compNames (lcSc X7b), oCa (.list l) x⟩ (lcElt X7b) σ = indexV (.list l) x σ) := ⟨by kernel_rfl, fun _ => by kernel_rfl, fun _ => by kernel_rfl⟩
theorem l8 (s c r g a b p l : V) : exStep cfg (low cfg cl 29) ⟨nL, zV [s, c, r, g, a, b, p, l]⟩ (lwS 8) σ = some ((.next, zV [s, c, r, g, a, b, p, l, .lst σ.length]), σ ++ [[]]) := by kernel_rfl
theorem l9 (s c r g a b p l h : V) : exStep cfg (low cfg cl 29) ⟨nL, zV [s, c, r, g, a, b, p, l, h]⟩ (lwS 9) σ = some ((.next, zV [s, c, r, g, a, b, p, l, h, iV 0]), σ) := by kernel_rfl
theorem add_lst {r : Nat} {xs ys : List V} (hr : σ[r]? = some xs) (h : xs.length + ys.length ≤ 65536) : binV .Add (.lst r) (.list ys) σ = some (.list (xs ++ ys), σ) := by
 have e : binV .Add (.lst r) (.list ys) = M.bind (M.look r) fun xs => if xs.length + ys.length ≤ 65536 then M.pure (.list (xs ++ ys)) else M.fail := by kernel_rfl
 rw [e, bind_app, look_app, hr, lookR_some, ob_some, if_pos h]; rfl
theorem pl_len (m : Nat) : (pl m).length ≤ 10 := List.length_filter_le ..
theorem hl_len (m : Nat) : (hl m).length ≤ 10 := List.length_filter_le ..
theorem came0_len (m : Nat) : (came0 m).length ≤ 50 := by
 unfold came0
 rw [List.length_append, List.length_map, List.length_map]
 exact Nat.add_le_add (hk_len m).1 (hk_len m).2
theorem law_6 {m : Nat} {c0 : List V} (hσ : σ = [c0]) (s c r g p : V) : exStep cfg (low cfg CL 29) ⟨nL, zV [s, c, r, g, nLs (pl m), nLs (hl m), p]⟩ (lwS 6) σ = some ((.next, zV [s, c, r, g, nLs (pl m), nLs (hl m), p, .list ((came0 m).map itV)]), [c0, (hkP m).map hkV, (hkM m).map hkV]) := by
 subst hσ
 have h1 : CL "_law_hooks" [nLs (pl m), nLs (hl m)] [] [c0] = some (.lst 1, [c0, (hkP m).map hkV]) := hk_call (pl_len m) (hl_len m) (by decide) _
 have h2 : CL "_law_hooks" [nLs (hl m), nLs (pl m)] [] [c0, (hkP m).map hkV] = some (.lst 2, [c0, (hkP m).map hkV, (hkM m).map hkV]) := hk_call (hl_len m) (pl_len m) (by decide) _
 obtain ⟨i1, i2, i3⟩ := l6_p (cl := CL) (σ := [c0, (hkP m).map hkV]) s c r g (nLs (pl m)) (nLs (hl m)) p
 obtain ⟨_, _, j3⟩ := l6_p (cl := CL) (σ := [c0, (hkP m).map hkV, (hkM m).map hkV]) s c r g (nLs (pl m)) (nLs (hl m)) p
 have hx := r_lc (n := 27) l67_k.1 (lc_st1 (n := 26) (ys := hkM m) (chk := some 2) (l6_c (cl := CL) (σ := [c0, (hkP m).map hkV, (hkM m).map hkV]) s c r g (nLs (pl m)) (nLs (hl m)) p) (fun x => itV (dn x)) (i1.trans h2) (iter_lst rfl) (still_some rfl) i2 (fun x _ => j3 x) (Nat.le_trans (hk_len m).2 (by decide)))
 have e : (hkP m).map hkV ++ (hkM m).map (fun x => itV (dn x)) = (came0 m).map itV := by
  unfold came0
  rw [List.map_append, List.map_map, List.map_map]; rfl
 refine (l6 ..).trans (obT (obT h1 (obT hx (add_lst (r := 1) (xs := (hkP m).map hkV) rfl ?_))) ?_)
 ·rw [List.length_map, List.length_map]; exact Nat.le_trans (Nat.add_le_add (hk_len m).1 (hk_len m).2) (by decide)
 ·rw [e]; rfl
noncomputable def ixs (a n : Nat) : List Nat := (List.range ((n + 1 - a) / 2)).map fun k => a + k * 2
noncomputable def dI : It := (0, 0, 0)
noncomputable def spl (l : List It) : List It := (ixs 0 l.length ++ ixs 1 l.length).map fun k => l.getD k dI
theorem ixs_lt {a n k : Nat} (ha : a ≤ 1) (h : k ∈ ixs a n) : k < n := by
 obtain ⟨j, hj, rfl⟩ := List.mem_map.mp h
 have h := Nat.add_le_of_le_sub (Nat.le_trans ha (Nat.le_add_left 1 n)) ((Nat.le_div_iff_mul_le (by decide)).mp (List.mem_range.mp hj))
 rw [Nat.succ_mul, Nat.add_right_comm] at h
 rw [Nat.add_comm a]; exact Nat.le_of_succ_le_succ h
theorem ixs_len (a n : Nat) : (ixs a n).length ≤ n + 1 := by
 unfold ixs
 rw [List.length_map, List.length_range]; exact Nat.le_trans (Nat.div_le_self ..) (Nat.sub_le ..)
theorem ixs_nodup (a n : Nat) : (ixs a n).Nodup := by
 unfold ixs
 refine List.Pairwise.map _ (fun x y (h : x ≠ y) => ?_) List.nodup_range
 lia
theorem ixs_perm (n : Nat) : (ixs 0 n ++ ixs 1 n).Perm (List.range n) := by
 refine (List.perm_ext_iff_of_nodup ?_ List.nodup_range).mpr fun k => ?_
 ·refine List.nodup_append.mpr ⟨ixs_nodup 0 n, ixs_nodup 1 n, fun a ha b hb => ?_⟩
  obtain ⟨i, _, rfl⟩ := List.mem_map.mp ha
  obtain ⟨j, _, rfl⟩ := List.mem_map.mp hb
  lia
 ·rw [List.mem_append, List.mem_range]
  constructor
  ·rintro (h | h)
   ·exact ixs_lt (by decide) h
   ·exact ixs_lt (by decide) h
  ·intro h
   rcases Nat.mod_two_eq_zero_or_one k with q | q
   ·exact .inl (List.mem_map.mpr ⟨k / 2, List.mem_range.mpr (by lia), by lia⟩)
   ·exact .inr (List.mem_map.mpr ⟨k / 2, List.mem_range.mpr (by lia), by lia⟩)
theorem range_getD {α : Type} (d : α) : ∀ l : List α, (List.range l.length).map (fun k => l.getD k d) = l
 | [] => rfl
 | x :: l => by
  rw [List.length_cons, List.range_succ_eq_map, List.map_cons, List.map_map]
  exact congrArg (x :: ·) (range_getD d l)
theorem spl_perm (l : List It) : (spl l).Perm l := by
 have := (ixs_perm l.length).map fun k => l.getD k dI
 rwa [range_getD] at this
theorem t_range3 (a n : Nat) (σ : Sto) : callT "range" [iV a, iV n, iV 2] σ = some (.rng a n 2, σ) := by kernel_rfl
theorem iter_rng2 {a n : Nat} (ha : a < 2) (hn : n < 51) (σ : Sto) : iterOf (.rng a n 2) σ = some (((ixs a n).map iV, none), σ) := by
 have k : ∀ a : Nat, a < 2 → ∀ n : Nat, n < 51 → Builtin.Range.small a n 2 = true ∧ (Builtin.Range.rangeSize a n 2).toNat = (n + 1 - a) / 2 := by decide +kernel
 obtain ⟨h1, h2⟩ := k a ha n hn
 rw [iter_small h1]
 unfold rangeItems ixs
 rw [h2, List.map_map]; rfl
theorem lc7 {X : Expr} {a : Nat} (ha : a ≤ 1) {e : En} {l : List It} (hX : isLc X) (hl : l.length ≤ 50) (hc : LcK cfg CL 26 e σ X iV (cCa (.list (l.map itV))) (fun x => oCa (.list (l.map itV)) (iV x)))
  (h : (low cfg CL 27).ev e (lcG X).iter σ = ob (ob (ob (callB "len" [.list (l.map itV)] σ) fun v => M.pure [v, iV 2]) fun vs => M.pure (iV a :: vs)) (fun vs => callT "range" vs) ∧ (∀ x, tests (low cfg CL 26) ⟨compNames (lcSc X), oCa (.list (l.map itV)) x⟩ (lcG X).ifs σ = some (true, σ)) ∧ (∀ x, (low cfg CL 26).ev ⟨compNames (lcSc X), oCa (.list (l.map itV)) x⟩ (lcElt X) σ = indexV (.list (l.map itV)) x σ)) :
  (low cfg CL 28).ev e X σ = some (.list (((ixs a l.length).map fun k => l.getD k dI).map itV), σ) := by
 obtain ⟨i1, i2, i3⟩ := h
 have := r_lc (n := 27) hX (lc_st (n := 26) (ys := ixs a l.length) (chk := none) hc (fun _ => true) (fun k => itV (l.getD k dI)) (i1.trans (obT (obT (obT (len_list (by rw [List.length_map]; exact Nat.le_trans hl (by decide)) σ) rfl) rfl) (by rw [List.length_map]; exact t_range3 _ _ σ))) (iter_rng2 (Nat.lt_succ_of_le ha) (Nat.lt_succ_of_le hl) σ) rfl (fun x _ => i2 (iV x)) (fun x hx _ => (i3 (iV x)).trans (ix_at (map_at (ixs_lt ha hx) itV dI) (Nat.lt_trans (ixs_lt ha hx) (Nat.lt_of_le_of_lt hl (by decide))) σ)) (Nat.le_trans (ixs_len ..) (Nat.le_trans (Nat.succ_le_succ hl) (by decide))))
 rw [filt] at this
 rw [List.map_map]; exact this
theorem law_7 {l : List It} (hl : l.length ≤ 50) (s c r g a b p : V) : exStep cfg (low cfg CL 29) ⟨nL, zV [s, c, r, g, a, b, p, .list (l.map itV)]⟩ (lwS 7) σ = some ((.next, zV [s, c, r, g, a, b, p, .list ((spl l).map itV)]), σ) := by
 refine (l7 ..).trans (obT (obT (lc7 (a := 0) (by decide) l67_k.2.1 hl (l7a_c ..).1 (l7a_p ..)) (obT (lc7 (a := 1) (by decide) l67_k.2.2 hl (l7a_c ..).2 (l7b_p ..)) (add_list ?_ σ))) ?_)
 ·rw [List.length_map, List.length_map, List.length_map, List.length_map]; exact Nat.le_trans (Nat.add_le_add (ixs_len 0 _) (ixs_len 1 _)) (Nat.le_trans (Nat.add_le_add (Nat.succ_le_succ hl) (Nat.succ_le_succ hl)) (by decide))
 ·unfold spl; rw [List.map_append, List.map_append]; rfl
end Mine.Internal.L01
namespace Mine.Internal.L01
open PySem PyProof.Rows PySem.W PySem.SeqAt PySem.Calls PySem.Challenge Mine.Internal
variable {α : Type} (kf : α → Int)
noncomputable def cnL (x : Int) (S : List α) : Nat := S.countP fun y => decide (kf y < x)
noncomputable def cnR (x : Int) (S : List α) : Nat := S.countP fun y => decide (kf y ≤ x)
noncomputable def Srt (S : List α) : Prop := S.Pairwise fun a b => kf a ≤ kf b
noncomputable def insA (c : Nat) (x : α) (S : List α) : List α := S.take c ++ x :: S.drop c
variable {kf}
theorem cnL_le (x : Int) (S : List α) : cnL kf x S ≤ S.length := List.countP_le_length
theorem cnR_le (x : Int) (S : List α) : cnR kf x S ≤ S.length := List.countP_le_length
theorem cnL_eq (x : Int) (S : List α) : cnL kf x S = cntL x (S.map kf) := by unfold cnL cntL; rw [List.countP_map]; rfl
theorem cnR_eq (x : Int) (S : List α) : cnR kf x S = cntR x (S.map kf) := by unfold cnR cntR; rw [List.countP_map]; rfl
theorem seg_at {P S Q : List α} {i : Nat} (h1 : P.length ≤ i) (h2 : i < P.length + S.length) : ∃ y, (P ++ S ++ Q)[i]? = some y ∧ S[i - P.length]? = some y := by
 have h : i - P.length < S.length := Nat.sub_lt_left_of_lt_add h1 h2
 refine ⟨S[i - P.length], ?_, List.getElem?_eq_getElem h⟩
 rw [List.append_assoc, List.getElem?_append_right h1, List.getElem?_append_left h]
 exact List.getElem?_eq_getElem h
theorem seg_L {P S Q : List α} (hs : Srt kf S) (x : Int) {i : Nat} (h1 : P.length ≤ i) (h2 : i < P.length + S.length) : ∃ y, (P ++ S ++ Q)[i]? = some y ∧ decide (kf y < x) = decide (i < P.length + cnL kf x S) := by
 obtain ⟨y, e1, e2⟩ := seg_at (Q := Q) h1 h2
 refine ⟨y, e1, decide_eq_decide.mpr ?_⟩
 have := sorted_cntL (x := x) _ (List.pairwise_map.mpr hs) (i - P.length) (kf y) (by rw [List.getElem?_map, e2]; rfl)
 rw [this, cnL_eq]; exact Nat.sub_lt_iff_lt_add' h1
theorem seg_R {P S Q : List α} (hs : Srt kf S) (x : Int) {i : Nat} (h1 : P.length ≤ i) (h2 : i < P.length + S.length) : ∃ y, (P ++ S ++ Q)[i]? = some y ∧ decide (x < kf y) = decide (P.length + cnR kf x S ≤ i) := by
 obtain ⟨y, e1, e2⟩ := seg_at (Q := Q) h1 h2
 refine ⟨y, e1, decide_eq_decide.mpr ?_⟩
 have := sorted_cntR (x := x) _ (List.pairwise_map.mpr hs) (i - P.length) (kf y) (by rw [List.getElem?_map, e2]; rfl)
 rw [this, cnR_eq]; exact Nat.le_sub_iff_add_le' h1
theorem ins_seg {P S Q : List α} {c : Nat} (h : c ≤ S.length) (x : α) (val : α → V) : insertAt (P.length + c) (val x) ((P ++ S ++ Q).map val) = (P ++ insA c x S ++ Q).map val := by
 unfold insertAt insA
 rw [← List.map_take, ← List.map_drop, ← List.map_cons, ← List.map_append]
 congr 1
 rw [List.append_assoc, List.take_length_add_append, List.drop_length_add_append, List.take_append_of_le_length h, List.drop_append_of_le_length h]
 simp only [List.append_assoc, List.cons_append]
structure Seg (val : α → V) (r : Nat) (P S Q : List α) (hv : V) (σ : Sto) : Prop where
 st : σ[r]? = some ((P ++ S ++ Q).map val)
 len : (P ++ S ++ Q).length < 4000
 hi : hv = .int (P.length + S.length : Nat) ∨ (hv = .none ∧ P.length + S.length = ((P ++ S ++ Q).map val).length)
 srt : Srt kf S
noncomputable def Keyd (kf : α → Int) (val : α → V) : Prop := ∀ y, ∃ vs, val y = .tup (.int (kf y) :: vs)
theorem Keyd.first {val : α → V} (h : Keyd kf val) (y : α) (σ : Sto) : (tie cfg 12).call "_law_first" [val y] [] σ = some (.int (kf y), σ) := by
 obtain ⟨vs, e⟩ := h y
 rw [e]; exact first_ok (by decide) _ _ _
theorem at_val {val : α → V} {l : List α} {i : Nat} {y : α} (h : l[i]? = some y) : (l.map val)[i]? = some (val y) := by rw [List.getElem?_map, h]; rfl
section
variable {val : α → V} {r : Nat} {P S Q : List α} {hv : V} {σ : Sto} {pos : List V} {kw : List (Str × V)}
theorem Seg.l4 (g : Seg (kf := kf) val r P S Q hv σ) : ((P ++ S ++ Q).map val).length < 4095 := by rw [List.length_map]; exact Nat.lt_trans g.len (by decide)
theorem Seg.l3 (_ : Seg (kf := kf) val r P S Q hv σ) : P.length + S.length ≤ ((P ++ S ++ Q).map val).length := by rw [List.length_map, List.length_append, List.length_append]; exact Nat.le_add_right _ _
theorem kL (hk : Keyd kf val) (g : Seg (kf := kf) val r P S Q hv σ) {x : α} (hd : callHead cfg "insort_left" pos kw = some (namesOf "insort_left", bodyOf "insort_left", bv r (val x) (.int P.length) hv (.glob "_law_first") [])) :
  CL "insort_left" pos kw σ = some (.none, σ.set r ((P ++ insA (cnL kf (kf x) S) x S ++ Q).map val)) := by
 rw [← ins_seg (cnL_le ..)]
 refine nl_call1 (lo := P.length) (hi := P.length + S.length) (k := P.length + cnL kf (kf x) S) hd g.st g.l4 g.hi (hk.first x σ) (fun i h1 h2 => ?_) (Nat.le_add_right _ _) (Nat.add_le_add_left (cnL_le ..) _) g.l3 (by decide)
 obtain ⟨y, e1, e2⟩ := seg_L g.srt (kf x) h1 h2
 exact ⟨val y, .int (kf y), at_val e1, hk.first y σ, by rw [cmp_lt, e2]⟩
theorem kR (hk : Keyd kf val) (g : Seg (kf := kf) val r P S Q hv σ) {x : α} (hd : callHead cfg "insort_right" pos kw = some (namesOf "insort_right", bodyOf "insort_right", bv r (val x) (.int P.length) hv (.glob "_law_first") [])) :
  CL "insort_right" pos kw σ = some (.none, σ.set r ((P ++ insA (cnR kf (kf x) S) x S ++ Q).map val)) := by
 rw [← ins_seg (cnR_le ..)]
 refine nr_call1 (lo := P.length) (hi := P.length + S.length) (k := P.length + cnR kf (kf x) S) hd g.st g.l4 g.hi (hk.first x σ) (fun i h1 h2 => ?_) (Nat.le_add_right _ _) (Nat.add_le_add_left (cnR_le ..) _) g.l3 (by decide)
 obtain ⟨y, e1, e2⟩ := seg_R g.srt (kf x) h1 h2
 exact ⟨val y, .int (kf y), at_val e1, hk.first y σ, by rw [cmp_lt, e2]⟩
theorem kbL (hk : Keyd kf val) (g : Seg (kf := kf) val r P S Q hv σ) {x : Int} (hd : callHead cfg "bisect_left" pos kw = some (namesOf "bisect_left", bodyOf "bisect_left", bv r (.int x) (.int P.length) hv (.glob "_law_first") [])) :
  CL "bisect_left" pos kw σ = some (iV (P.length + cnL kf x S), σ) := by
 refine bl_call1 (M := 12) (lo := P.length) (hi := P.length + S.length) (k := P.length + cnL kf x S) hd g.st (Nat.lt_trans g.l4 (by decide)) g.hi (fun i h1 h2 => ?_) (Nat.le_add_right _ _) (Nat.add_le_add_left (cnL_le ..) _) g.l3 (by decide)
 obtain ⟨y, e1, e2⟩ := seg_L g.srt x h1 h2
 exact ⟨val y, .int (kf y), at_val e1, hk.first y σ, by rw [cmp_lt, e2]⟩
theorem kbR (hk : Keyd kf val) (g : Seg (kf := kf) val r P S Q hv σ) {x : Int} (hd : callHead cfg "bisect_right" pos kw = some (namesOf "bisect_right", bodyOf "bisect_right", bv r (.int x) (.int P.length) hv (.glob "_law_first") [])) :
  CL "bisect_right" pos kw σ = some (iV (P.length + cnR kf x S), σ) := by
 refine br_call1 (M := 12) (lo := P.length) (hi := P.length + S.length) (k := P.length + cnR kf x S) hd g.st (Nat.lt_trans g.l4 (by decide)) g.hi (fun i h1 h2 => ?_) (Nat.le_add_right _ _) (Nat.add_le_add_left (cnR_le ..) _) g.l3 (by decide)
 obtain ⟨y, e1, e2⟩ := seg_R g.srt x h1 h2
 exact ⟨val y, .int (kf y), at_val e1, hk.first y σ, by rw [cmp_lt, e2]⟩
end
noncomputable def nf (n : Nat) : Int := n
section
variable {r : Nat} {P S Q : List Nat} {hv : V} {σ : Sto} {pos : List V} {kw : List (Str × V)} {x : Nat}
theorem nL_ (g : Seg (kf := nf) iV r P S Q hv σ) (hd : callHead cfg "insort_left" pos kw = some (namesOf "insort_left", bodyOf "insort_left", bv r (iV x) (.int P.length) hv .none [])) :
  CL "insort_left" pos kw σ = some (.none, σ.set r ((P ++ insA (cnL nf x S) x S ++ Q).map iV)) := by
 rw [← ins_seg (cnL_le ..)]
 refine nl_call0 (lo := P.length) (hi := P.length + S.length) (k := P.length + cnL nf x S) hd g.st g.l4 g.hi (fun i h1 h2 => ?_) (Nat.le_add_right _ _) (Nat.add_le_add_left (cnL_le ..) _) g.l3 (by decide)
 obtain ⟨y, e1, e2⟩ := seg_L g.srt x h1 h2
 exact ⟨iV y, at_val e1, by rw [iV, iV, cmp_lt]; exact congrArg (fun b => some (b, σ)) e2⟩
theorem nR_ (g : Seg (kf := nf) iV r P S Q hv σ) (hd : callHead cfg "insort_right" pos kw = some (namesOf "insort_right", bodyOf "insort_right", bv r (iV x) (.int P.length) hv .none [])) :
  CL "insort_right" pos kw σ = some (.none, σ.set r ((P ++ insA (cnR nf x S) x S ++ Q).map iV)) := by
 rw [← ins_seg (cnR_le ..)]
 refine nr_call0 (lo := P.length) (hi := P.length + S.length) (k := P.length + cnR nf x S) hd g.st g.l4 g.hi (fun i h1 h2 => ?_) (Nat.le_add_right _ _) (Nat.add_le_add_left (cnR_le ..) _) g.l3 (by decide)
 obtain ⟨y, e1, e2⟩ := seg_R g.srt x h1 h2
 exact ⟨iV y, at_val e1, by rw [iV, iV, cmp_lt]; exact congrArg (fun b => some (b, σ)) e2⟩
theorem nbL (g : Seg (kf := nf) iV r P S Q hv σ) (hd : callHead cfg "bisect_left" pos kw = some (namesOf "bisect_left", bodyOf "bisect_left", bv r (iV x) (.int P.length) hv .none [])) :
  CL "bisect_left" pos kw σ = some (iV (P.length + cnL nf x S), σ) := by
 refine bl_call0 (lo := P.length) (hi := P.length + S.length) (k := P.length + cnL nf x S) hd g.st (Nat.lt_trans g.l4 (by decide)) g.hi (fun i h1 h2 => ?_) (Nat.le_add_right _ _) (Nat.add_le_add_left (cnL_le ..) _) g.l3 (by decide)
 obtain ⟨y, e1, e2⟩ := seg_L g.srt x h1 h2
 exact ⟨iV y, at_val e1, by rw [iV, iV, cmp_lt]; exact congrArg (fun b => some (b, σ)) e2⟩
theorem nbR (g : Seg (kf := nf) iV r P S Q hv σ) (hd : callHead cfg "bisect_right" pos kw = some (namesOf "bisect_right", bodyOf "bisect_right", bv r (iV x) (.int P.length) hv .none [])) :
  CL "bisect_right" pos kw σ = some (iV (P.length + cnR nf x S), σ) := by
 refine br_call0 (lo := P.length) (hi := P.length + S.length) (k := P.length + cnR nf x S) hd g.st (Nat.lt_trans g.l4 (by decide)) g.hi (fun i h1 h2 => ?_) (Nat.le_add_right _ _) (Nat.add_le_add_left (cnR_le ..) _) g.l3 (by decide)
 obtain ⟨y, e1, e2⟩ := seg_R g.srt x h1 h2
 exact ⟨iV y, at_val e1, by rw [iV, iV, cmp_lt]; exact congrArg (fun b => some (b, σ)) e2⟩
end
end Mine.Internal.L01
namespace Mine.Internal.L01
open PySem PyProof.Rows PySem.W PySem.SeqAt PySem.Calls PySem.Challenge Mine.Internal
noncomputable def kI (p : It) : Int := p.1
noncomputable def bef (o : Bool) (a b : Int) : Bool := match o with
 | true => decide (a ≤ b)
 | false => decide (a < b)
theorem bef_le {o : Bool} {a b : Int} (h : bef o a b = true) : a ≤ b := by
 cases o with
 | true => exact of_decide_eq_true h
 | false => exact Int.le_of_lt (of_decide_eq_true h)
theorem bef_ge {o : Bool} {a b : Int} (h : bef o a b = false) : b ≤ a := by
 cases o with
 | true => exact Int.le_of_lt (Int.not_le.mp (of_decide_eq_false h))
 | false => exact Int.not_lt.mp (of_decide_eq_false h)
noncomputable def ins (o : Bool) (x : It) : List It → List It
 | [] => [x]
 | y :: l => cond (bef o x.1 y.1) (x :: y :: l) (y :: ins o x l)
noncomputable def SS (o : Bool) (l : List It) : List It := l.foldl (fun a p => ins o p a) []
theorem ins_perm (o : Bool) (x : It) : ∀ l, (ins o x l).Perm (x :: l)
 | [] => .refl _
 | y :: l => by
  rw [ins]
  cases bef o x.1 y.1 with
  | true => exact .refl _
  | false => exact ((ins_perm o x l).cons y).trans (.swap x y l)
theorem ins_srt (o : Bool) (x : It) : ∀ l, Srt kI l → Srt kI (ins o x l)
 | [], _ => List.pairwise_singleton _ _
 | y :: l, h => by
  have hh := List.pairwise_cons.mp h
  rw [ins]
  cases q : bef o x.1 y.1 with
  | true => exact List.pairwise_cons.mpr ⟨fun z hz => (List.mem_cons.mp hz).elim (fun e => e ▸ bef_le q) (fun hz => Int.le_trans (bef_le q) (hh.1 z hz)), h⟩
  | false =>
   refine List.pairwise_cons.mpr ⟨fun z hz => ?_, ins_srt o x l hh.2⟩
   exact (List.mem_cons.mp ((ins_perm o x l).mem_iff.mp hz)).elim (fun e => e ▸ bef_ge q) (fun hz => hh.1 z hz)
theorem ins_L (x : It) : ∀ l, Srt kI l → insA (cnL kI (kI x) l) x l = ins true x l
 | [], _ => rfl
 | y :: l, h => by
  obtain ⟨h1, h2⟩ := List.pairwise_cons.mp h
  have ih := ins_L x l h2
  unfold cnL kI at *
  rw [ins, List.countP_cons]
  by_cases q : x.1 ≤ y.1
  ·have e : l.countP (fun z => decide (z.1 < x.1)) = 0 := List.countP_eq_zero.mpr fun z hz w => Int.not_lt.mpr (Int.le_trans q (h1 z hz)) (of_decide_eq_true w)
   rw [e, if_neg (fun w => Int.not_lt.mpr q (of_decide_eq_true w)), show bef true x.1 y.1 = true from decide_eq_true q]; rfl
  ·rw [if_pos (decide_eq_true (Int.not_le.mp q)), show bef true x.1 y.1 = false from decide_eq_false q, ← ih]; rfl
theorem ins_R (x : It) : ∀ l, Srt kI l → insA (cnR kI (kI x) l) x l = ins false x l
 | [], _ => rfl
 | y :: l, h => by
  obtain ⟨h1, h2⟩ := List.pairwise_cons.mp h
  have ih := ins_R x l h2
  unfold cnR kI at *
  rw [ins, List.countP_cons]
  by_cases q : x.1 < y.1
  ·have e : l.countP (fun z => decide (z.1 ≤ x.1)) = 0 := List.countP_eq_zero.mpr fun z hz w => Int.not_le.mpr (Int.lt_of_lt_of_le q (h1 z hz)) (of_decide_eq_true w)
   rw [e, if_neg (fun w => Int.not_le.mpr q (of_decide_eq_true w)), show bef false x.1 y.1 = true from decide_eq_true q]; rfl
  ·rw [if_pos (decide_eq_true (Int.not_lt.mp q)), show bef false x.1 y.1 = false from decide_eq_false q, ← ih]; rfl
theorem SS_snoc (o : Bool) (l : List It) (x : It) : SS o (l ++ [x]) = ins o x (SS o l) := by
 unfold SS; rw [List.foldl_append]; rfl
theorem SS_srt (o : Bool) (l : List It) : Srt kI (SS o l) := by
 have : ∀ (l a : List It), Srt kI a → Srt kI (l.foldl (fun a p => ins o p a) a) := fun l => by
  induction l with
  | nil => exact fun _ h => h
  | cons x l ih => exact fun a h => ih _ (ins_srt o x a h)
 exact this l [] List.Pairwise.nil
theorem SS_perm (o : Bool) (l : List It) : (SS o l).Perm l := by
 have : ∀ (l a : List It), (l.foldl (fun a p => ins o p a) a).Perm (a ++ l) := fun l => by
  induction l with
  | nil => exact fun a => by rw [List.append_nil]; exact .refl _
  | cons x l ih => exact fun a => (ih _).trans (((ins_perm o x a).append_right l).trans List.perm_middle.symm)
 exact this l []
theorem ins_comm (x y : It) : ∀ l, ins true y (ins false x l) = ins false x (ins true y l)
 | [] => by
  by_cases h : y.1 ≤ x.1
  ·simp only [ins, show bef true y.1 x.1 = true from decide_eq_true h, show bef false x.1 y.1 = false from decide_eq_false (Int.not_lt.mpr h), cond_true, cond_false]
  ·simp only [ins, show bef true y.1 x.1 = false from decide_eq_false h, show bef false x.1 y.1 = true from decide_eq_true (Int.not_le.mp h), cond_true, cond_false]
 | z :: l => by
  have ih := ins_comm x y l
  by_cases h1 : x.1 < z.1
  ·have f1 : bef false x.1 z.1 = true := decide_eq_true h1
   by_cases h2 : y.1 ≤ z.1
   ·have f2 : bef true y.1 z.1 = true := decide_eq_true h2
    by_cases h : y.1 ≤ x.1
    ·simp only [ins, f1, f2, show bef true y.1 x.1 = true from decide_eq_true h, show bef false x.1 y.1 = false from decide_eq_false (Int.not_lt.mpr h), cond_true, cond_false]
    ·simp only [ins, f1, f2, show bef true y.1 x.1 = false from decide_eq_false h, show bef false x.1 y.1 = true from decide_eq_true (Int.not_le.mp h), cond_true, cond_false]
   ·have h : ¬ y.1 ≤ x.1 := fun q => h2 (Int.le_of_lt (Int.lt_of_le_of_lt q h1))
    simp only [ins, f1, show bef true y.1 z.1 = false from decide_eq_false h2, show bef true y.1 x.1 = false from decide_eq_false h, cond_true, cond_false]
  ·have f1 : bef false x.1 z.1 = false := decide_eq_false h1
   by_cases h2 : y.1 ≤ z.1
   ·have h : y.1 ≤ x.1 := Int.le_trans h2 (Int.not_lt.mp h1)
    simp only [ins, f1, show bef true y.1 z.1 = true from decide_eq_true h2, show bef false x.1 y.1 = false from decide_eq_false (Int.not_lt.mpr h), cond_true, cond_false]
   ·simp only [ins, f1, show bef true y.1 z.1 = false from decide_eq_false h2, cond_false, ih]
theorem fold_comm (x : It) : ∀ (l a : List It), l.foldl (fun a p => ins false p a) (ins true x a) = ins true x (l.foldl (fun a p => ins false p a) a)
 | [], _ => rfl
 | y :: l, a => by
  rw [List.foldl_cons, ← ins_comm, fold_comm x l]; rfl
theorem SS_rev (l : List It) : SS true l = SS false l.reverse := by
 have : ∀ l : List It, SS true l.reverse = SS false l := fun l => by
  induction l with
  | nil => rfl
  | cons x l ih =>
   rw [List.reverse_cons, SS_snoc, ih]
   unfold SS
   rw [List.foldl_cons, ← fold_comm]; rfl
 rw [← this, List.reverse_reverse]
noncomputable def kIt (p : It) : Int × V := (p.1, itV p)
theorem insKey_map (p : It) : ∀ l : List It, insKey p.1 (itV p) (l.map kIt) = (ins false p l).map kIt
 | [] => rfl
 | y :: l => by
  rw [List.map_cons, kIt, insKey, insKey_map p l, ins]
  by_cases h : p.1 < y.1
  ·rw [if_pos h, show bef false p.1 y.1 = true from decide_eq_true h]; rfl
  ·rw [if_neg h, show bef false p.1 y.1 = false from decide_eq_false h]; rfl
theorem sortKeys_map (l : List It) : (sortKeys (l.map kIt)).map (·.2) = (SS false l).map itV := by
 have : ∀ l a : List It, (l.map kIt).foldl (fun acc p => insKey p.1 p.2 acc) (a.map kIt) = (l.foldl (fun a p => ins false p a) a).map kIt := fun l => by
  induction l with
  | nil => exact fun _ => rfl
  | cons x l ih =>
   intro a
   rw [List.map_cons, List.foldl_cons, List.foldl_cons, ← ih]
   exact congrArg (fun z => List.foldl (fun acc p => insKey p.1 p.2 acc) z (l.map kIt)) (insKey_map x a)
 unfold sortKeys
 rw [show ([] : List (Int × V)) = ([] : List It).map kIt from rfl, this, List.map_map]; rfl
noncomputable def pos (l : List It) : List It := l.filter fun p => decide (p.1 > 0)
noncomputable def neg (l : List It) : List It := l.filter fun p => decide (p.1 < 0)
noncomputable def shelf (o : Bool) (l : List It) : List It := SS o (pos l) ++ SS o (neg l)
theorem pos_snoc (l : List It) (x : It) : pos (l ++ [x]) = if x.1 > 0 then pos l ++ [x] else pos l := by
 unfold pos
 rw [List.filter_append]
 by_cases h : x.1 > 0
 ·rw [if_pos h, List.filter_cons_of_pos (by exact decide_eq_true h)]; rfl
 ·rw [if_neg h, List.filter_cons_of_neg (by exact fun q => h (of_decide_eq_true q))]; exact List.append_nil _
theorem neg_snoc (l : List It) (x : It) : neg (l ++ [x]) = if x.1 < 0 then neg l ++ [x] else neg l := by
 unfold neg
 rw [List.filter_append]
 by_cases h : x.1 < 0
 ·rw [if_pos h, List.filter_cons_of_pos (by exact decide_eq_true h)]; rfl
 ·rw [if_neg h, List.filter_cons_of_neg (by exact fun q => h (of_decide_eq_true q))]; exact List.append_nil _
theorem pos_rev (l : List It) : pos l.reverse = (pos l).reverse := List.filter_reverse ..
theorem neg_rev (l : List It) : neg l.reverse = (neg l).reverse := List.filter_reverse ..
theorem keyd_it : Keyd kI itV := fun y => ⟨[iV y.2.1, iV y.2.2], rfl⟩
theorem kIns {r : Nat} {P S Q : List It} {hv : V} {σ : Sto} (o : Bool) (x : It) (g : Seg (kf := kI) itV r P S Q hv σ) : CL (if o then "insort_left" else "insort_right") [.lst r, itV x, .int P.length, hv] [("key", .glob "_law_first")] σ = some (.none, σ.set r ((P ++ ins o x S ++ Q).map itV)) := by
 cases o with
 | true => rw [← ins_L x S g.srt]; exact kL keyd_it g (by kernel_rfl)
 | false => rw [← ins_R x S g.srt]; exact kR keyd_it g (by kernel_rfl)
end Mine.Internal.L01
namespace Mine.Internal.L01
open PySem PyProof.Rows PySem.W PySem.SeqAt PySem.Calls PySem.Challenge Mine.Internal
variable {cl : Str → List V → List (Str × V) → M V} {σ : Sto}
structure E10 where
 (s c r g a b p ca sh bo : V)
noncomputable def cN : List Str := ["cell", "begin", "end", "gave"]
noncomputable def E10.z (e : E10) (m : List V) : Vars := zV [e.s, e.c, e.r, e.g, e.a, e.b, e.p, e.ca, e.sh, e.bo] ++ cN.zip m
noncomputable def k10 (i : Nat) : Stmt := at' (frBody (lwS 10)) i
noncomputable def X10 : Expr := asV (k10 0)
noncomputable def g10 (i : Nat) : Stmt := at' (if i == 0 then ifThen (k10 1) else ifElse (k10 1)) 0
noncomputable def b10 : Stmt := at' (ifThen (k10 3)) 0
theorem k10_k : (isFr (lwS 10) ∧ frBody (lwS 10) = [k10 0, k10 1, k10 2, k10 3]) ∧ (isAs (k10 0) ∧ isLC X10 = false ∧ isIfx X10) ∧ (isIf (k10 1) ∧ ifThen (k10 1) = [g10 0] ∧ ifElse (k10 1) = [g10 1]) ∧ (isIf (k10 2) ∧ ifElse (k10 2) = []) ∧ isIf (k10 3) ∧ ifElse (k10 3) = [] ∧ ifThen (k10 3) = [b10] := ⟨⟨by kernel_rfl, by kernel_rfl⟩, ⟨by kernel_rfl, by kernel_rfl, by kernel_rfl⟩, ⟨by kernel_rfl, by kernel_rfl, by kernel_rfl⟩, ⟨by kernel_rfl, by kernel_rfl⟩, by kernel_rfl, by kernel_rfl, by kernel_rfl⟩
noncomputable def m0 (m : List V) : Prop := m = [] ∨ Ex4 fun x y z w => m = [x, y, z, w]
noncomputable def m1 (m : List V) : Prop := m = [] ∨ Ex3 fun y z w => m = [y, z, w]
theorem m0.tl {m : List V} (h : m0 m) : m1 (m.drop 1) := by
 rcases h with rfl | ⟨x, y, z, w, rfl⟩
 ·exact .inl rfl
 ·exact .inr ⟨y, z, w, rfl⟩
theorem k10_it (e : E10) (m : List V) (h : m0 m) : (low cfg cl 29).ev ⟨nL, e.z m⟩ (frIter (lwS 10)) σ = some (e.ca, σ) := by
 rcases h with rfl | ⟨x, y, z, w, rfl⟩
 ·kernel_rfl
 ·kernel_rfl
theorem k10_set (e : E10) (v : V) (m : List V) (h : m0 m) : setTo (low cfg cl 29) ⟨nL, e.z m⟩ (frTgt (lwS 10)) v σ = some (e.z (v :: m.drop 1), σ) := by
 rcases h with rfl | ⟨x, y, z, w, rfl⟩
 ·kernel_rfl
 ·kernel_rfl
theorem k10_0t (e : E10) (i : Int) (l : List V) (m : List V) (h : m1 m) : (low cfg cl 27).ts ⟨nL, e.z (.tup (.int i :: l) :: m)⟩ (ixT X10) σ = some (decide (i > 0), σ) := by
 rcases h with rfl | ⟨y, z, w, rfl⟩
 ·kernel_rfl
 ·kernel_rfl
theorem k10_0a (e : E10) (v : V) (m : List V) (h : m1 m) : (low cfg cl 27).ev ⟨nL, e.z (v :: m)⟩ (ixA X10) σ = some (.tup [iV 0, e.bo], σ) := by
 rcases h with rfl | ⟨y, z, w, rfl⟩
 ·kernel_rfl
 ·kernel_rfl
theorem k10_0b (e : E10) (v : V) (m : List V) (h : m1 m) : (low cfg cl 27).ev ⟨nL, e.z (v :: m)⟩ (ixB X10) σ = ob (ob (ob (callB "len" [e.sh] σ) fun v => M.pure [v]) fun vs => M.pure (e.bo :: vs)) fun vs => if vs.length ≤ 65536 then M.pure (.tup vs) else M.fail := by
 rcases h with rfl | ⟨y, z, w, rfl⟩
 ·kernel_rfl
 ·kernel_rfl
theorem k10_0s (e : E10) (v x y : V) (m : List V) (h : m1 m) : (M.bind (thaw cfg (asT (k10 0)) (asV (k10 0)) (.tup [x, y])) fun u => M.bind (setTo (low cfg cl 28) ⟨nL, e.z (v :: m)⟩ (asT (k10 0)) u) fun vars => nx vars) σ = some ((.next, e.z (v :: x :: y :: m.drop 2)), σ) := by
 rcases h with rfl | ⟨y, z, w, rfl⟩
 ·kernel_rfl
 ·kernel_rfl
noncomputable def m2 (m : List V) : Prop := m = [] ∨ ∃ w, m = [w]
theorem m1.tl {m : List V} (h : m1 m) : m2 (m.drop 2) := by
 rcases h with rfl | ⟨y, z, w, rfl⟩
 ·exact .inl rfl
 ·exact .inr ⟨w, rfl⟩
theorem k10_1t (e : E10) (r : Int) (he : e.r = .int r) (v x y : V) (m : List V) (h : m2 m) : (low cfg cl 28).ts ⟨nL, e.z (v :: x :: y :: m)⟩ (ifTest (k10 1)) σ = some (r.fmod 2 == 0, σ) := by
 obtain ⟨s, c, r', g, a, b, p, ca, sh, bo⟩ := e
 cases he
 rcases h with rfl | ⟨w, rfl⟩
 ·kernel_rfl
 ·kernel_rfl
theorem k10_1a (e : E10) (v x y : V) (m : List V) (h : m2 m) : exStep cfg (low cfg cl 27) ⟨nL, e.z (v :: x :: y :: m)⟩ (g10 0) σ = ob (cl "insort_right" [e.sh, v, x, y] [("key", .glob "_law_first")] σ) fun u => M.bind (th false u) fun u => nx (e.z [v, x, y, u]) := by
 rcases h with rfl | ⟨w, rfl⟩
 ·kernel_rfl
 ·kernel_rfl
theorem k10_1b (e : E10) (v x y : V) (m : List V) (h : m2 m) : exStep cfg (low cfg cl 27) ⟨nL, e.z (v :: x :: y :: m)⟩ (g10 1) σ = ob (cl "insort_left" [e.sh, v, x, y] [("key", .glob "_law_first")] σ) fun u => M.bind (th false u) fun u => nx (e.z [v, x, y, u]) := by
 rcases h with rfl | ⟨w, rfl⟩
 ·kernel_rfl
 ·kernel_rfl
theorem k10_2t (e : E10) (v x y : V) : (low cfg cl 28).ts ⟨nL, e.z [v, x, y, .none]⟩ (ifTest (k10 2)) σ = some (false, σ) := by kernel_rfl
theorem k10_3t (e : E10) (i : Int) (l : List V) (x y u : V) : (low cfg cl 28).ts ⟨nL, e.z [.tup (.int i :: l), x, y, u]⟩ (ifTest (k10 3)) σ = some (decide (i > 0), σ) := by kernel_rfl
theorem k10_3b (s c r g a b p ca sh : V) (n : Nat) (v x y u : V) : exStep cfg (low cfg cl 27) ⟨nL, (E10.mk s c r g a b p ca sh (iV n)).z [v, x, y, u]⟩ b10 σ = some ((.next, (E10.mk s c r g a b p ca sh (iV (n + 1))).z [v, x, y, u]), σ) := by kernel_rfl
noncomputable def E10.bor (e : E10) (n : Nat) : E10 := ⟨e.s, e.c, e.r, e.g, e.a, e.b, e.p, e.ca, e.sh, iV n⟩
structure L10 (o : Bool) (e : E10) (τ : Sto) (l : List It) (d : Nat) (vars : Vars) (s : Sto) : Prop where
 s : s = τ ++ [(shelf o (l.take d)).map itV]
 v : ∃ m, m0 m ∧ (d = 0 → m = []) ∧ (d ≠ 0 → m ≠ []) ∧ vars = (e.bor (pos (l.take d)).length).z m
theorem shelf_len (o : Bool) (l : List It) : (SS o (pos l)).length = (pos l).length ∧ (SS o (neg l)).length = (neg l).length ∧ (shelf o l).length ≤ 2 * l.length := by
 have h1 := (SS_perm o (pos l)).length_eq
 have h2 := (SS_perm o (neg l)).length_eq
 refine ⟨h1, h2, ?_⟩
 unfold shelf
 rw [List.length_append, h1, h2]
 have a : (pos l).length ≤ l.length := List.length_filter_le ..
 have b : (neg l).length ≤ l.length := List.length_filter_le ..
 rw [Nat.two_mul]; exact Nat.add_le_add a b
theorem turn10 {o : Bool} {e : E10} {R : Nat} {τ : Sto} {l : List It} {y : It} {m : List V} (hr : e.r = iV R) (ho : o = decide (R % 2 = 1)) (hs : e.sh = .lst τ.length) (hy : y.1 ≠ 0) (hl : l.length ≤ 100) (hm : m1 m) :
  Ex2 fun p q => exAll cfg (low cfg CL 28) ⟨nL, (e.bor (pos l).length).z (itV y :: m)⟩ [k10 0, k10 1, k10 2, k10 3] (τ ++ [(shelf o l).map itV]) = some ((.next, (e.bor (pos (l ++ [y])).length).z [itV y, p, q, .none]), τ ++ [(shelf o (l ++ [y])).map itV]) := by
 obtain ⟨n1, n2, n3⟩ := shelf_len o l
 have hst : (τ ++ [(shelf o l).map itV])[τ.length]? = some ((shelf o l).map itV) := app_get τ _ 0
 have hL : (shelf o l).length < 4000 := by lia
 -- the bounds, and what is laid in
 have key : Ex2 fun p q => exStep cfg (low cfg CL 28) ⟨nL, (e.bor (pos l).length).z (itV y :: m)⟩ (k10 0) (τ ++ [(shelf o l).map itV]) = some ((.next, (e.bor (pos l).length).z (itV y :: p :: q :: m.drop 2)), τ ++ [(shelf o l).map itV]) ∧
   CL (if o then "insort_left" else "insort_right") [.lst τ.length, itV y, p, q] [("key", .glob "_law_first")] (τ ++ [(shelf o l).map itV]) = some (.none, τ ++ [(shelf o (l ++ [y])).map itV]) := by
  have ht := k10_0t (cl := CL) (σ := τ ++ [(shelf o l).map itV]) (e.bor (pos l).length) y.1 [iV y.2.1, iV y.2.2] m hm
  by_cases q : y.1 > 0
  ·rw [decide_eq_true q] at ht
   refine ⟨iV 0, iV (pos l).length, as_run k10_k.2.1.1 ((evV_no k10_k.2.1.2.1 _).trans (r_ifx k10_k.2.1.2.2 ht (k10_0a _ _ _ hm))) (k10_0s _ _ _ _ _ hm), ?_⟩
   have g : Seg (kf := kI) itV τ.length [] (SS o (pos l)) (SS o (neg l)) (iV (pos l).length) (τ ++ [(shelf o l).map itV]) := ⟨hst, hL, .inl (by rw [n1, List.length_nil, Nat.zero_add]; rfl), SS_srt o _⟩
   refine (kIns o y g).trans ?_
   have e1 : shelf o (l ++ [y]) = [] ++ ins o y (SS o (pos l)) ++ SS o (neg l) := by
    unfold shelf
    rw [pos_snoc, if_pos q, neg_snoc, if_neg (by lia), SS_snoc]; rfl
   rw [e1, show τ.length = τ.length + 0 from rfl, app_set]; rfl
  ·rw [decide_eq_false q] at ht
   have hb : (if false = true then (low cfg CL 27).ev ⟨nL, (e.bor (pos l).length).z (itV y :: m)⟩ (ixA X10) else (low cfg CL 27).ev ⟨nL, (e.bor (pos l).length).z (itV y :: m)⟩ (ixB X10)) (τ ++ [(shelf o l).map itV]) = some (.tup [iV (pos l).length, iV (shelf o l).length], τ ++ [(shelf o l).map itV]) := by
    rw [if_neg Bool.false_ne_true]
    refine (k10_0b _ _ _ hm).trans (obT (obT (obT (a := iV (shelf o l).length) ?_ rfl) rfl) rfl)
    show callB "len" [e.sh] _ = _
    rw [hs, len_lst hst (by rw [List.length_map]; lia), List.length_map]
   refine ⟨iV (pos l).length, iV (shelf o l).length, as_run k10_k.2.1.1 ((evV_no k10_k.2.1.2.1 _).trans (r_ifx k10_k.2.1.2.2 ht hb)) (k10_0s _ _ _ _ _ hm), ?_⟩
   ·have g : Seg (kf := kI) itV τ.length (SS o (pos l)) (SS o (neg l)) [] (iV (shelf o l).length) (τ ++ [(shelf o l).map itV]) := ⟨by rw [List.append_nil]; exact hst, by rw [List.append_nil]; exact hL, .inl (by unfold shelf; rw [List.length_append]; rfl), SS_srt o _⟩
    have hk := kIns o y g
    rw [n1] at hk
    refine hk.trans ?_
    have e1 : shelf o (l ++ [y]) = SS o (pos l) ++ ins o y (SS o (neg l)) ++ [] := by
     unfold shelf
     rw [pos_snoc, if_neg q, neg_snoc, if_pos (by lia), SS_snoc, List.append_nil]
    rw [e1, show τ.length = τ.length + 0 from rfl, app_set]; rfl
 obtain ⟨p, q, s0, hc⟩ := key
 have s1 : exStep cfg (low cfg CL 28) ⟨nL, (e.bor (pos l).length).z (itV y :: p :: q :: m.drop 2)⟩ (k10 1) (τ ++ [(shelf o l).map itV]) = some ((.next, (e.bor (pos l).length).z [itV y, p, q, .none]), τ ++ [(shelf o (l ++ [y])).map itV]) := by
  have ht := k10_1t (cl := CL) (σ := τ ++ [(shelf o l).map itV]) (e.bor (pos l).length) R hr (itV y) p q (m.drop 2) hm.tl
  rw [show ((R : Nat) : Int).fmod 2 = ((R % 2 : Nat) : Int) from fmod_nat R 2] at ht
  rcases Nat.mod_two_eq_zero_or_one R with w | w
  ·rw [w] at ho ht
   subst ho
   refine if_yes k10_k.2.2.1.1 ht ?_
   rw [k10_k.2.2.1.2.1]
   refine x_one ((k10_1a _ _ _ _ _ hm.tl).trans (obT (a := .none) ?_ rfl))
   show CL "insort_right" [e.sh, _, _, _] _ _ = _
   rw [hs]; exact hc
  ·rw [w] at ho ht
   subst ho
   refine if_no k10_k.2.2.1.1 ht ?_
   rw [k10_k.2.2.1.2.2]
   refine x_one ((k10_1b _ _ _ _ _ hm.tl).trans (obT (a := .none) ?_ rfl))
   show CL "insort_left" [e.sh, _, _, _] _ _ = _
   rw [hs]; exact hc
 have s3 : exStep cfg (low cfg CL 28) ⟨nL, (e.bor (pos l).length).z [itV y, p, q, .none]⟩ (k10 3) (τ ++ [(shelf o (l ++ [y])).map itV]) = some ((.next, (e.bor (pos (l ++ [y])).length).z [itV y, p, q, .none]), τ ++ [(shelf o (l ++ [y])).map itV]) := by
  have ht := k10_3t (cl := CL) (σ := τ ++ [(shelf o (l ++ [y])).map itV]) (e.bor (pos l).length) y.1 [iV y.2.1, iV y.2.2] p q .none
  by_cases w : y.1 > 0
  ·rw [decide_eq_true w] at ht
   rw [pos_snoc, if_pos w, List.length_append]
   refine if_yes k10_k.2.2.2.2.1 ht ?_
   rw [k10_k.2.2.2.2.2.2]
   exact x_one (k10_3b ..)
  ·rw [decide_eq_false w] at ht
   rw [pos_snoc, if_neg w]
   exact if_not k10_k.2.2.2.2.1 k10_k.2.2.2.2.2.1 ht
 exact ⟨p, q, x_next _ _ _ _ _ s0 (x_next _ _ _ _ _ s1 (x_next _ _ _ _ _ (if_not k10_k.2.2.2.1.1 k10_k.2.2.2.1.2 (k10_2t ..)) (x_one s3)))⟩
theorem law_10 {o : Bool} {e : E10} {R : Nat} {τ : Sto} {l : List It} (hr : e.r = iV R) (ho : o = decide (R % 2 = 1)) (hs : e.sh = .lst τ.length) (hb : e.bo = iV 0) (hc : e.ca = .list (l.map itV)) (hy : ∀ y ∈ l, y.1 ≠ 0) (hl : l.length ≤ 100) :
  ∃ m, m0 m ∧ exStep cfg (low cfg CL 29) ⟨nL, e.z []⟩ (lwS 10) (τ ++ [[]]) = some ((.next, (e.bor (pos l).length).z m), τ ++ [(shelf o l).map itV]) := by
 have e0 : e.bor 0 = e := by
  obtain ⟨s, c, r', g, a, b, p, ca, sh, bo⟩ := e
  cases hb; rfl
 obtain ⟨vars', σ', h1, h2, m, h3, _, _, h4⟩ := for_idx (r := low cfg CL 29) (names := nL) (tgt := frTgt (lwS 10)) (body := frBody (lwS 10)) (chk := none) (all := l.map itV) itV (L10 o e τ l) l
  (fun _ _ _ _ => rfl)
  (fun d y vars s hd h => by
   obtain ⟨rfl, m, hm, _, _, rfl⟩ := h
   have ht : l.take (d + 1) = l.take d ++ [y] := by rw [List.take_add_one, hd]; rfl
   have hlen : (l.take d).length ≤ 100 := by rw [List.length_take]; exact Nat.le_trans (Nat.min_le_right ..) hl
   obtain ⟨p, q, h⟩ := turn10 (y := y) hr ho hs (hy y (List.mem_of_getElem? hd)) hlen hm.tl
   refine ⟨(e.bor (pos (l.take d)).length).z (itV y :: m.drop 1), _, τ ++ [(shelf o (l.take (d + 1))).map itV], k10_set _ _ _ hm, ?_, rfl, [itV y, p, q, .none], .inr ⟨_, _, _, _, rfl⟩, (fun z => Nat.noConfusion z), (fun _ => List.cons_ne_nil _ _), rfl⟩
   show exAll cfg (low cfg CL 28) _ _ _ = _
   rw [k10_k.1.2, ht]
   exact h)
  (e.z []) (e.z []) (τ ++ [[]]) ⟨rfl, [], .inl rfl, fun _ => rfl, fun z => absurd rfl z, by rw [List.take_zero]; show e.z [] = (e.bor 0).z []; rw [e0]⟩
 rw [List.take_length] at h2 h4
 subst h2 h4
 refine ⟨m, h3, ?_⟩
 rw [g_for k10_k.1.1, k10_it _ _ (.inl rfl), hc, ob_some, bind_app, iter_list, ob_some]
 exact h1
noncomputable def dN : List Str := ["ahead", "number", "product", "figures", "more"]
noncomputable def E10.y (e : E10) (m n : List V) : Vars := e.z m ++ dN.zip n
noncomputable def E10.came (e : E10) (v : V) : E10 := ⟨e.s, e.c, e.r, e.g, e.a, e.b, e.p, v, e.sh, e.bo⟩
noncomputable def b11 : Stmt := at' (ifThen (lwS 11)) 0
noncomputable def X12 : Expr := caA 0 (asV (lwS 12))
noncomputable def X13 : Expr := caA 0 (biR (cmR (ifTest (lwS 13))))
noncomputable def oCl (x : V) : Vars := [("cell", x)]
noncomputable def srt (r : Rec) (vs : List V) : M V := callV cfg r (.blt "sorted") vs [("key", .glob "_law_first")]
theorem k11 : (isIf (lwS 11) ∧ ifThen (lwS 11) = [b11] ∧ ifElse (lwS 11) = []) ∧ isLc X12 ∧ isLc X13 ∧ isIf (lwS 13) ∧ ifElse (lwS 13) = [] := ⟨⟨by kernel_rfl, by kernel_rfl, by kernel_rfl⟩, by kernel_rfl, by kernel_rfl, by kernel_rfl, by kernel_rfl⟩
theorem l11_t (e : E10) (r : Int) (he : e.r = .int r) (m : List V) (h : m0 m) : (low cfg cl 29).ts ⟨nL, e.z m⟩ (ifTest (lwS 11)) σ = some (r.fmod 2 == 1, σ) := by
 obtain ⟨s, c, r', g, a, b, p, ca, sh, bo⟩ := e
 cases he
 rcases h with rfl | ⟨x, y, z, w, rfl⟩
 ·kernel_rfl
 ·kernel_rfl
theorem l11_b (e : E10) (m : List V) (h : m0 m) : exStep cfg (low cfg cl 28) ⟨nL, e.z m⟩ b11 σ = ob (sliceV e.ca .none .none (.int (-1)) σ) fun v => M.bind (th false v) fun v => nx ((e.came v).z m) := by
 rcases h with rfl | ⟨x, y, z, w, rfl⟩
 ·kernel_rfl
 ·kernel_rfl
theorem l12 (e : E10) (m : List V) (h : m0 m) : exStep cfg (low cfg cl 29) ⟨nL, e.z m⟩ (lwS 12) σ = ob (ob (ob ((low cfg cl 28).ev ⟨nL, e.z m⟩ X12 σ) fun v => M.pure [v]) (srt (low cfg cl 28))) fun v => M.bind (th false v) fun v => nx (e.y m [v]) := by
 rcases h with rfl | ⟨x, y, z, w, rfl⟩
 ·kernel_rfl
 ·kernel_rfl
theorem l12_c (e : E10) (m : List V) (h : m0 m) : LcK cfg cl 26 ⟨nL, e.z m⟩ σ X12 itV [] (fun x => oCl (itV x)) ∧ (low cfg cl 27).ev ⟨nL, e.z m⟩ (lcG X12).iter σ = some (e.ca, σ) := by
 rcases h with rfl | ⟨x, y, z, w, rfl⟩
 ·exact ⟨⟨by kernel_rfl, by kernel_rfl, fun _ => by kernel_rfl, fun _ _ => by kernel_rfl⟩, by kernel_rfl⟩
 ·exact ⟨⟨by kernel_rfl, by kernel_rfl, fun _ => by kernel_rfl, fun _ _ => by kernel_rfl⟩, by kernel_rfl⟩
theorem l12_p (i : Int) (l : List V) : tests (low cfg cl 26) ⟨compNames (lcSc X12), oCl (.tup (.int i :: l))⟩ (lcG X12).ifs σ = tI (decide (i > 0)) σ ∧ (∀ x, (low cfg cl 26).ev ⟨compNames (lcSc X12), oCl x⟩ (lcElt X12) σ = some (x, σ)) := ⟨by kernel_rfl, fun _ => by kernel_rfl⟩
theorem l13_t (e : E10) (m : List V) (h : m0 m) (v : V) : (low cfg cl 29).ts ⟨nL, e.y m [v]⟩ (ifTest (lwS 13)) σ = ob (ob (ob (ob ((low cfg cl 26).ev ⟨nL, e.y m [v]⟩ X13 σ) fun v => M.pure [v]) (srt (low cfg cl 26))) fun w => binV .Add v w) fun w => cmpV cfg .NotEq e.sh w := by
 rcases h with rfl | ⟨x, y, z, w, rfl⟩
 ·kernel_rfl
 ·kernel_rfl
theorem l13_c (e : E10) (m : List V) (h : m0 m) (v : V) : LcK cfg cl 24 ⟨nL, e.y m [v]⟩ σ X13 itV [] (fun x => oCl (itV x)) ∧ (low cfg cl 25).ev ⟨nL, e.y m [v]⟩ (lcG X13).iter σ = some (e.ca, σ) := by
 rcases h with rfl | ⟨x, y, z, w, rfl⟩
 ·exact ⟨⟨by kernel_rfl, by kernel_rfl, fun _ => by kernel_rfl, fun _ _ => by kernel_rfl⟩, by kernel_rfl⟩
 ·exact ⟨⟨by kernel_rfl, by kernel_rfl, fun _ => by kernel_rfl, fun _ _ => by kernel_rfl⟩, by kernel_rfl⟩
theorem l13_p (i : Int) (l : List V) : tests (low cfg cl 24) ⟨compNames (lcSc X13), oCl (.tup (.int i :: l))⟩ (lcG X13).ifs σ = tI (decide (i < 0)) σ ∧ (∀ x, (low cfg cl 24).ev ⟨compNames (lcSc X13), oCl x⟩ (lcElt X13) σ = some (x, σ)) := ⟨by kernel_rfl, fun _ => by kernel_rfl⟩
theorem keys_it (n : Nat) : ∀ (l : List It) (σ : Sto), keysOf (low cfg CL n) "_law_first" (l.map itV) σ = some (l.map kIt, σ)
 | [], _ => rfl
 | y :: l, σ => by
  have h1 : (low cfg CL n).call "_law_first" [itV y] [] σ = some (.int y.1, σ) := by
   have : (low cfg CL n).call = CL := by cases n <;> rfl
   rw [this]; exact first_ok (by decide) _ _ _
  show ob ((low cfg CL n).call "_law_first" [itV y] [] σ) _ = _
  rw [h1, ob_some]
  show ob (keysOf (low cfg CL n) "_law_first" (l.map itV) σ) _ = _
  rw [keys_it n l σ, ob_some]; rfl
theorem srt_it (n : Nat) {l : List It} (h : l.length < 64) (σ : Sto) : srt (low cfg CL n) [.list (l.map itV)] σ = some (.list ((SS false l).map itV), σ) := by
 have e : ∀ (r : Rec) (xs : List V), srt r [.list xs] = if xs.length < 64 then M.bind (keysOf r "_law_first" xs) fun ks => M.pure (.list ((sortKeys ks).map (·.2))) else M.fail := fun r xs => by kernel_rfl
 rw [e, List.length_map, if_pos h, bind_app, keys_it, ob_some, sortKeys_map]; rfl
theorem eqvs_refl {f : V → V → Option Bool} {l : List V} (h : ∀ v ∈ l, f v v = some true) : eqvs f l l = some true := by
 induction l with
 | nil => rfl
 | cons v l ih => rw [eqvs, h v List.mem_cons_self, ih fun x hx => h x (List.mem_cons_of_mem _ hx)]; rfl
theorem eq_int (n : Nat) (i : Int) : eqv (n + 1) (.int i) (.int i) = some true := by
 show some (i == i) = _
 rw [beq_self_eq_true]
theorem eq_it (n : Nat) (t : It) : eqv (n + 2) (itV t) (itV t) = some true := by
 show (eqvs (eqv (n + 1)) [.int t.1, iV t.2.1, iV t.2.2] [.int t.1, iV t.2.1, iV t.2.2]).map (fun x => x && (3 : Nat) == 3) = _
 rw [eqvs_refl fun v hv => ?_]
 ·rfl
 ·rcases List.mem_cons.mp hv with rfl | hv
  ·exact eq_int n _
  rcases List.mem_cons.mp hv with rfl | hv
  ·exact eq_int n _
  rcases List.mem_cons.mp hv with rfl | hv
  ·exact eq_int n _
  ·exact absurd hv List.not_mem_nil
theorem eq_list {l : List V} (h : ∀ v ∈ l, eqv 5 v v = some true) : eqv 6 (.list l) (.list l) = some true := by
 show (if (l.length == l.length) = true then eqvs (eqv 5) l l else some false) = _
 rw [beq_self_eq_true, if_pos rfl, eqvs_refl h]
theorem ne_lst {r : Nat} {l : List V} (hr : σ[r]? = some l) (h : ∀ v ∈ l, eqv 5 v v = some true) : cmpV cfg .NotEq (.lst r) (.list l) σ = some (false, σ) := by
 have e : cmpV cfg .NotEq (.lst r) (.list l) = M.bind (M.bind (M.bind (M.look r) fun xs => M.pure (.list xs)) fun a => M.of (eqv 6 a (.list l))) fun b => M.pure (!b) := by kernel_rfl
 rw [e, bind_app, bind_app, bind_app, look_app, hr, lookR_some, ob_some, pure_app, ob_some, eq_list h, of_some, ob_some]; rfl
theorem ne_list {l : List V} (h : ∀ v ∈ l, eqv 5 v v = some true) : cmpV cfg .NotEq (.list l) (.list l) σ = some (false, σ) := by
 have e : cmpV cfg .NotEq (.list l) (.list l) = M.bind (M.of (eqv 6 (.list l) (.list l))) fun b => M.pure (!b) := by kernel_rfl
 rw [e, bind_app, eq_list h, of_some, ob_some]; rfl
noncomputable def turned (o : Bool) (l : List It) : List It := if o then l.reverse else l
theorem turned_shelf (o : Bool) (l : List It) : SS false (pos (turned o l)) ++ SS false (neg (turned o l)) = shelf o l := by
 unfold turned shelf
 cases o with
 | false => rfl
 | true =>
  show SS false (pos l.reverse) ++ SS false (neg l.reverse) = _
  rw [pos_rev, neg_rev, ← SS_rev, ← SS_rev]
theorem turned_len (o : Bool) (l : List It) : (turned o l).length = l.length := by
 unfold turned
 cases o
 ·rfl
 ·exact List.length_reverse
theorem law_13 {o : Bool} {e : E10} {R r : Nat} {l : List It} {m : List V} (hm : m0 m) (hr : e.r = iV R) (ho : o = decide (R % 2 = 1)) (hs : e.sh = .lst r) (hσ : σ[r]? = some ((shelf o l).map itV)) (hc : e.ca = .list (l.map itV)) (hl : l.length ≤ 50) :
  Ex2 fun v w => ∀ (ss : List Stmt) (y : Option ((Fl × Vars) × Sto)), exAll cfg (low cfg CL 29) ⟨nL, (e.came v).y m [w]⟩ ss σ = y → exAll cfg (low cfg CL 29) ⟨nL, e.z m⟩ (lwS 11 :: lwS 12 :: lwS 13 :: ss) σ = y := by
 have s11 : exStep cfg (low cfg CL 29) ⟨nL, e.z m⟩ (lwS 11) σ = some ((.next, (e.came (.list ((turned o l).map itV))).z m), σ) := by
  have ht := l11_t (cl := CL) (σ := σ) e R hr m hm
  rw [show ((R : Nat) : Int).fmod 2 = ((R % 2 : Nat) : Int) from fmod_nat R 2] at ht
  rcases Nat.mod_two_eq_zero_or_one R with w | w
  ·rw [w] at ho ht
   subst ho
   have : e.came (.list ((turned false l).map itV)) = e := by
    obtain ⟨s, c, r', g, a, b, p, ca, sh, bo⟩ := e
    cases hc; rfl
   rw [show decide (0 = 1) = false from rfl, this]
   exact if_not k11.1.1 k11.1.2.2 ht
  ·rw [w] at ho ht
   subst ho
   refine if_yes k11.1.1 ht ?_
   rw [k11.1.2.1]
   refine x_one ((l11_b _ _ hm).trans ?_)
   rw [hc]
   refine obT (sl_rev (by rw [List.length_map]; exact Nat.le_trans hl (by decide)) σ) ?_
   rw [← List.map_reverse]; rfl
 have hL : ∀ q : List It, q.length ≤ 50 → q.length < 64 := fun q h => Nat.lt_of_le_of_lt h (by decide)
 have hp : (pos (turned o l)).length ≤ 50 := Nat.le_trans (List.length_filter_le ..) (by rw [turned_len]; exact hl)
 have hn : (neg (turned o l)).length ≤ 50 := Nat.le_trans (List.length_filter_le ..) (by rw [turned_len]; exact hl)
 generalize he : e.came (.list ((turned o l).map itV)) = f at s11
 have hca : f.ca = .list ((turned o l).map itV) := by rw [← he]; rfl
 have hsh : f.sh = .lst r := by rw [← he]; exact hs
 have s12 : exStep cfg (low cfg CL 29) ⟨nL, f.z m⟩ (lwS 12) σ = some ((.next, f.y m [.list ((SS false (pos (turned o l))).map itV)]), σ) := by
  obtain ⟨i1, i2⟩ := l12_c (cl := CL) (σ := σ) f m hm
  refine (l12 _ _ hm).trans (obT (obT (obT (r_lc (n := 27) k11.2.1 (lc_st (n := 26) (ys := turned o l) (chk := none) i1 (fun y => decide (y.1 > 0)) itV (i2.trans (by rw [hca])) rfl rfl (fun y _ => (l12_p _ _).1.trans (tI_e ..)) (fun y _ _ => (l12_p y.1 []).2 _) (by rw [turned_len]; exact Nat.le_trans hl (by decide)))) rfl) (srt_it 28 (hL _ hp) σ)) rfl)
 have s13 : exStep cfg (low cfg CL 29) ⟨nL, f.y m [.list ((SS false (pos (turned o l))).map itV)]⟩ (lwS 13) σ = some ((.next, f.y m [.list ((SS false (pos (turned o l))).map itV)]), σ) := by
  obtain ⟨i1, i2⟩ := l13_c (cl := CL) (σ := σ) f m hm (.list ((SS false (pos (turned o l))).map itV))
  refine if_not (σ1 := σ) k11.2.2.2.1 k11.2.2.2.2 ((l13_t _ _ hm _).trans (obT (obT (obT (obT (r_lc (n := 25) k11.2.2.1 (lc_st (n := 24) (ys := turned o l) (chk := none) i1 (fun y => decide (y.1 < 0)) itV (i2.trans (by rw [hca])) rfl rfl (fun y _ => (l13_p _ _).1.trans (tI_e ..)) (fun y _ _ => (l13_p y.1 []).2 _) (by rw [turned_len]; exact Nat.le_trans hl (by decide)))) rfl) (srt_it 26 (hL _ hn) σ)) (add_list ?_ σ)) ?_))
  ·rw [List.length_map, List.length_map, (SS_perm ..).length_eq, (SS_perm ..).length_eq]; exact Nat.le_trans (Nat.add_le_add hp hn) (by decide)
  ·rw [← List.map_append]
   show cmpV cfg .NotEq f.sh (.list ((SS false (pos (turned o l)) ++ SS false (neg (turned o l))).map itV)) σ = _
   rw [turned_shelf, hsh]
   exact ne_lst hσ fun v hv => by
    obtain ⟨t, _, rfl⟩ := List.mem_map.mp hv
    exact eq_it 3 t
 subst he
 exact ⟨_, _, fun ss y k => x_next _ _ _ _ _ s11 (x_next _ _ _ _ _ s12 (x_next _ _ _ _ _ s13 k))⟩
noncomputable def X14 : Expr := caA 0 (asV (lwS 14))
noncomputable def X15 : Expr := caA 0 (biR (asV (lwS 15)))
noncomputable def T17 : Stmt := at' (frBody (lwS 17)) 0
noncomputable def X17 : Expr := cmR (ifTest T17)
noncomputable def oPl (x : V) : Vars := [("place", x)]
noncomputable def cMo (x : V) : Vars := [("more", x)]
noncomputable def oMo (x y : V) : Vars := [("more", x), ("figure", y)]
theorem k14 : isLc X14 ∧ isLc X15 ∧ isFr (lwS 17) ∧ frBody (lwS 17) = [T17] ∧ isIf T17 ∧ ifElse T17 = [] ∧ isLc X17 := ⟨by kernel_rfl, by kernel_rfl, by kernel_rfl, by kernel_rfl, by kernel_rfl, by kernel_rfl, by kernel_rfl⟩
theorem l14 (e : E10) (m : List V) (h : m0 m) (u : V) : exStep cfg (low cfg cl 29) ⟨nL, e.y m [u]⟩ (lwS 14) σ = ob (ob (ob ((low cfg cl 28).ev ⟨nL, e.y m [u]⟩ X14 σ) fun v => M.pure [v]) fun vs => callB "sum" vs) fun v => M.bind (th false v) fun v => nx (e.y m [u, v]) := by
 rcases h with rfl | ⟨x, y, z, w, rfl⟩
 ·kernel_rfl
 ·kernel_rfl
theorem l14_c (e : E10) (m : List V) (h : m0 m) (u : V) : LcK cfg cl 26 ⟨nL, e.y m [u]⟩ σ X14 iV [] (fun x => oPl (iV x)) ∧ (low cfg cl 27).ev ⟨nL, e.y m [u]⟩ (lcG X14).iter σ = some (e.a, σ) := by
 rcases h with rfl | ⟨x, y, z, w, rfl⟩
 ·exact ⟨⟨by kernel_rfl, by kernel_rfl, fun _ => by kernel_rfl, fun _ _ => by kernel_rfl⟩, by kernel_rfl⟩
 ·exact ⟨⟨by kernel_rfl, by kernel_rfl, fun _ => by kernel_rfl, fun _ _ => by kernel_rfl⟩, by kernel_rfl⟩
theorem l14_p (x : V) : tests (low cfg cl 26) ⟨compNames (lcSc X14), oPl x⟩ (lcG X14).ifs σ = some (true, σ) ∧ (low cfg cl 26).ev ⟨compNames (lcSc X14), oPl x⟩ (lcElt X14) σ = binV .Pow (iV 16) x σ := ⟨by kernel_rfl, by kernel_rfl⟩
theorem l15 (e : E10) (m : List V) (h : m0 m) (u n : V) : exStep cfg (low cfg cl 29) ⟨nL, e.y m [u, n]⟩ (lwS 15) σ = ob (ob (ob (ob ((low cfg cl 27).ev ⟨nL, e.y m [u, n]⟩ X15 σ) fun v => M.pure [v]) fun vs => callB "sum" vs) fun v => binV .Mult n v) fun v => M.bind (th false v) fun v => nx (e.y m [u, n, v]) := by
 rcases h with rfl | ⟨x, y, z, w, rfl⟩
 ·kernel_rfl
 ·kernel_rfl
theorem l15_c (e : E10) (m : List V) (h : m0 m) (u n : V) : LcK cfg cl 25 ⟨nL, e.y m [u, n]⟩ σ X15 iV [] (fun x => oPl (iV x)) ∧ (low cfg cl 26).ev ⟨nL, e.y m [u, n]⟩ (lcG X15).iter σ = some (e.b, σ) := by
 rcases h with rfl | ⟨x, y, z, w, rfl⟩
 ·exact ⟨⟨by kernel_rfl, by kernel_rfl, fun _ => by kernel_rfl, fun _ _ => by kernel_rfl⟩, by kernel_rfl⟩
 ·exact ⟨⟨by kernel_rfl, by kernel_rfl, fun _ => by kernel_rfl, fun _ _ => by kernel_rfl⟩, by kernel_rfl⟩
theorem l15_p (x : Int) : tests (low cfg cl 25) ⟨compNames (lcSc X15), oPl (.int x)⟩ (lcG X15).ifs σ = some (true, σ) ∧ (low cfg cl 25).ev ⟨compNames (lcSc X15), oPl (.int x)⟩ (lcElt X15) σ = binV .Pow (iV 16) (.int (9 - x)) σ := ⟨by kernel_rfl, by kernel_rfl⟩
theorem l16 (e : E10) (m : List V) (h : m0 m) (u n : V) (p : Int) : exStep cfg (low cfg cl 29) ⟨nL, e.y m [u, n, .int p]⟩ (lwS 16) σ = ob (ob (ob (cl "Int2AP" [.int (-p)] [] σ) fun v => M.pure [v, iV 19]) fun vs => cl "_law_figures" vs []) fun v => M.bind (th false v) fun v => nx (e.y m [u, n, .int p, v]) := by
 rcases h with rfl | ⟨x, y, z, w, rfl⟩
 ·kernel_rfl
 ·kernel_rfl
theorem l17_it (e : E10) (m : List V) (h : m0 m) (u n p f : V) : (low cfg cl 29).ev ⟨nL, e.y m [u, n, p, f]⟩ (frIter (lwS 17)) σ = some (.list ([5, 10].map iV), σ) := by
 rcases h with rfl | ⟨x, y, z, w, rfl⟩
 ·kernel_rfl
 ·kernel_rfl
theorem l17_set (e : E10) (m : List V) (h : m0 m) (u n p f v : V) (q : List V) (hq : m2 q) : setTo (low cfg cl 29) ⟨nL, e.y m (u :: n :: p :: f :: q)⟩ (frTgt (lwS 17)) v σ = some (e.y m [u, n, p, f, v], σ) := by
 rcases h with rfl | ⟨x, y, z, w, rfl⟩ <;> rcases hq with rfl | ⟨w, rfl⟩
 ·kernel_rfl
 ·kernel_rfl
 ·kernel_rfl
 ·kernel_rfl
noncomputable def is510 (k : Nat) : Prop := k = 5 ∨ k = 10
theorem l17_t (e : E10) (m : List V) (h : m0 m) (u n : V) (p : Int) (f : V) (k : Nat) (hk : is510 k) : (low cfg cl 28).ts ⟨nL, e.y m [u, n, .int p, f, iV k]⟩ (ifTest T17) σ = ob (ob (ob (cl "Int2AP" [.int (-p - ((k * R19 : Nat) : Int))] [] σ) fun v => M.pure [v, iV 19]) fun vs => cl "_law_figures" vs []) fun v => M.bind ((low cfg cl 27).ev ⟨nL, e.y m [u, n, .int p, f, iV k]⟩ X17) fun w => cmpV cfg .NotEq v w := by
 rcases h with rfl | ⟨x, y, z, w, rfl⟩ <;> rcases hk with rfl | rfl
 ·kernel_rfl
 ·kernel_rfl
 ·kernel_rfl
 ·kernel_rfl
theorem l17_c (e : E10) (m : List V) (h : m0 m) (u n p f v : V) : LcK cfg cl 25 ⟨nL, e.y m [u, n, p, f, v]⟩ σ X17 iV (cMo v) (fun x => oMo v (iV x)) ∧ (low cfg cl 26).ev ⟨nL, e.y m [u, n, p, f, v]⟩ (lcG X17).iter σ = some (f, σ) := by
 rcases h with rfl | ⟨x, y, z, w, rfl⟩
 ·exact ⟨⟨by kernel_rfl, by kernel_rfl, fun _ => by kernel_rfl, fun _ _ => by kernel_rfl⟩, by kernel_rfl⟩
 ·exact ⟨⟨by kernel_rfl, by kernel_rfl, fun _ => by kernel_rfl, fun _ _ => by kernel_rfl⟩, by kernel_rfl⟩
theorem l17_p (v x : V) : tests (low cfg cl 25) ⟨compNames (lcSc X17), oMo v x⟩ (lcG X17).ifs σ = some (true, σ) ∧ (low cfg cl 25).ev ⟨compNames (lcSc X17), oMo v x⟩ (lcElt X17) σ = binV .Add x v σ := ⟨by kernel_rfl, by kernel_rfl⟩
theorem o_powN {b : Nat} (h : b ≤ 256) (σ : Sto) : binV .Pow (iV 16) (iV b) σ = some (iV (16 ^ b), σ) := by
 unfold iV
 rw [o_pow (by rw [decide_eq_true (Int.natCast_nonneg b), decide_eq_true (show (b : Int) ≤ 256 from Int.ofNat_le.mpr h)]; rfl), Int.toNat_natCast]
 congr 3
theorem chk_a {m : Nat} (h : m < 1024) : prodN m < 16 ^ 19 ∧ ∀ k, is510 k → prodN m + k * R19 < 16 ^ 19 ∧ dg (prodN m + k * R19) 19 = (figs m).map (· + k) := by
 obtain ⟨h1, h2, _⟩ := figs_le h
 refine ⟨h2, fun k hk => ?_⟩
 have := dg_rep k 19 (prodN m) h2 fun d hd => by
  have := h1 d hd
  rcases hk with rfl | rfl <;> lia
 rw [← R19_rep] at this
 exact ⟨this.2, this.1⟩
theorem numN_lt {m : Nat} : numN m < 2 ^ 256 ∧ numH m < 2 ^ 256 := by
 have s : ∀ (l : List Nat) (f : Nat → Nat), (∀ x ∈ l, f x ≤ 16 ^ 9) → sumN (l.map f) ≤ l.length * 16 ^ 9 := fun l f => by
  induction l with
  | nil => exact fun _ => Nat.le_refl _
  | cons x l ih =>
   intro h
   have h1 := ih fun y hy => h y (List.mem_cons_of_mem _ hy)
   have h2 := h x List.mem_cons_self
   rw [List.map_cons, sumN, List.length_cons, Nat.succ_mul, Nat.add_comm]; exact Nat.add_le_add h1 h2
 have h9 : ∀ p, p ≤ 9 → 16 ^ p ≤ 16 ^ 9 := fun p h => Nat.pow_le_pow_right (by decide) h
 refine ⟨Nat.lt_of_le_of_lt (s (pl m) _ fun p hp => h9 p (Nat.le_of_lt_succ (mem_pl.mp hp).1)) (Nat.lt_of_le_of_lt (Nat.mul_le_mul_right _ (pl_len m)) (by decide)), Nat.lt_of_le_of_lt (s (hl m) _ fun p _ => h9 _ (Nat.sub_le _ _)) (Nat.lt_of_le_of_lt (Nat.mul_le_mul_right _ (hl_len m)) (by decide))⟩
theorem neg_abs (a b : Nat) : (-(a : Int) - (b : Int)).natAbs = a + b := by rw [Int.sub_eq_add_neg, ← Int.neg_add, Int.natAbs_neg]; rfl
theorem fig_ne (F : List Nat) (k : Nat) (σ : Sto) : cmpV cfg .NotEq (nLs (F.map (· + k))) (.list (F.map fun f => iV (f + k))) σ = some (false, σ) := by
 rw [nLs, List.map_map]
 exact ne_list fun v hv => by
  obtain ⟨t, _, rfl⟩ := List.mem_map.mp hv
  exact eq_int 4 _
theorem fig_run {n : Nat} (h : n < 16 ^ 19) {p : Int} (hp : p.natAbs = n) (σ : Sto) : ob (ob (CL "Int2AP" [.int p] [] σ) fun v => M.pure [v, iV 19]) (fun vs => CL "_law_figures" vs []) = some (nLs (dg n 19), σ) := by
 subst hp
 exact obT (obT (ap_call (Nat.lt_trans h (by decide)) (by decide) σ) rfl) (fg_call h (by decide) (by decide) σ)
structure L17 (e : E10) (m : List V) (u n p f : V) (σ : Sto) (d : Nat) (vars : Vars) (s : Sto) : Prop where
 s : s = σ
 v : ∃ q, m2 q ∧ (d ≠ 0 → q ≠ []) ∧ vars = e.y m (u :: n :: p :: f :: q)
theorem law_17 {e : E10} {M : Nat} {m : List V} (hM : M < 1024) (hm : m0 m) (ha : e.a = nLs (pl M)) (hb : e.b = nLs (hl M)) (u : V) :
  ∃ w, ∀ (ss : List Stmt) (y : Option ((Fl × Vars) × Sto)), exAll cfg (low cfg CL 29) ⟨nL, e.y m [u, iV (numN M), iV (prodN M), nLs (figs M), w]⟩ ss σ = y → exAll cfg (low cfg CL 29) ⟨nL, e.y m [u]⟩ (lwS 14 :: lwS 15 :: lwS 16 :: lwS 17 :: ss) σ = y := by
 obtain ⟨n1, n2⟩ := numN_lt (m := M)
 obtain ⟨c1, c2⟩ := chk_a hM
 have s14 : exStep cfg (low cfg CL 29) ⟨nL, e.y m [u]⟩ (lwS 14) σ = some ((.next, e.y m [u, iV (numN M)]), σ) := by
  obtain ⟨i1, i2⟩ := l14_c (cl := CL) (σ := σ) e m hm u
  have hx := r_lc (n := 27) k14.1 (lc_st (n := 26) (ys := pl M) (chk := none) i1 (fun _ => true) (fun p => iV (16 ^ p)) (i2.trans (by rw [ha])) rfl rfl (fun x _ => (l14_p _).1) (fun x hx _ => (l14_p _).2.trans (o_powN (Nat.le_trans (Nat.le_of_lt (mem_pl.mp hx).1) (by decide)) σ)) (Nat.le_trans (pl_len M) (by decide)))
  rw [filt] at hx
  refine (l14 _ _ hm _).trans (obT (obT (obT hx rfl) (?_ : _ = some (iV (numN M), σ))) rfl)
  have := sum_list ((pl M).map fun p => 16 ^ p) σ
  unfold nLs at this
  rw [List.map_map] at this
  exact this
 have s15 : exStep cfg (low cfg CL 29) ⟨nL, e.y m [u, iV (numN M)]⟩ (lwS 15) σ = some ((.next, e.y m [u, iV (numN M), iV (prodN M)]), σ) := by
  obtain ⟨i1, i2⟩ := l15_c (cl := CL) (σ := σ) e m hm u (iV (numN M))
  have hx := r_lc (n := 26) k14.2.1 (lc_st (n := 25) (ys := hl M) (chk := none) i1 (fun _ => true) (fun p => iV (16 ^ (9 - p))) (i2.trans (by rw [hb])) rfl rfl (fun x _ => (l15_p x).1) (fun x hx _ => (l15_p x).2.trans (by
   have := (mem_hl.mp hx).1
   rw [show (9 : Int) - (x : Int) = ((9 - x : Nat) : Int) from (Int.ofNat_sub (Nat.le_of_lt_succ this)).symm]
   exact o_powN (Nat.le_trans (Nat.sub_le _ _) (by decide)) σ)) (Nat.le_trans (hl_len M) (by decide)))
  rw [filt] at hx
  refine (l15 _ _ hm _ _).trans (obT (obT (obT (obT hx rfl) (?_ : _ = some (iV (numH M), σ))) (?_ : _ = some (iV (prodN M), σ))) rfl)
  ·have := sum_list ((hl M).map fun p => 16 ^ (9 - p)) σ
   unfold nLs at this
   rw [List.map_map] at this
   exact this
  ·unfold iV
   rw [o_mul (small_nat n1) (small_nat n2), ← Int.natCast_mul]; rfl
 have s16 : exStep cfg (low cfg CL 29) ⟨nL, e.y m [u, iV (numN M), iV (prodN M)]⟩ (lwS 16) σ = some ((.next, e.y m [u, iV (numN M), iV (prodN M), nLs (figs M)]), σ) :=
  (l16 _ _ hm _ _ _).trans (obT (fig_run c1 (by rw [Int.natAbs_neg, Int.natAbs_natCast]) σ) rfl)
 have fe : ∀ y, is510 y → ∀ s, ob (ob (CL "Int2AP" [.int (-((prodN M : Nat) : Int) - ((y * R19 : Nat) : Int))] [] s) fun v => Mine.Internal.M.pure [v, iV 19]) (fun vs => CL "_law_figures" vs []) = some (nLs ((figs M).map (· + y)), s) := fun y hy s => by
  rw [← (c2 y hy).2]
  exact fig_run (c2 y hy).1 (neg_abs _ _) s
 have s17 : ∃ w, exStep cfg (low cfg CL 29) ⟨nL, e.y m [u, iV (numN M), iV (prodN M), nLs (figs M)]⟩ (lwS 17) σ = some ((.next, e.y m [u, iV (numN M), iV (prodN M), nLs (figs M), w]), σ) := by
  obtain ⟨vars', σ', h1, h2, q, h3, h4, h5⟩ := for_idx (r := low cfg CL 29) (names := nL) (tgt := frTgt (lwS 17)) (body := frBody (lwS 17)) (chk := none) (all := [5, 10].map iV) iV (L17 e m u (iV (numN M)) (iV (prodN M)) (nLs (figs M)) σ) [5, 10]
   (fun _ _ _ _ => rfl)
   (fun d y vars s hd h => by
    obtain ⟨rfl, q, hq, _, rfl⟩ := h
    have hy : is510 y := by
     have := List.mem_of_getElem? hd
     rcases List.mem_cons.mp this with h | h
     ·exact .inl h
     ·exact .inr (List.mem_singleton.mp h)
    refine ⟨_, e.y m [u, iV (numN M), iV (prodN M), nLs (figs M), iV y], s, l17_set _ _ hm _ _ _ _ _ _ hq, ?_, rfl, [iV y], .inr ⟨_, rfl⟩, fun _ => List.cons_ne_nil _ _, rfl⟩
    show exAll cfg (low cfg CL 28) _ _ _ = _
    rw [k14.2.2.2.1]
    obtain ⟨i1, i2⟩ := l17_c (cl := CL) (σ := s) e m hm u (iV (numN M)) (iV (prodN M)) (nLs (figs M)) (iV y)
    have hx := r_lc (n := 26) k14.2.2.2.2.2.2 (lc_st (n := 25) (ys := figs M) (chk := none) i1 (fun _ => true) (fun f => iV (f + y)) i2 rfl rfl (fun x _ => (l17_p _ _).1) (fun x _ _ => (l17_p _ _).2) (by unfold figs; rw [dg_len]; decide))
    rw [filt] at hx
    refine x_one (if_not (σ1 := s) k14.2.2.2.2.1 k14.2.2.2.2.2.1 ((l17_t _ _ hm _ _ _ _ _ hy).trans (obT (fe y hy s) (obT hx (fig_ne (figs M) y s))))))
   (e.y m [u, iV (numN M), iV (prodN M), nLs (figs M)]) (e.y m [u, iV (numN M), iV (prodN M), nLs (figs M)]) σ ⟨rfl, [], .inl rfl, fun z => absurd rfl z, rfl⟩
  subst h2 h5
  obtain ⟨w, rfl⟩ := h3.resolve_left (h4 (by decide))
  refine ⟨w, ?_⟩
  rw [g_for k14.2.2.1, l17_it _ _ hm, ob_some, bind_app, iter_list, ob_some]
  exact h1
 obtain ⟨w, s17⟩ := s17
 exact ⟨w, fun ss y k => x_next _ _ _ _ _ s14 (x_next _ _ _ _ _ s15 (x_next _ _ _ _ _ s16 (x_next _ _ _ _ _ s17 k)))⟩
noncomputable def kc (i : Int) (l : List It) : Nat := l.countP fun p => decide (p.1 = i)
theorem eq_cnt (x : Int) : ∀ S : List It, Srt kI S → cnR kI x (S.drop (cnL kI x S)) = kc x S
 | [], _ => rfl
 | y :: S, h => by
  obtain ⟨h1, h2⟩ := List.pairwise_cons.mp h
  have ih := eq_cnt x S h2
  unfold cnL kc kI at *
  rw [List.countP_cons, List.countP_cons]
  by_cases q : y.1 < x
  ·rw [if_pos (decide_eq_true q), if_neg (fun w => Int.ne_of_lt q (of_decide_eq_true w))]
   exact ih
  ·have e : S.countP (fun z => decide (z.1 < x)) = 0 := List.countP_eq_zero.mpr fun z hz w => q (Int.lt_of_le_of_lt (h1 z hz) (of_decide_eq_true w))
   rw [e, if_neg (fun w => q (of_decide_eq_true w))]
   show cnR (fun p : It => p.1) x (y :: S) = _
   unfold cnR
   rw [List.countP_cons]
   have e1 : S.countP (fun z => decide (z.1 ≤ x)) = S.countP fun z => decide (z.1 = x) := by
    refine List.countP_congr fun z hz => ?_
    exact decide_eq_true_iff.trans (Iff.trans ⟨fun w => Int.le_antisymm w (Int.le_trans (Int.not_lt.mp q) (h1 z hz)), Int.le_of_eq⟩ decide_eq_true_iff.symm)
   have e2 : (if decide (y.1 ≤ x) = true then 1 else 0) = if decide (y.1 = x) = true then 1 else 0 := by
    by_cases w : y.1 = x
    ·rw [if_pos (decide_eq_true w), if_pos (decide_eq_true (Int.le_of_eq w))]
    ·rw [if_neg (fun z => w (of_decide_eq_true z)), if_neg (fun z => w (Int.le_antisymm (of_decide_eq_true z) (Int.not_lt.mp q)))]
   rw [e1, e2]
theorem kc_pos {i : Int} (h : i > 0) (o : Bool) (l : List It) : kc i (SS o (pos l)) = kc i l := by
 unfold kc pos
 rw [(SS_perm o _).countP_eq, List.countP_filter]
 refine List.countP_congr fun p _ => ?_
 simp; lia
theorem kc_neg {i : Int} (h : i < 0) (o : Bool) (l : List It) : kc i (SS o (neg l)) = kc i l := by
 unfold kc neg
 rw [(SS_perm o _).countP_eq, List.countP_filter]
 refine List.countP_congr fun p _ => ?_
 simp; lia
theorem kc_nil (o : Bool) (l : List It) : kc 0 (SS o (neg l)) = 0 := by
 unfold kc neg
 rw [(SS_perm o _).countP_eq, List.countP_filter]
 refine List.countP_eq_zero.mpr fun p _ => ?_
 simp; lia
theorem kc_came (k : Nat) (m : Nat) (hk : 0 < k) : kc k (spl (came0 m)) = cnt k (hkP m) ∧ kc (-(k : Int)) (spl (came0 m)) = cnt k (hkM m) := by
 unfold kc cnt
 rw [(spl_perm _).countP_eq, (spl_perm _).countP_eq]
 unfold came0
 rw [List.countP_append, List.countP_map, List.countP_map, List.countP_append, List.countP_map, List.countP_map]
 have z1 : (hkM m).countP ((fun p : It => decide (p.1 = (k : Int))) ∘ dn) = 0 := List.countP_eq_zero.mpr fun p _ w => by
  have : -(p.1 : Int) = k := of_decide_eq_true w
  lia
 have z2 : (hkP m).countP ((fun p : It => decide (p.1 = -(k : Int))) ∘ up) = 0 := List.countP_eq_zero.mpr fun p _ w => by
  have : (p.1 : Int) = -k := of_decide_eq_true w
  lia
 have e1 : ∀ a : Nat, (decide ((a : Int) = k) = true) ↔ (Nat.beq a k = true) := fun a => ⟨fun w => by rw [Int.ofNat.inj (of_decide_eq_true w)]; exact Nat.beq_refl k, fun w => by rw [Nat.eq_of_beq_eq_true w]; exact decide_eq_true rfl⟩
 rw [z1, z2, Nat.add_zero, Nat.zero_add]
 refine ⟨List.countP_congr fun p _ => e1 p.1, List.countP_congr fun p _ => ?_⟩
 refine Iff.trans ?_ (e1 p.1)
 show decide (-(p.1 : Int) = -(k : Int)) = true ↔ _
 exact decide_eq_true_iff.trans (Int.neg_inj.trans decide_eq_true_iff.symm)
theorem came_nz (m : Nat) : ∀ y ∈ spl (came0 m), y.1 ≠ 0 := fun y hy => by
 have hy := (spl_perm _).mem_iff.mp hy
 rcases List.mem_append.mp hy with hy | hy
 ·obtain ⟨p, hp, rfl⟩ := List.mem_map.mp hy
  exact fun w => hk_nz.1 p hp (Int.ofNat.inj w)
 ·obtain ⟨p, hp, rfl⟩ := List.mem_map.mp hy
  exact fun w => hk_nz.2 p hp (Int.ofNat.inj (Int.neg_eq_zero.mp w))
theorem seek {m : Nat} (h : m < 1024) (o : Bool) {i : Int} (h1 : -9 ≤ i) (h2 : i ≤ 9) : ((kc i (if i > 0 then SS o (pos (spl (came0 m))) else SS o (neg (spl (came0 m)))) : Nat) : Int) = ((figs m).getD (9 + i).toNat 0 : Nat) := by
 congr 1
 by_cases q : i > 0
 ·rw [if_pos q, kc_pos q]
  obtain ⟨k, rfl⟩ := Int.eq_ofNat_of_zero_le (Int.le_of_lt q)
  have hk : 0 < k := Int.ofNat_lt.mp q
  rw [(kc_came k m hk).1, (chk_b h hk (Nat.lt_succ_of_le (Int.ofNat_le.mp h2))).1]
  congr 1
 ·rw [if_neg q]
  by_cases q0 : i = 0
  ·subst q0
   rw [kc_nil]; exact (figs_le h).2.2.symm
  ·have qn : i < 0 := Int.lt_iff_le_and_ne.mpr ⟨Int.not_lt.mp q, q0⟩
   rw [kc_neg qn]
   obtain ⟨k, hk⟩ := Int.eq_ofNat_of_zero_le (Int.neg_nonneg_of_nonpos (Int.le_of_lt qn))
   have hk0 : 0 < k := Int.ofNat_lt.mp (hk ▸ Int.neg_pos_of_neg qn)
   have e : i = -(k : Int) := by rw [← Int.neg_neg i, hk]
   rw [e, (kc_came k m hk0).2, (chk_b h hk0 (Nat.lt_succ_of_le (Int.ofNat_le.mp (hk ▸ Int.neg_le_of_neg_le h1)))).2]
   congr 1
   exact (Int.toNat_sub 9 k).symm
structure E5 where
 (h n p f mo : V)
noncomputable def d6 : List Str := ["ahead", "number", "product", "figures", "more", "length"]
noncomputable def E5.l (t : E5) (v : V) : Vars := d6.zip [t.h, t.n, t.p, t.f, t.mo, v]
noncomputable def beN : List Str := ["begin", "end"]
noncomputable def E10.w (e : E10) (t : E5) (f : Bool) (c x y g v : V) (k : Vars) : Vars := match f with
 | true => e.z [c, x, y, g] ++ (t.l v ++ k)
 | false => e.z [] ++ (t.l v ++ (beN.zip [x, y] ++ k))
noncomputable def E10.w0 (e : E10) (t : E5) (v : V) : Vars := e.z [] ++ t.l v
noncomputable def shp (e : E10) (t : E5) (v : V) (vars : Vars) : Prop := (Ex5 fun f c x y g => vars = e.w t f c x y g v []) ∨ vars = e.w0 t v
noncomputable def k18 (i : Nat) : Stmt := at' (frBody (lwS 18)) i
noncomputable def X18 : Expr := asV (k18 0)
theorem k18_k : (isFr (lwS 18) ∧ frBody (lwS 18) = [k18 0, k18 1, k18 2]) ∧ (isAs (k18 0) ∧ isLC X18 = false ∧ isIfx X18) ∧ isIf (k18 2) ∧ ifElse (k18 2) = [] := ⟨⟨by kernel_rfl, by kernel_rfl⟩, ⟨by kernel_rfl, by kernel_rfl, by kernel_rfl⟩, by kernel_rfl, by kernel_rfl⟩
theorem k18_it (e : E10) (m : List V) (h : m0 m) (t : E5) : (low cfg cl 29).ev ⟨nL, e.y m [t.h, t.n, t.p, t.f, t.mo]⟩ (frIter (lwS 18)) σ = some (.rng (-9) 10 1, σ) := by
 rcases h with rfl | ⟨x, y, z, w, rfl⟩
 ·kernel_rfl
 ·kernel_rfl
theorem k18_s1 (e : E10) (t : E5) (x y z w v : V) : setTo (low cfg cl 29) ⟨nL, e.y [x, y, z, w] [t.h, t.n, t.p, t.f, t.mo]⟩ (frTgt (lwS 18)) v σ = some (e.w t true x y z w v [], σ) := by kernel_rfl
theorem k18_s0 (e : E10) (t : E5) (v : V) : setTo (low cfg cl 29) ⟨nL, e.y [] [t.h, t.n, t.p, t.f, t.mo]⟩ (frTgt (lwS 18)) v σ = some (e.w0 t v, σ) := by kernel_rfl
theorem k18_s (e : E10) (t : E5) (f : Bool) (x y z w u v : V) : setTo (low cfg cl 29) ⟨nL, e.w t f x y z w u []⟩ (frTgt (lwS 18)) v σ = some (e.w t f x y z w v [], σ) := by
 cases f
 ·kernel_rfl
 ·kernel_rfl
theorem k18_0t (e : E10) (t : E5) (i : Int) (vars : Vars) (h : shp e t (.int i) vars) : (low cfg cl 27).ts ⟨nL, vars⟩ (ixT X18) σ = some (decide (i > 0), σ) := by
 rcases h with ⟨f, c, x, y, g, rfl⟩ | rfl
 ·cases f
  ·kernel_rfl
  ·kernel_rfl
 ·kernel_rfl
theorem k18_0a (e : E10) (t : E5) (v : V) (vars : Vars) (h : shp e t v vars) : (low cfg cl 27).ev ⟨nL, vars⟩ (ixA X18) σ = some (.tup [iV 0, e.bo], σ) := by
 rcases h with ⟨f, c, x, y, g, rfl⟩ | rfl
 ·cases f
  ·kernel_rfl
  ·kernel_rfl
 ·kernel_rfl
theorem k18_0b (e : E10) (t : E5) (v : V) (vars : Vars) (h : shp e t v vars) : (low cfg cl 27).ev ⟨nL, vars⟩ (ixB X18) σ = ob (ob (ob (callB "len" [e.sh] σ) fun v => M.pure [v]) fun vs => M.pure (e.bo :: vs)) fun vs => if vs.length ≤ 65536 then M.pure (.tup vs) else M.fail := by
 rcases h with ⟨f, c, x, y, g, rfl⟩ | rfl
 ·cases f
  ·kernel_rfl
  ·kernel_rfl
 ·kernel_rfl
theorem k18_0s (e : E10) (t : E5) (v p q : V) (vars : Vars) (h : shp e t v vars) : Ex3 fun f c g => (M.bind (thaw cfg (asT (k18 0)) (asV (k18 0)) (.tup [p, q])) fun u => M.bind (setTo (low cfg cl 28) ⟨nL, vars⟩ (asT (k18 0)) u) fun vars => nx vars) σ = some ((.next, e.w t f c p q g v []), σ) := by
 rcases h with ⟨f, c, x, y, g, rfl⟩ | rfl
 ·cases f
  ·exact ⟨false, c, g, by kernel_rfl⟩
  ·exact ⟨true, c, g, by kernel_rfl⟩
 ·exact ⟨false, .none, .none, by kernel_rfl⟩
theorem k18_1 (e : E10) (t : E5) (f : Bool) (c x y g v : V) : exStep cfg (low cfg cl 28) ⟨nL, e.w t f c x y g v []⟩ (k18 1) σ = ob (cl "bisect_left" [e.sh, v, x, y] [("key", .glob "_law_first")] σ) fun u => M.bind (th false u) fun u => nx (e.w t f c u y g v []) := by
 cases f
 ·kernel_rfl
 ·kernel_rfl
theorem k18_2t (e : E10) (t : E5) (f : Bool) (c x y g : V) (i : Int) : (low cfg cl 28).ts ⟨nL, e.w t f c x y g (.int i) []⟩ (ifTest (k18 2)) σ = ob (ob (cl "bisect_right" [e.sh, .int i, x, y] [("key", .glob "_law_first")] σ) fun v => binV .Sub v x) fun v => M.bind (indexV t.f (.int (9 + i))) fun w => cmpV cfg .NotEq v w := by
 cases f
 ·kernel_rfl
 ·kernel_rfl
theorem cmp_neN (a b : Nat) (h : a = b) (σ : Sto) : cmpV cfg .NotEq (.int (a : Int)) (iV b) σ = some (false, σ) := by
 subst h
 rw [iV, cmp_ne, beq_self_eq_true]; rfl
theorem turn18 {o : Bool} {e : E10} {t : E5} {M : Nat} {i : Int} {vars : Vars} (hM : M < 1024) (hs : e.sh = .lst 3) (hb : e.bo = iV (pos (spl (came0 M))).length) (hf : t.f = nLs (figs M)) (h1 : -9 ≤ i) (h2 : i ≤ 9) (h : shp e t (.int i) vars) (hσ : σ[3]? = some ((shelf o (spl (came0 M))).map itV)) :
  Ex5 fun f c x y g => exAll cfg (low cfg CL 28) ⟨nL, vars⟩ [k18 0, k18 1, k18 2] σ = some ((.next, e.w t f c x y g (.int i) []), σ) := by
 have hsk := seek hM o h1 h2
 have hl : (spl (came0 M)).length ≤ 50 := by rw [(spl_perm _).length_eq]; exact came0_len M
 generalize spl (came0 M) = l at *
 obtain ⟨n1, n2, n3⟩ := shelf_len o l
 have hL : (shelf o l).length < 4000 := Nat.lt_of_le_of_lt n3 (Nat.lt_of_le_of_lt (Nat.mul_le_mul_left 2 hl) (by decide))
 have ht := k18_0t (cl := CL) (σ := σ) e t i vars h
 -- the part of the shelf
 have key : Ex4 fun p q P S => Ex2 fun Q (f : Bool) => Ex2 fun c g => exStep cfg (low cfg CL 28) ⟨nL, vars⟩ (k18 0) σ = some ((.next, e.w t f c p q g (.int i) []), σ) ∧ p = .int (P.length : Nat) ∧ q = .int (P.length + S.length : Nat) ∧ shelf o l = P ++ S ++ Q ∧ Srt kI S ∧ S = (if i > 0 then SS o (pos l) else SS o (neg l)) := by
  by_cases q : i > 0
  ·rw [decide_eq_true q] at ht
   obtain ⟨f, c, g, hh⟩ := k18_0s (cl := CL) (σ := σ) e t (.int i) (iV 0) e.bo vars h
   refine ⟨iV 0, e.bo, [], SS o (pos l), SS o (neg l), f, c, g, as_run k18_k.2.1.1 ((evV_no k18_k.2.1.2.1 _).trans (r_ifx k18_k.2.1.2.2 ht (k18_0a _ _ _ _ h))) hh, rfl, ?_, rfl, SS_srt o _, ?_⟩
   ·rw [hb, n1, List.length_nil, Nat.zero_add]; rfl
   ·rw [if_pos q]
  ·rw [decide_eq_false q] at ht
   obtain ⟨f, c, g, hh⟩ := k18_0s (cl := CL) (σ := σ) e t (.int i) e.bo (iV (shelf o l).length) vars h
   have hb' : (if false = true then (low cfg CL 27).ev ⟨nL, vars⟩ (ixA X18) else (low cfg CL 27).ev ⟨nL, vars⟩ (ixB X18)) σ = some (.tup [e.bo, iV (shelf o l).length], σ) := by
    rw [if_neg Bool.false_ne_true]
    refine (k18_0b _ _ _ _ h).trans (obT (obT (obT (a := iV (shelf o l).length) ?_ rfl) rfl) rfl)
    rw [hs, len_lst hσ (by rw [List.length_map]; exact Nat.le_of_lt (Nat.lt_trans hL (by decide))), List.length_map]
   refine ⟨e.bo, iV (shelf o l).length, SS o (pos l), SS o (neg l), [], f, c, g, as_run k18_k.2.1.1 ((evV_no k18_k.2.1.2.1 _).trans (r_ifx k18_k.2.1.2.2 ht hb')) hh, ?_, ?_, ?_, SS_srt o _, ?_⟩
   ·rw [hb, n1]; rfl
   ·unfold shelf; rw [List.length_append]; rfl
   ·rw [List.append_nil]; rfl
   ·rw [if_neg q]
 obtain ⟨p, q, P, S, Q, f, c, g, s0, rfl, rfl, e1, hS, e2⟩ := key
 rw [← e2] at hsk
 rw [e1] at hσ hL
 have gs : Seg (kf := kI) itV 3 P S Q (.int (P.length + S.length : Nat)) σ := ⟨hσ, hL, .inl rfl, hS⟩
 have b1 : CL "bisect_left" [e.sh, .int i, .int (P.length : Nat), .int (P.length + S.length : Nat)] [("key", .glob "_law_first")] σ = some (iV (P.length + cnL kI i S), σ) := by
  rw [hs]; exact kbL keyd_it gs (by kernel_rfl)
 have s1 := (k18_1 (cl := CL) (σ := σ) e t f c (.int (P.length : Nat)) (.int (P.length + S.length : Nat)) g (.int i)).trans (obT b1 rfl)
 have hc := cnL_le (kf := kI) i S
 have ep : P ++ S ++ Q = (P ++ S.take (cnL kI i S)) ++ S.drop (cnL kI i S) ++ Q := by rw [List.append_assoc P (S.take _), List.take_append_drop]
 have lp : (P ++ S.take (cnL kI i S)).length = P.length + cnL kI i S := by rw [List.length_append, List.length_take, Nat.min_eq_left hc]
 have lq : (P ++ S.take (cnL kI i S)).length + (S.drop (cnL kI i S)).length = P.length + S.length := by rw [lp, List.length_drop, Nat.add_assoc, Nat.add_sub_cancel' hc]
 have gs2 : Seg (kf := kI) itV 3 (P ++ S.take (cnL kI i S)) (S.drop (cnL kI i S)) Q (.int (P.length + S.length : Nat)) σ := ⟨by rw [← ep]; exact hσ, by rw [← ep]; exact hL, .inl (by rw [lq]), hS.drop⟩
 have b2 : CL "bisect_right" [e.sh, .int i, iV (P.length + cnL kI i S), .int (P.length + S.length : Nat)] [("key", .glob "_law_first")] σ = some (iV (P.length + cnL kI i S + kc i S), σ) := by
  have := kbR (pos := [.lst 3, .int i, .int (P ++ S.take (cnL kI i S)).length, .int (P.length + S.length : Nat)]) (kw := [("key", .glob "_law_first")]) keyd_it gs2 (x := i) (by kernel_rfl)
  rw [lp, eq_cnt i S hS] at this
  rw [hs]; exact this
 refine ⟨f, c, iV (P.length + cnL kI i S), .int (P.length + S.length : Nat), g, x_next _ _ _ _ _ s0 (x_next _ _ _ _ _ s1 (x_one (if_not (σ1 := σ) k18_k.2.2.1 k18_k.2.2.2 ((k18_2t ..).trans (obT (obT b2 (o_sub ..)) (obT (a := iV ((figs M).getD (9 + i).toNat 0)) (s := σ) ?_ ?_))))))⟩
 ·obtain ⟨k, hk⟩ := Int.eq_ofNat_of_zero_le (show 0 ≤ 9 + i from Int.add_le_add_left h1 9)
  have hk19 : k < (figs M).length := by unfold figs; rw [dg_len]; exact Nat.lt_succ_of_le (Int.ofNat_le.mp (hk ▸ Int.add_le_add_left h2 9))
  rw [hf, hk]
  exact ix_at (map_at hk19 iV 0) (Nat.lt_trans (by unfold figs at hk19; rwa [dg_len] at hk19) (by decide : 19 < 2 ^ 62)) σ
 ·have : (((P.length + cnL kI i S + kc i S : Nat) : Int) - (P.length + cnL kI i S : Nat)) = (kc i S : Nat) := by rw [Int.natCast_add (P.length + cnL kI i S), Int.add_comm, Int.add_sub_cancel]
  rw [this]
  exact cmp_neN _ _ (Int.ofNat.inj hsk) σ
structure L18 (e : E10) (t : E5) (m : List V) (σ : Sto) (d : Nat) (vars : Vars) (s : Sto) : Prop where
 s : s = σ
 v : (d = 0 ∧ vars = e.y m [t.h, t.n, t.p, t.f, t.mo]) ∨ Ex6 fun f c x y g v => vars = e.w t f c x y g v []
theorem law_18 {o : Bool} {e : E10} {t : E5} {M : Nat} {m : List V} (hM : M < 1024) (hm : m0 m) (hs : e.sh = .lst 3) (hb : e.bo = iV (pos (spl (came0 M))).length) (hf : t.f = nLs (figs M)) (hσ : σ[3]? = some ((shelf o (spl (came0 M))).map itV)) :
  Ex6 fun f c x y g v => exStep cfg (low cfg CL 29) ⟨nL, e.y m [t.h, t.n, t.p, t.f, t.mo]⟩ (lwS 18) σ = some ((.next, e.w t f c x y g v []), σ) := by
 obtain ⟨vars', σ', h1, h2, h3⟩ := for_idx (r := low cfg CL 29) (names := nL) (tgt := frTgt (lwS 18)) (body := frBody (lwS 18)) (chk := none) (all := (upto (-9) 19).map V.int) V.int (L18 e t m σ) (upto (-9) 19)
  (fun _ _ _ _ => rfl)
  (fun d y vars s hd h => by
   obtain ⟨rfl, hv⟩ := h
   obtain ⟨y1, y2⟩ := mem_upto (List.mem_of_getElem? hd)
   have key : ∃ vars1, shp e t (.int y) vars1 ∧ setTo (low cfg CL 29) ⟨nL, vars⟩ (frTgt (lwS 18)) (.int y) s = some (vars1, s) := by
    rcases hv with ⟨_, rfl⟩ | ⟨f, c, a, b, g, u, rfl⟩
    ·rcases hm with rfl | ⟨a, b, c, d, rfl⟩
     ·exact ⟨_, .inr rfl, k18_s0 ..⟩
     ·exact ⟨_, .inl ⟨true, _, _, _, _, rfl⟩, k18_s1 ..⟩
    ·exact ⟨_, .inl ⟨f, _, _, _, _, rfl⟩, k18_s ..⟩
   obtain ⟨vars1, hsh, hset⟩ := key
   obtain ⟨f, c, a, b, g, hh⟩ := turn18 (o := o) hM hs hb hf y1 (by lia) hsh hσ
   refine ⟨vars1, e.w t f c a b g (.int y) [], s, hset, ?_, rfl, .inr ⟨_, _, _, _, _, _, rfl⟩⟩
   show exAll cfg (low cfg CL 28) _ _ _ = _
   rw [k18_k.1.2]
   exact hh)
  (e.y m [t.h, t.n, t.p, t.f, t.mo]) (e.y m [t.h, t.n, t.p, t.f, t.mo]) σ ⟨rfl, .inl ⟨rfl, rfl⟩⟩
 subst h2
 obtain ⟨f, c, a, b, g, u, rfl⟩ := h3.resolve_left fun q => by
  have := q.1
  rw [len_upto] at this
  exact Nat.noConfusion this
 refine ⟨f, c, a, b, g, u, ?_⟩
 rw [g_for k18_k.1.1, k18_it _ _ hm, ob_some, bind_app, iter_rng (by decide) (by decide) (by decide) (by decide), ob_some]
 exact h1
structure Wv where
 (e : E10) (t : E5) (f : Bool) (c x y g v : V)
noncomputable def kN : List Str := ["step", "size", "beads", "spots", "free", "moved", "passed", "spot", "here", "bead"]
noncomputable def Wv.k (w : Wv) (ks : List V) : Vars := w.e.w w.t w.f w.c w.x w.y w.g w.v (kN.zip ks)
noncomputable def X21 : Expr := asV (lwS 21)
noncomputable def X23 : Expr := asV (lwS 23)
noncomputable def cSi (g : V) : Vars := [("signs", g)]
noncomputable def oSi (g x : V) : Vars := [("signs", g), ("place", x)]
noncomputable def cHs (b s : V) : Vars := [("hidden", b), ("step", s)]
noncomputable def oHs (b s x : V) : Vars := [("hidden", b), ("step", s), ("one", x)]
theorem k19 : isAs (lwS 21) ∧ isLc X21 ∧ isAs (lwS 23) ∧ isLc X23 := ⟨by kernel_rfl, by kernel_rfl, by kernel_rfl, by kernel_rfl⟩
theorem l19 (w : Wv) (R : Int) (h : w.e.r = .int R) : exStep cfg (low cfg cl 29) ⟨nL, w.k []⟩ (lwS 19) σ = some ((.next, w.k [.int (2 + R.fmod 3)]), σ) := by
 obtain ⟨⟨s, c', r', g', a, b, p, ca, sh, bo⟩, t, f, c, x, y, g, v⟩ := w
 cases h
 cases f
 ·kernel_rfl
 ·kernel_rfl
theorem l20 (w : Wv) (s : V) : exStep cfg (low cfg cl 29) ⟨nL, w.k [s]⟩ (lwS 20) σ = ob (callB "len" [w.e.a] σ) fun v => M.bind (th false v) fun v => nx (w.k [s, v]) := by
 obtain ⟨e, t, f, c, x, y, g, v⟩ := w
 cases f
 ·kernel_rfl
 ·kernel_rfl
theorem l21_c (w : Wv) (s z : V) : LcK cfg cl 28 ⟨nL, w.k [s, z]⟩ σ X21 iV (cSi w.e.g) (fun x => oSi w.e.g (iV x)) ∧ (low cfg cl 29).ev ⟨nL, w.k [s, z]⟩ (lcG X21).iter σ = some (w.e.a, σ) := by
 obtain ⟨e, t, f, c, x, y, g, v⟩ := w
 cases f
 ·exact ⟨⟨by kernel_rfl, by kernel_rfl, fun _ => by kernel_rfl, fun _ _ => by kernel_rfl⟩, by kernel_rfl⟩
 ·exact ⟨⟨by kernel_rfl, by kernel_rfl, fun _ => by kernel_rfl, fun _ _ => by kernel_rfl⟩, by kernel_rfl⟩
theorem l21_p (g x : V) : tests (low cfg cl 28) ⟨compNames (lcSc X21), oSi g x⟩ (lcG X21).ifs σ = some (true, σ) ∧ (low cfg cl 28).ev ⟨compNames (lcSc X21), oSi g x⟩ (lcElt X21) σ = ob (ob (ob (ob (indexV g x σ) fun v => indexV v (.int 0)) fun v => M.pure [v]) fun vs => M.pure (x :: vs)) fun vs => if vs.length ≤ 65536 then M.pure (.tup vs) else M.fail := ⟨by kernel_rfl, by kernel_rfl⟩
theorem l21_as (w : Wv) (s z : V) (l : List V) : (M.bind (thaw cfg (asT (lwS 21)) (asV (lwS 21)) (.list l)) fun v => M.bind (setTo (low cfg cl 29) ⟨nL, w.k [s, z]⟩ (asT (lwS 21)) v) fun vars => nx vars) σ = some ((.next, w.k [s, z, .lst σ.length]), σ ++ [l]) := by
 obtain ⟨e, t, f, c, x, y, g, v⟩ := w
 cases f
 ·kernel_rfl
 ·kernel_rfl
theorem l22 (w : Wv) (s z b : V) : exStep cfg (low cfg cl 29) ⟨nL, w.k [s, z, b]⟩ (lwS 22) σ = ob (binV .Add w.e.a w.e.b σ) fun v => M.bind (th true v) fun v => nx (w.k [s, z, b, v]) := by
 obtain ⟨e, t, f, c, x, y, g, v⟩ := w
 cases f
 ·kernel_rfl
 ·kernel_rfl
theorem l23_c (w : Wv) (s z b p : V) : LcK cfg cl 28 ⟨nL, w.k [s, z, b, p]⟩ σ X23 iV (cHs w.e.b s) (fun x => oHs w.e.b s (iV x)) ∧ (low cfg cl 29).ev ⟨nL, w.k [s, z, b, p]⟩ (lcG X23).iter σ = some (w.e.a, σ) := by
 obtain ⟨e, t, f, c, x, y, g, v⟩ := w
 cases f
 ·exact ⟨⟨by kernel_rfl, by kernel_rfl, fun _ => by kernel_rfl, fun _ _ => by kernel_rfl⟩, by kernel_rfl⟩
 ·exact ⟨⟨by kernel_rfl, by kernel_rfl, fun _ => by kernel_rfl, fun _ _ => by kernel_rfl⟩, by kernel_rfl⟩
theorem l23_p (b : V) (s x : Int) : tests (low cfg cl 28) ⟨compNames (lcSc X23), oHs b (.int s) (.int x)⟩ (lcG X23).ifs σ = ob (cmpV cfg .In (.int (x - s)) b σ) tI ∧ (low cfg cl 28).ev ⟨compNames (lcSc X23), oHs b (.int s) (.int x)⟩ (lcElt X23) σ = some (.int x, σ) := ⟨by kernel_rfl, by kernel_rfl⟩
theorem l23_as (w : Wv) (s z b p : V) (l : List V) : (M.bind (thaw cfg (asT (lwS 23)) (asV (lwS 23)) (.list l)) fun v => M.bind (setTo (low cfg cl 29) ⟨nL, w.k [s, z, b, p]⟩ (asT (lwS 23)) v) fun vars => nx vars) σ = some ((.next, w.k [s, z, b, p, .list l]), σ) := by
 obtain ⟨e, t, f, c, x, y, g, v⟩ := w
 cases f
 ·kernel_rfl
 ·kernel_rfl
theorem l24 (w : Wv) (s z b p q : V) : exStep cfg (low cfg cl 29) ⟨nL, w.k [s, z, b, p, q]⟩ (lwS 24) σ = some ((.next, w.k [s, z, b, p, q, iV 0]), σ) := by
 obtain ⟨e, t, f, c, x, y, g, v⟩ := w
 cases f
 ·kernel_rfl
 ·kernel_rfl
theorem l25 (w : Wv) (s z b p q m : V) : exStep cfg (low cfg cl 29) ⟨nL, w.k [s, z, b, p, q, m]⟩ (lwS 25) σ = some ((.next, w.k [s, z, b, p, q, m, iV 0]), σ) := by
 obtain ⟨e, t, f, c, x, y, g, v⟩ := w
 cases f
 ·kernel_rfl
 ·kernel_rfl
theorem in_int (z : Int) : ∀ (l : List Nat) (σ : Sto), cmpV cfg .In (.int z) (nLs l) σ = some (l.any fun y => (y : Int) == z, σ)
 | [], σ => rfl
 | y :: l, σ => by
  have e : cmpV cfg .In (.int z) (nLs (y :: l)) = M.bind (M.pure ((y : Int) == z)) fun a => M.bind (cmpV cfg .In (.int z) (nLs l)) fun b => M.pure (a || b) := by kernel_rfl
  rw [e, bind_app, pure_app, ob_some, bind_app, in_int z l σ, ob_some, List.any_cons]; rfl
theorem free_any {a s p : Nat} (hp : p < 10) : ((hl a).any fun y => (y : Int) == (p : Int) - s) = (Nat.ble s p && !a.testBit (p - s)) := by
 by_cases h : s ≤ p
 ·have e : (p : Int) - s = ((p - s : Nat) : Int) := (Int.ofNat_sub h).symm
  rw [e, Nat.ble_eq_true_of_le h, Bool.true_and]
  have : ((hl a).any fun y => (y : Int) == ((p - s : Nat) : Int)) = decide (p - s ∈ hl a) := by
   rw [← any_mem]
   congr 1
   funext y
   by_cases q : y = p - s
   ·rw [q, beq_self_eq_true, Nat.beq_refl]
   ·rw [beq_eq_false_iff_ne.mpr (show (y : Int) ≠ ((p - s : Nat) : Int) from fun z => q (Int.ofNat.inj z))]
    exact (Bool.eq_false_iff.mpr fun z => q (Nat.eq_of_beq_eq_true z)).symm
  rw [this]
  cases w : a.testBit (p - s) with
  | true => exact decide_eq_false fun z => by rw [(mem_hl.mp z).2] at w; exact Bool.noConfusion w
  | false => exact decide_eq_true (mem_hl.mpr ⟨Nat.lt_of_le_of_lt (Nat.sub_le _ _) hp, w⟩)
 ·have : Nat.ble s p = false := Bool.eq_false_iff.mpr fun z => h (Nat.le_of_ble_eq_true z)
  rw [this, Bool.false_and]
  refine List.any_eq_false.mpr fun y _ z => ?_
  have := eq_of_beq z
  lia
noncomputable def bdV (p : Nat × Nat) : V := .tup [iV p.1, one p.2]
noncomputable def bds (cs : List Nat) (a : Nat) : List (Nat × Nat) := (pl a).map fun p => (p, sgC (cs.getD p 0))
theorem law_25 {w : Wv} {cs : List Nat} {M R : Nat} (hcs : cs.length = 11) (hr : w.e.r = iV R) (ha : w.e.a = nLs (pl M)) (hb : w.e.b = nLs (hl M)) (hg : w.e.g = .list (sgL cs)) (hσ : σ.length = 4) {ss : List Stmt} {y : Option ((Fl × Vars) × Sto)}
  (k : exAll cfg (low cfg CL 29) ⟨nL, w.k [iV (2 + R % 3), iV (pl M).length, .lst 4, .lst 5, nLs (frN M (2 + R % 3)), iV 0, iV 0]⟩ ss (σ ++ [(bds cs M).map bdV, (pl M ++ hl M).map iV]) = y) :
  exAll cfg (low cfg CL 29) ⟨nL, w.k []⟩ (lwS 19 :: lwS 20 :: lwS 21 :: lwS 22 :: lwS 23 :: lwS 24 :: lwS 25 :: ss) σ = y := by
 have s19 : exStep cfg (low cfg CL 29) ⟨nL, w.k []⟩ (lwS 19) σ = some ((.next, w.k [iV (2 + R % 3)]), σ) := by
  refine (l19 w R hr).trans ?_
  rw [show ((R : Nat) : Int).fmod 3 = ((R % 3 : Nat) : Int) from fmod_nat R 3]; rfl
 have s20 : exStep cfg (low cfg CL 29) ⟨nL, w.k [iV (2 + R % 3)]⟩ (lwS 20) σ = some ((.next, w.k [iV (2 + R % 3), iV (pl M).length]), σ) := by
  refine (l20 w _).trans (obT (a := iV (pl M).length) (s := σ) ?_ rfl)
  rw [ha, nLs, len_list (by rw [List.length_map]; exact Nat.le_trans (pl_len M) (by decide)), List.length_map]
 have s21 : exStep cfg (low cfg CL 29) ⟨nL, w.k [iV (2 + R % 3), iV (pl M).length]⟩ (lwS 21) σ = some ((.next, w.k [iV (2 + R % 3), iV (pl M).length, .lst σ.length]), σ ++ [(bds cs M).map bdV]) := by
  obtain ⟨i1, i2⟩ := l21_c (cl := CL) (σ := σ) w (iV (2 + R % 3)) (iV (pl M).length)
  have hx := lc_st (n := 28) (ys := pl M) (chk := none) i1 (fun _ => true) (fun p => bdV (p, sgC (cs.getD p 0))) (i2.trans (by rw [ha])) rfl rfl (fun x _ => (l21_p _ _).1) (fun x hx _ => (l21_p _ _).2.trans (by
   have hp := (mem_pl.mp hx).1
   have h1 : (sgL cs)[x]? = some (sgV (cs.getD x 0)) := by
    unfold sgL
    rw [List.getElem?_map, List.getElem?_take, if_pos hp, List.getD_eq_getElem?_getD, List.getElem?_eq_getElem (by lia)]; rfl
   rw [hg]
   exact obT (obT (obT (obT (ix_at h1 (Nat.lt_trans hp (by decide)) σ) (ix_at (i := 0) (xs := _ :: _) rfl (by decide) σ)) rfl) rfl) rfl)) (Nat.le_trans (pl_len M) (by decide))
  rw [filt] at hx
  refine as_run k19.1 ((evV_lc k19.2.1 σ).trans hx) ((l21_as w _ _ _).trans ?_)
  unfold bds
  rw [List.map_map]; rfl
 have s22 : exStep cfg (low cfg CL 29) ⟨nL, w.k [iV (2 + R % 3), iV (pl M).length, .lst σ.length]⟩ (lwS 22) (σ ++ [(bds cs M).map bdV]) = some ((.next, w.k [iV (2 + R % 3), iV (pl M).length, .lst σ.length, .lst (σ.length + 1)]), σ ++ [(bds cs M).map bdV, (pl M ++ hl M).map iV]) := by
  refine (l22 w _ _ _).trans ?_
  rw [ha, hb, nLs, nLs, add_list (by rw [List.length_map, List.length_map]; exact Nat.le_trans (Nat.add_le_add (pl_len M) (hl_len M)) (by decide)), ob_some, ← List.map_append]
  show some ((Fl.next, w.k [_, _, _, .lst (σ ++ [(bds cs M).map bdV]).length]), (σ ++ [(bds cs M).map bdV]) ++ [(pl M ++ hl M).map iV]) = _
  rw [List.length_append, List.append_assoc]; rfl
 have s23 : ∀ τ : Sto, exStep cfg (low cfg CL 29) ⟨nL, w.k [iV (2 + R % 3), iV (pl M).length, .lst 4, .lst 5]⟩ (lwS 23) τ = some ((.next, w.k [iV (2 + R % 3), iV (pl M).length, .lst 4, .lst 5, nLs (frN M (2 + R % 3))]), τ) := fun τ => by
  obtain ⟨i1, i2⟩ := l23_c (cl := CL) (σ := τ) w (iV (2 + R % 3)) (iV (pl M).length) (.lst 4) (.lst 5)
  refine as_run k19.2.2.1 ((evV_lc k19.2.2.2 τ).trans (lc_st (n := 28) (ys := pl M) (chk := none) i1 (fun p => Nat.ble (2 + R % 3) p && !M.testBit (p - (2 + R % 3))) iV (i2.trans (by rw [ha])) rfl rfl (fun x hx => (l23_p _ _ _).1.trans (obT ?_ (tI_e ..))) (fun x _ _ => (l23_p _ _ _).2) (Nat.le_trans (pl_len M) (by decide)))) (l23_as w _ _ _ _ _)
  rw [hb, in_int, free_any (mem_pl.mp hx).1]
 rw [hσ] at s21 s22
 exact x_next _ _ _ _ _ s19 (x_next _ _ _ _ _ s20 (x_next _ _ _ _ _ s21 (x_next _ _ _ _ _ s22 (x_next _ _ _ _ _ (s23 _) (x_next _ _ _ _ _ (l24 ..) (x_next _ _ _ _ _ (l25 ..) k))))))
end Mine.Internal.L01
namespace Mine.Internal.L01
noncomputable def inv : List Nat → Nat
 | [] => 0
 | x :: l => l.countP (fun y => Nat.blt y x) + inv l
theorem blt_one {a b : Nat} (h : a ≠ b) : (if Nat.blt a b = true then 1 else 0) + (if Nat.blt b a = true then 1 else 0) = 1 := by
 rcases Nat.lt_or_gt_of_ne h with q | q
 ·rw [if_pos (Nat.blt_eq.mpr q), if_neg (fun w => Nat.lt_asymm q (Nat.blt_eq.mp w))]
 ·rw [if_neg (fun w => Nat.lt_asymm q (Nat.blt_eq.mp w)), if_pos (Nat.blt_eq.mpr q)]
theorem par5 (p q i j e f : Nat) : p + e + i + (q + f + (p + j)) = 2 * p + (e + f + (i + (q + j))) := by lia
theorem par4 {i j n : Nat} (p : Nat) (h : (i + j) % 2 = n % 2) : (p + i + (p + j)) % 2 = n % 2 := by
 rw [Nat.add_add_add_comm, ← Nat.two_mul, Nat.mul_add_mod]; exact h
theorem inv_mid (x : Nat) (C : List Nat) : ∀ B : List Nat, x ∉ B → (inv (B ++ x :: C) + inv (x :: (B ++ C))) % 2 = B.length % 2
 | [], _ => by
  show (inv (x :: C) + inv (x :: C)) % 2 = 0
  rw [← Nat.two_mul]; exact Nat.mul_mod_right ..
 | b :: B, h => by
  have ih : (inv (B ++ x :: C) + ((B ++ C).countP (fun y => Nat.blt y x) + inv (B ++ C))) % 2 = B.length % 2 := inv_mid x C B (fun q => h (List.mem_cons_of_mem _ q))
  have h1 := blt_one (show x ≠ b from fun q => h (q ▸ List.mem_cons_self))
  show ((B ++ x :: C).countP (fun y => Nat.blt y b) + inv (B ++ x :: C) + ((b :: (B ++ C)).countP (fun y => Nat.blt y x) + ((B ++ C).countP (fun y => Nat.blt y b) + inv (B ++ C)))) % 2 = _
  rw [List.perm_middle.countP_eq (fun y => Nat.blt y b), List.countP_cons, List.countP_cons, par5, h1, Nat.mul_add_mod, List.length_cons, Nat.add_mod, ih, ← Nat.add_mod, Nat.add_comm]
theorem inv_mv (x : Nat) (B C : List Nat) (h : x ∉ B) : ∀ A : List Nat, (inv (A ++ (B ++ x :: C)) + inv (A ++ x :: (B ++ C))) % 2 = B.length % 2
 | [] => inv_mid x C B h
 | a :: A => by
  have ih := inv_mv x B C h A
  have hp : (A ++ (B ++ x :: C)).countP (fun y => Nat.blt y a) = (A ++ x :: (B ++ C)).countP (fun y => Nat.blt y a) := (List.perm_middle.append_left A).countP_eq _
  show ((A ++ (B ++ x :: C)).countP (fun y => Nat.blt y a) + inv (A ++ (B ++ x :: C)) + ((A ++ x :: (B ++ C)).countP (fun y => Nat.blt y a) + inv (A ++ x :: (B ++ C)))) % 2 = _
  rw [hp]; exact par4 _ ih
theorem inv_srt : ∀ l : List Nat, l.Pairwise (· < ·) → inv l = 0
 | [], _ => rfl
 | x :: l, h => by
  obtain ⟨h1, h2⟩ := List.pairwise_cons.mp h
  show l.countP _ + inv l = 0
  rw [inv_srt l h2, List.countP_eq_zero.mpr fun y hy w => Nat.lt_asymm (h1 y hy) (Nat.blt_eq.mp w)]
theorem cut3 {os : List Nat} {ks kt : Nat} (h : ks < os.length) (hk : kt ≤ ks) : os = os.take kt ++ ((os.take ks).drop kt ++ os.getD ks 0 :: os.drop (ks + 1)) ∧ mvL os ks kt = os.take kt ++ os.getD ks 0 :: ((os.take ks).drop kt ++ os.drop (ks + 1)) := by
 have ht : (os.take ks).length = ks := by rw [List.length_take]; exact Nat.min_eq_left (Nat.le_of_lt h)
 have e1 : (os.take ks).take kt = os.take kt := by rw [List.take_take, Nat.min_eq_left hk]
 have e2 : os = os.take ks ++ os.getD ks 0 :: os.drop (ks + 1) := by
  rw [List.getD_eq_getElem?_getD, List.getElem?_eq_getElem h]
  show os = os.take ks ++ os[ks] :: os.drop (ks + 1)
  rw [← List.drop_eq_getElem_cons h, List.take_append_drop]
 have e3 : os.take ks = os.take kt ++ (os.take ks).drop kt := by
  have := (List.take_append_drop kt (os.take ks)).symm
  rwa [e1] at this
 refine ⟨?_, ?_⟩
 ·rw [← List.append_assoc, ← e3]; exact e2
 ·unfold mvL inN
  rw [List.eraseIdx_eq_take_drop_succ, List.take_append_of_le_length (by rw [ht]; exact hk), List.drop_append_of_le_length (by rw [ht]; exact hk), e1]
theorem mvL_perm {os : List Nat} {ks kt : Nat} (h : ks < os.length) (hk : kt ≤ ks) : (mvL os ks kt).Perm os := by
 obtain ⟨e1, e2⟩ := cut3 h hk
 rw [e2]
 exact (List.perm_middle.symm.append_left _).trans (List.Perm.of_eq e1.symm)
theorem mvL_inv {os : List Nat} {ks kt : Nat} (h : ks < os.length) (hk : kt ≤ ks) (hn : os.Nodup) : (inv os + inv (mvL os ks kt)) % 2 = (ks - kt) % 2 := by
 obtain ⟨e1, e2⟩ := cut3 h hk
 have hl : ((os.take ks).drop kt).length = ks - kt := by rw [List.length_drop, List.length_take, Nat.min_eq_left (Nat.le_of_lt h)]
 have hx : os.getD ks 0 ∉ (os.take ks).drop kt := by
  rw [e1] at hn
  have := (List.nodup_append.mp (List.nodup_append.mp hn).2.1).2.2
  exact fun q => this _ q _ List.mem_cons_self rfl
 have := inv_mv (os.getD ks 0) ((os.take ks).drop kt) (os.drop (ks + 1)) hx (os.take kt)
 rw [← e1, ← e2, hl] at this
 exact this
theorem map_erase {α β : Type} (f : α → β) : ∀ (l : List α) (k : Nat), (l.map f).eraseIdx k = (l.eraseIdx k).map f
 | [], _ => rfl
 | _ :: _, 0 => rfl
 | x :: l, k + 1 => congrArg (f x :: ·) (map_erase f l k)
theorem mvL_map {f : Nat → Nat} {C : List Nat} {ks kt : Nat} (h : ks < C.length) : mvL (C.map f) ks kt = (mvL C ks kt).map f := by
 unfold mvL inN
 have e : (C.map f).getD ks 0 = f (C.getD ks 0) := by
  rw [List.getD_eq_getElem?_getD, List.getD_eq_getElem?_getD, List.getElem?_map, List.getElem?_eq_getElem h]; rfl
 rw [e, map_erase, List.map_append, List.map_cons, List.map_take, List.map_drop]
theorem zip_ins {α β : Type} {l : List α} {r : List β} (h : l.length = r.length) (k : Nat) (x : α) (y : β) : insA k (x, y) (l.zip r) = (insA k x l).zip (insA k y r) := by
 unfold insA
 rw [List.zip_append (by rw [List.length_take, List.length_take, h])]
 show _ = (l.take k).zip (r.take k) ++ (x, y) :: (l.drop k).zip (r.drop k)
 rw [List.zip, List.take_zipWith, List.drop_zipWith]
theorem zip_erase {α β : Type} : ∀ {l : List α} {r : List β} (k : Nat), l.length = r.length → (l.zip r).eraseIdx k = (l.eraseIdx k).zip (r.eraseIdx k)
 | [], [], _, _ => rfl
 | x :: l, y :: r, 0, _ => rfl
 | x :: l, y :: r, k + 1, h => congrArg ((x, y) :: ·) (zip_erase k (Nat.succ.inj h))
 | [], _ :: _, _, h => Nat.noConfusion h
 | _ :: _, [], _, h => Nat.noConfusion h
structure Wk (M step a : Nat) (os : List Nat) (mo pa : Nat) : Prop where
 a1 : a < 1024
 o1 : os = (crN a step).map (GN M step)
 pm : os.Perm (pl M)
 mo1 : mo + wn a step = wn M step
 pa1 : pa % 2 = inv os % 2
 md : md a step = md M step
 len : (pl a).length = (pl M).length
theorem chI {step : Nat} (h : step = 2 ∨ step = 3 ∨ step = 4) : All (chkI step) := by
 rcases h with rfl | rfl | rfl
 ·exact chI2
 ·exact chI3
 ·exact chI4
theorem chE {step : Nat} (h : step = 2 ∨ step = 3 ∨ step = 4) : All (chkE step) := by
 rcases h with rfl | rfl | rfl
 ·exact chE2
 ·exact chE3
 ·exact chE4
theorem chk_i {step M : Nat} (h : step = 2 ∨ step = 3 ∨ step = 4) (hM : M < 1024) : (crN M step).map (GN M step) = pl M ∧ rs M step = ((List.range step).map fun c => (cls M step c).length) ∧ wn M step ≤ 39 := by
 have := of_all (chI h) hM
 unfold chkI at this
 rw [plF_eq, clF_eq, GF_eq, mdF_eq, wnF_eq h] at this
 obtain ⟨h1, h3⟩ := Bool.and_eq_true_iff.mp this
 obtain ⟨h1, h2⟩ := Bool.and_eq_true_iff.mp h1
 exact ⟨leq_eq h1, leq_eq h2, Nat.le_of_ble_eq_true h3⟩
theorem Wk.nd {M step a : Nat} {os : List Nat} {mo pa : Nat} (w : Wk M step a os mo pa) : os.Nodup := w.pm.nodup_iff.mpr ((pl_srt M).imp fun q => Nat.ne_of_lt q)
theorem wk_init {step M : Nat} (h : step = 2 ∨ step = 3 ∨ step = 4) (hM : M < 1024) : Wk M step M (pl M) 0 0 :=
 ⟨hM, (chk_i h hM).1.symm, .refl _, Nat.zero_add _, by rw [inv_srt _ (pl_srt M)], rfl, rfl⟩
theorem crG_len (step : Nat) : ∀ (l : List Nat) (s : Nat), (crG step l s).length = l.length
 | [], _ => rfl
 | _ :: l, _ => congrArg (· + 1) (crG_len step l _)
theorem crN_len (a step : Nat) : (crN a step).length = (pl a).length := by
 unfold crN
 rw [crG_len, plF_eq]
theorem inN_len {k x : Nat} {l : List Nat} : (inN k x l).length = l.length + 1 := by
 unfold inN
 rw [List.perm_middle.length_eq, List.length_cons, List.take_append_drop]
theorem lt_getD {l : List Nat} {k s d : Nat} (h : l.getD k d = s) (hs : s ≠ d) : k < l.length := by
 refine Nat.lt_of_not_le fun q => hs ?_
 rw [List.getD_eq_getElem?_getD, List.getElem?_eq_none q] at h
 exact h.symm
theorem Wk.step {M step a : Nat} {os : List Nat} {mo pa s : Nat} (w : Wk M step a os mo pa) (hs : s ∈ frN a step) {b t ks kt ht : Nat} (m : Mv a b step s t ks kt ht) : Wk M step b (mvL os ks kt) (mo + 1) (pa + (ks - kt)) := by
 have hk : ks < (pl a).length := lt_getD m.as (by have := (mem_pl.mp (fr_mem hs).1).1; lia)
 have hc : ks < (crN a step).length := by rw [crN_len]; exact hk
 have ho : ks < os.length := by rw [w.o1, List.length_map]; exact hc
 refine ⟨m.b1, by rw [w.o1, mvL_map hc, m.cr], (mvL_perm ho m.le).trans w.pm, ?_, ?_, m.md.trans w.md, ?_⟩
 ·rw [← w.mo1, ← m.wn, Nat.add_right_comm]; rfl
 ·rw [Nat.add_mod, w.pa1, ← mvL_inv ho m.le w.nd, ← Nat.add_mod, ← Nat.add_assoc, ← Nat.two_mul, Nat.mul_add_mod]
 ·rw [← m.pb, inN_len, List.length_eraseIdx_of_lt hk, ← w.len]; lia
end Mine.Internal.L01
namespace Mine.Internal.L01
open PySem PyProof.Rows PySem.W PySem.SeqAt PySem.Calls PySem.Challenge Mine.Internal
variable {cl : Str → List V → List (Str × V) → M V} {σ : Sto}
noncomputable def W26 : Stmt := lwS 26
noncomputable def k26 (i : Nat) : Stmt := at' (whBody W26) i
noncomputable def i26 (i : Nat) : Stmt := at' (ifThen (k26 8)) i
noncomputable def j26 (i : Nat) : Stmt := at' (ifElse (k26 8)) i
noncomputable def T26 (i : Nat) : Expr := boV i (whTest W26)
noncomputable def X26 : Expr := cmR (ifTest (k26 9))
noncomputable def Y26 : Expr := asV (k26 10)
theorem w_k : (isWh W26 ∧ isAnd (whTest W26) ∧ boVs (whTest W26) = [T26 0, T26 1] ∧ whBody W26 = [k26 0, k26 1, k26 2, k26 3, k26 4, k26 5, k26 6, k26 7, k26 8, k26 9, k26 10]) ∧ (isIf (k26 3) ∧ ifElse (k26 3) = [] ∧ isIf (k26 8) ∧ ifThen (k26 8) = [i26 0, i26 1, i26 2] ∧ ifElse (k26 8) = [j26 0, j26 1, j26 2]) ∧ isIf (k26 9) ∧ ifElse (k26 9) = [] ∧ isLc X26 ∧ isAs (k26 10) ∧ isLc Y26 := ⟨⟨by kernel_rfl, by kernel_rfl, by kernel_rfl, by kernel_rfl⟩, ⟨by kernel_rfl, by kernel_rfl, by kernel_rfl, by kernel_rfl, by kernel_rfl⟩, by kernel_rfl, by kernel_rfl, by kernel_rfl, by kernel_rfl, by kernel_rfl⟩
noncomputable def m3 (m : List V) : Prop := m = [] ∨ Ex3 fun x y z => m = [x, y, z]
noncomputable def m4 (m : List V) : Prop := m = [] ∨ Ex2 fun y z => m = [y, z]
theorem m3.tl {m : List V} (h : m3 m) : m4 (m.drop 1) := by
 rcases h with rfl | ⟨x, y, z, rfl⟩
 ·exact .inl rfl
 ·exact .inr ⟨y, z, rfl⟩
theorem m4.tl {m : List V} (h : m4 m) : m2 (m.drop 1) := by
 rcases h with rfl | ⟨y, z, rfl⟩
 ·exact .inl rfl
 ·exact .inr ⟨z, rfl⟩
section
variable (w : Wv) (st sz b p fr mo pa : V) (m : List V)
theorem w_t0 (hm : m3 m) : (low cfg cl 28).ts ⟨nL, w.k (st :: sz :: b :: p :: fr :: mo :: pa :: m)⟩ (T26 0) σ = cmpV cfg .NotEq fr (.list []) σ := by
 obtain ⟨e, t, f, c, x, y, g, v⟩ := w
 cases f <;> rcases hm with rfl | ⟨i, j, k, rfl⟩ <;> kernel_rfl
theorem w_t1 (mo : Int) (hm : m3 m) : (low cfg cl 28).ts ⟨nL, w.k (st :: sz :: b :: p :: fr :: .int mo :: pa :: m)⟩ (T26 1) σ = some (decide (mo < 40), σ) := by
 obtain ⟨e, t, f, c, x, y, g, v⟩ := w
 cases f <;> rcases hm with rfl | ⟨i, j, k, rfl⟩ <;> kernel_rfl
theorem w_0 (mo : Nat) (hm : m3 m) : exStep cfg (low cfg cl 28) ⟨nL, w.k (st :: sz :: b :: p :: fr :: iV mo :: pa :: m)⟩ (k26 0) σ = some ((.next, w.k (st :: sz :: b :: p :: fr :: iV (mo + 1) :: pa :: m)), σ) := by
 obtain ⟨e, t, f, c, x, y, g, v⟩ := w
 cases f <;> rcases hm with rfl | ⟨i, j, k, rfl⟩ <;> kernel_rfl
theorem w_1 (hm : m3 m) : exStep cfg (low cfg cl 28) ⟨nL, w.k (st :: sz :: b :: p :: fr :: mo :: pa :: m)⟩ (k26 1) σ = ob (ob (ob (ob (binV .FloorDiv w.e.r (iV 3) σ) fun a => binV .FloorDiv a mo) fun a => M.bind (callB "len" [fr]) fun l => binV .Mod a l) fun i => indexV fr i) fun v => M.bind (th false v) fun v => nx (w.k (st :: sz :: b :: p :: fr :: mo :: pa :: v :: m.drop 1)) := by
 obtain ⟨e, t, f, c, x, y, g, v⟩ := w
 cases f <;> rcases hm with rfl | ⟨i, j, k, rfl⟩ <;> kernel_rfl
theorem w_2 (sp : V) (hm : m4 m) : exStep cfg (low cfg cl 28) ⟨nL, w.k (st :: sz :: b :: p :: fr :: mo :: pa :: sp :: m)⟩ (k26 2) σ = ob (cl "bisect_left" [p, sp] [("hi", sz)] σ) fun v => M.bind (th false v) fun v => nx (w.k (st :: sz :: b :: p :: fr :: mo :: pa :: sp :: v :: m.drop 1)) := by
 obtain ⟨e, t, f, c, x, y, g, v⟩ := w
 cases f <;> rcases hm with rfl | ⟨i, j, rfl⟩ <;> kernel_rfl
theorem w_3 (sp : V) (he : Nat) (hm : m2 m) : (low cfg cl 28).ts ⟨nL, w.k (st :: sz :: b :: p :: fr :: mo :: pa :: sp :: iV he :: m)⟩ (ifTest (k26 3)) σ = ob (cl "bisect_right" [p, sp] [("hi", sz)] σ) fun v => cmpV cfg .NotEq v (iV (he + 1)) := by
 obtain ⟨e, t, f, c, x, y, g, v⟩ := w
 cases f <;> rcases hm with rfl | ⟨i, rfl⟩ <;> kernel_rfl
theorem w_4 (st sp : Int) (pa he : Nat) (hm : m2 m) : exStep cfg (low cfg cl 28) ⟨nL, w.k (.int st :: sz :: b :: p :: fr :: mo :: iV pa :: .int sp :: iV he :: m)⟩ (k26 4) σ = ob (ob (cl "bisect_right" [p, .int (sp - st)] [("hi", sz)] σ) fun v => binV .Sub (iV (pa + he)) v) fun v => M.bind (th false v) fun v => nx (w.k (.int st :: sz :: b :: p :: fr :: mo :: v :: .int sp :: iV he :: m)) := by
 obtain ⟨e, t, f, c, x, y, g, v⟩ := w
 cases f <;> rcases hm with rfl | ⟨i, rfl⟩ <;> kernel_rfl
theorem w_5 (sp he : V) (hm : m2 m) : exStep cfg (low cfg cl 28) ⟨nL, w.k (st :: sz :: b :: p :: fr :: mo :: pa :: sp :: he :: m)⟩ (k26 5) σ = ob (callMth cfg b "pop" [he] σ) fun v => M.bind (th false v) fun v => nx (w.k [st, sz, b, p, fr, mo, pa, sp, he, v]) := by
 obtain ⟨e, t, f, c, x, y, g, v⟩ := w
 cases f <;> rcases hm with rfl | ⟨i, rfl⟩ <;> kernel_rfl
theorem w_6 (st sp : Int) (he be : V) : exStep cfg (low cfg cl 28) ⟨nL, w.k [.int st, sz, b, p, fr, mo, pa, .int sp, he, be]⟩ (k26 6) σ = ob (ob (ob (cl "bisect_left" [p, .int (sp - st), sz] [] σ) fun v => M.pure [v]) fun vs => callMth cfg p "pop" vs) fun _ => nx (w.k [.int st, sz, b, p, fr, mo, pa, .int sp, he, be]) := by
 obtain ⟨e, t, f, c, x, y, g, v⟩ := w
 cases f <;> kernel_rfl
theorem w_7 (sp he be : V) : exStep cfg (low cfg cl 28) ⟨nL, w.k [st, sz, b, p, fr, mo, pa, sp, he, be]⟩ (k26 7) σ = ob (callMth cfg p "pop" [he] σ) fun _ => nx (w.k [st, sz, b, p, fr, mo, pa, sp, he, be]) := by
 obtain ⟨e, t, f, c, x, y, g, v⟩ := w
 cases f <;> kernel_rfl
theorem w_8t (mo : Int) (sp he be : V) : (low cfg cl 28).ts ⟨nL, w.k [st, sz, b, p, fr, .int mo, pa, sp, he, be]⟩ (ifTest (k26 8)) σ = some (mo.fmod 2 == 1, σ) := by
 obtain ⟨e, t, f, c, x, y, g, v⟩ := w
 cases f <;> kernel_rfl
theorem w_80 (st sp : Int) (he u v : V) : exStep cfg (low cfg cl 27) ⟨nL, w.k [.int st, sz, b, p, fr, mo, pa, .int sp, he, .tup [u, v]]⟩ (i26 0) σ = (ob (cl "insort_right" [b, .tup [.int (sp - st), v]] [("key", .glob "_law_first")] σ) fun _ => nx (w.k [.int st, sz, b, p, fr, mo, pa, .int sp, he, .tup [u, v]])) ∧
  exStep cfg (low cfg cl 27) ⟨nL, w.k [.int st, sz, b, p, fr, mo, pa, .int sp, he, .tup [u, v]]⟩ (j26 0) σ = (ob (cl "insort_left" [b, .tup [.int (sp - st), v]] [("key", .glob "_law_first")] σ) fun _ => nx (w.k [.int st, sz, b, p, fr, mo, pa, .int sp, he, .tup [u, v]])) := by
 obtain ⟨e, t, f, c, x, y, g, v'⟩ := w
 cases f <;> exact ⟨by kernel_rfl, by kernel_rfl⟩
theorem w_81 (st sz sp : Int) (he be : V) : exStep cfg (low cfg cl 27) ⟨nL, w.k [.int st, .int sz, b, p, fr, mo, pa, .int sp, he, be]⟩ (i26 1) σ = (ob (cl "insort_left" [p, .int (sp - st)] [("hi", .int (sz - 1))] σ) fun _ => nx (w.k [.int st, .int sz, b, p, fr, mo, pa, .int sp, he, be])) ∧
  exStep cfg (low cfg cl 27) ⟨nL, w.k [.int st, .int sz, b, p, fr, mo, pa, .int sp, he, be]⟩ (j26 1) σ = (ob (cl "insort_right" [p, .int (sp - st)] [("hi", .int (sz - 1))] σ) fun _ => nx (w.k [.int st, .int sz, b, p, fr, mo, pa, .int sp, he, be])) := by
 obtain ⟨e, t, f, c, x, y, g, v'⟩ := w
 cases f <;> exact ⟨by kernel_rfl, by kernel_rfl⟩
theorem w_82 (sp he be : V) : exStep cfg (low cfg cl 27) ⟨nL, w.k [st, sz, b, p, fr, mo, pa, sp, he, be]⟩ (i26 2) σ = (ob (cl "insort_right" [p, sp, sz] [] σ) fun _ => nx (w.k [st, sz, b, p, fr, mo, pa, sp, he, be])) ∧
  exStep cfg (low cfg cl 27) ⟨nL, w.k [st, sz, b, p, fr, mo, pa, sp, he, be]⟩ (j26 2) σ = (ob (cl "insort_left" [p, sp, sz] [] σ) fun _ => nx (w.k [st, sz, b, p, fr, mo, pa, sp, he, be])) := by
 obtain ⟨e, t, f, c, x, y, g, v'⟩ := w
 cases f <;> exact ⟨by kernel_rfl, by kernel_rfl⟩
theorem w_9 (sp he be : V) : (low cfg cl 28).ts ⟨nL, w.k [st, sz, b, p, fr, mo, pa, sp, he, be]⟩ (ifTest (k26 9)) σ = ob (sliceV p .none sz .none σ) fun l => M.bind ((low cfg cl 27).ev ⟨nL, w.k [st, sz, b, p, fr, mo, pa, sp, he, be]⟩ X26) fun r => cmpV cfg .NotEq l r := by
 obtain ⟨e, t, f, c, x, y, g, v'⟩ := w
 cases f <;> kernel_rfl
end
theorem cnL_n (x : Nat) (S : List Nat) : cnL nf x S = cL x S := List.countP_congr fun y _ => ⟨fun h => Nat.blt_eq.mpr (Int.ofNat_lt.mp (of_decide_eq_true h)), fun h => decide_eq_true (Int.ofNat_lt.mpr (Nat.blt_eq.mp h))⟩
theorem cnR_n (x : Nat) (S : List Nat) : cnR nf x S = cR x S := List.countP_congr fun y _ => ⟨fun h => Nat.ble_eq_true_of_le (Int.ofNat_le.mp (of_decide_eq_true h)), fun h => decide_eq_true (Int.ofNat_le.mpr (Nat.le_of_ble_eq_true h))⟩
noncomputable def SrtN (S : List Nat) : Prop := S.Pairwise (· < ·)
theorem SrtN.srt {S : List Nat} (h : SrtN S) : Srt nf S := List.Pairwise.imp (fun q => Int.ofNat_le.mpr (Nat.le_of_lt q)) h
theorem SrtN.erase {S : List Nat} (h : SrtN S) (k : Nat) : SrtN (S.eraseIdx k) := List.Pairwise.sublist (List.eraseIdx_sublist ..) h
section
variable {r x : Nat} {A H : List Nat}
theorem sg1 (hσ : σ[r]? = some ((A ++ H).map iV)) (hl : (A ++ H).length < 4000) (hA : SrtN A) {h : Int} (hh : h = A.length) : Seg (kf := nf) iV r [] A H (.int h) σ := ⟨hσ, hl, .inl (by rw [List.length_nil, Nat.zero_add, hh]), hA.srt⟩
theorem sg2 (hσ : σ[r]? = some ((A ++ H).map iV)) (hl : (A ++ H).length < 4000) (hH : SrtN H) : Seg (kf := nf) iV r A H [] .none σ := ⟨by rw [List.append_nil]; exact hσ, by rw [List.append_nil]; exact hl, .inr ⟨rfl, by rw [List.append_nil, List.length_map, List.length_append]⟩, hH.srt⟩
theorem c_bl (hσ : σ[r]? = some ((A ++ H).map iV)) (hl : (A ++ H).length < 4000) (hA : SrtN A) : CL "bisect_left" [.lst r, iV x] [("hi", iV A.length)] σ = some (iV (cL x A), σ) := by
 have := nbL (x := x) (pos := [.lst r, iV x]) (kw := [("hi", iV A.length)]) (sg1 hσ hl hA rfl) (by kernel_rfl)
 rwa [List.length_nil, Nat.zero_add, cnL_n] at this
theorem c_br (hσ : σ[r]? = some ((A ++ H).map iV)) (hl : (A ++ H).length < 4000) (hA : SrtN A) : CL "bisect_right" [.lst r, iV x] [("hi", iV A.length)] σ = some (iV (cR x A), σ) := by
 have := nbR (x := x) (pos := [.lst r, iV x]) (kw := [("hi", iV A.length)]) (sg1 hσ hl hA rfl) (by kernel_rfl)
 rwa [List.length_nil, Nat.zero_add, cnR_n] at this
theorem c_bl2 (hσ : σ[r]? = some ((A ++ H).map iV)) (hl : (A ++ H).length < 4000) (hH : SrtN H) : CL "bisect_left" [.lst r, iV x, iV A.length] [] σ = some (iV (A.length + cL x H), σ) := by
 have := nbL (x := x) (pos := [.lst r, iV x, iV A.length]) (kw := []) (sg2 hσ hl hH) (by kernel_rfl)
 rwa [cnL_n] at this
theorem c_nl (hσ : σ[r]? = some ((A ++ H).map iV)) (hl : (A ++ H).length < 4000) (hA : SrtN A) {h : Int} (hh : h = A.length) : CL "insort_left" [.lst r, iV x] [("hi", .int h)] σ = some (.none, σ.set r ((inN (cL x A) x A ++ H).map iV)) := by
 have := nL_ (x := x) (pos := [.lst r, iV x]) (kw := [("hi", .int h)]) (sg1 hσ hl hA hh) (by kernel_rfl)
 rwa [cnL_n] at this
theorem c_nr (hσ : σ[r]? = some ((A ++ H).map iV)) (hl : (A ++ H).length < 4000) (hA : SrtN A) {h : Int} (hh : h = A.length) : CL "insort_right" [.lst r, iV x] [("hi", .int h)] σ = some (.none, σ.set r ((inN (cR x A) x A ++ H).map iV)) := by
 have := nR_ (x := x) (pos := [.lst r, iV x]) (kw := [("hi", .int h)]) (sg1 hσ hl hA hh) (by kernel_rfl)
 rwa [cnR_n] at this
theorem c_nl2 (hσ : σ[r]? = some ((A ++ H).map iV)) (hl : (A ++ H).length < 4000) (hH : SrtN H) : CL "insort_left" [.lst r, iV x, iV A.length] [] σ = some (.none, σ.set r ((A ++ inN (cL x H) x H).map iV)) := by
 have := nL_ (x := x) (pos := [.lst r, iV x, iV A.length]) (kw := []) (sg2 hσ hl hH) (by kernel_rfl)
 rwa [cnL_n, List.append_nil] at this
theorem c_nr2 (hσ : σ[r]? = some ((A ++ H).map iV)) (hl : (A ++ H).length < 4000) (hH : SrtN H) : CL "insort_right" [.lst r, iV x, iV A.length] [] σ = some (.none, σ.set r ((A ++ inN (cR x H) x H).map iV)) := by
 have := nR_ (x := x) (pos := [.lst r, iV x, iV A.length]) (kw := []) (sg2 hσ hl hH) (by kernel_rfl)
 rwa [cnR_n, List.append_nil] at this
end
noncomputable def kb (p : Nat × Nat) : Int := (p.1 : Nat)
noncomputable def bdO (ch : Nat → Nat) (p : Nat × Nat) : V := .tup [iV p.1, one (ch p.2)]
theorem keyd_bd (ch : Nat → Nat) : Keyd kb (bdO ch) := fun y => ⟨[one (ch y.2)], rfl⟩
theorem zip_fst {A O : List Nat} (h : A.length = O.length) : (A.zip O).map (·.1) = A := List.map_fst_zip (Nat.le_of_eq h)
theorem srt_zip {A O : List Nat} (hA : SrtN A) (h : A.length = O.length) : Srt kb (A.zip O) := by
 have : ((A.zip O).map (·.1)).Pairwise (· < ·) := by rw [zip_fst h]; exact hA
 exact (List.pairwise_map.mp this).imp fun q => Int.ofNat_le.mpr (Nat.le_of_lt q)
theorem cnL_z {A O : List Nat} (x : Nat) (h : A.length = O.length) : cnL kb x (A.zip O) = cL x A := by
 rw [← cnL_n]
 conv => rhs; rw [← zip_fst h]
 unfold cnL
 rw [List.countP_map]; rfl
theorem cnR_z {A O : List Nat} (x : Nat) (h : A.length = O.length) : cnR kb x (A.zip O) = cR x A := by
 rw [← cnR_n]
 conv => rhs; rw [← zip_fst h]
 unfold cnR
 rw [List.countP_map]; rfl
section
variable {r x y : Nat} {A O : List Nat} {ch : Nat → Nat}
theorem sgb (hσ : σ[r]? = some ((A.zip O).map (bdO ch))) (hl : A.length < 4000) (hA : SrtN A) (h : A.length = O.length) : Seg (kf := kb) (bdO ch) r [] (A.zip O) [] .none σ := ⟨by rw [List.append_nil]; exact hσ, by rw [List.append_nil]; show (A.zip O).length < 4000; rw [List.length_zip, ← h, Nat.min_self]; exact hl, .inr ⟨rfl, by rw [List.append_nil, List.length_map]; exact Nat.zero_add _⟩, srt_zip hA h⟩
theorem c_kl (hσ : σ[r]? = some ((A.zip O).map (bdO ch))) (hl : A.length < 4000) (hA : SrtN A) (h : A.length = O.length) : CL "insort_left" [.lst r, bdO ch (x, y)] [("key", .glob "_law_first")] σ = some (.none, σ.set r (((inN (cL x A) x A).zip (inN (cL x A) y O)).map (bdO ch))) := by
 have := kL (x := (x, y)) (pos := [.lst r, bdO ch (x, y)]) (kw := [("key", .glob "_law_first")]) (keyd_bd ch) (sgb hσ hl hA h) (by kernel_rfl)
 rw [show kb (x, y) = (x : Nat) from rfl, cnL_z x h, zip_ins h, List.append_nil] at this
 exact this
theorem c_kr (hσ : σ[r]? = some ((A.zip O).map (bdO ch))) (hl : A.length < 4000) (hA : SrtN A) (h : A.length = O.length) : CL "insort_right" [.lst r, bdO ch (x, y)] [("key", .glob "_law_first")] σ = some (.none, σ.set r (((inN (cR x A) x A).zip (inN (cR x A) y O)).map (bdO ch))) := by
 have := kR (x := (x, y)) (pos := [.lst r, bdO ch (x, y)]) (kw := [("key", .glob "_law_first")]) (keyd_bd ch) (sgb hσ hl hA h) (by kernel_rfl)
 rw [show kb (x, y) = (x : Nat) from rfl, cnR_z x h, zip_ins h, List.append_nil] at this
 exact this
end
theorem mth_pop {r k : Nat} {v : V} {xs : List V} (hr : σ[r]? = some xs) (hl : xs.length ≤ 65536) (h : xs[k]? = some v) : callMth cfg (.lst r) "pop" [iV k] σ = some (v, σ.set r (xs.eraseIdx k)) := by
 have e : callMth cfg (.lst r) "pop" [iV k] = M.bind (M.look r) fun xs => if decide (0 ≤ (k : Int)) && decide (xs.length ≤ 65536) then M.bind (M.of xs[(k : Int).toNat]?) fun v => M.bind (M.put r (xs.eraseIdx (k : Int).toNat)) fun _ => M.pure v else M.fail := by kernel_rfl
 rw [e, bind_app, look_app, hr, lookR_some, ob_some, decide_eq_true (Int.natCast_nonneg k), decide_eq_true hl, if_pos (by decide), Int.toNat_natCast, h, bind_app, of_some, ob_some]; rfl
theorem sl_from {r : Nat} {xs : List V} {n : Nat} (hr : σ[r]? = some xs) (h : n ≤ xs.length) (hl : xs.length ≤ 65536) : sliceV (.lst r) (iV n) .none .none σ = some (.list (xs.drop n), σ) := by
 have e : sliceV (.lst r) (iV n) .none .none = M.bind (M.of (if decide ((n : Int).natAbs < 2 ^ 62) then some (some (n : Int)) else Option.none)) fun o => M.bind (M.look r) fun xs => if xs.length ≤ 65536 then M.pure (.list (cut o none xs)) else M.fail := by kernel_rfl
 have e2 : cut (some (n : Int)) none xs = xs.drop n := by
  show (xs.drop (clipAt xs.length (n : Int))).take (xs.length - clipAt xs.length (n : Int)) = _
  have : clipAt xs.length (n : Int) = n := (clipAt_nat ..).trans (Nat.min_eq_left h)
  rw [this, List.take_of_length_le (by rw [List.length_drop]; exact Nat.le_refl _)]
 rw [e, Int.natAbs_natCast, if_pos (decide_eq_true (Nat.lt_of_le_of_lt (Nat.le_trans h hl) (by decide))), bind_app, of_some, ob_some, bind_app, look_app, hr, lookR_some, ob_some, if_pos hl, e2]; rfl
noncomputable def oPa (x : V) : Vars := [("pair", x)]
noncomputable def cSt (s z p : V) : Vars := [("step", s), ("size", z), ("spots", p)]
noncomputable def oSt (s z p x : V) : Vars := [("step", s), ("size", z), ("spots", p), ("one", x)]
theorem x26_c (w : Wv) (st sz b p fr mo pa sp he be : V) (ch : Nat → Nat) : LcK cfg cl 25 ⟨nL, w.k [st, sz, b, p, fr, mo, pa, sp, he, be]⟩ σ X26 (bdO ch) [] (fun x => oPa (bdO ch x)) ∧ (low cfg cl 26).ev ⟨nL, w.k [st, sz, b, p, fr, mo, pa, sp, he, be]⟩ (lcG X26).iter σ = some (b, σ) := by
 obtain ⟨e, t, f, c, x, y, g, v⟩ := w
 cases f <;> exact ⟨⟨by kernel_rfl, by kernel_rfl, fun _ => by kernel_rfl, fun _ _ => by kernel_rfl⟩, by kernel_rfl⟩
theorem x26_p (u v : V) : tests (low cfg cl 25) ⟨compNames (lcSc X26), oPa (.tup [u, v])⟩ (lcG X26).ifs σ = some (true, σ) ∧ (low cfg cl 25).ev ⟨compNames (lcSc X26), oPa (.tup [u, v])⟩ (lcElt X26) σ = some (u, σ) := ⟨by kernel_rfl, by kernel_rfl⟩
theorem y26_c (w : Wv) (st sz b p fr mo pa sp he be : V) : LcK cfg cl 27 ⟨nL, w.k [st, sz, b, p, fr, mo, pa, sp, he, be]⟩ σ Y26 iV (cSt st sz p) (fun x => oSt st sz p (iV x)) ∧ (low cfg cl 28).ev ⟨nL, w.k [st, sz, b, p, fr, mo, pa, sp, he, be]⟩ (lcG Y26).iter σ = sliceV p .none sz .none σ := by
 obtain ⟨e, t, f, c, x, y, g, v⟩ := w
 cases f <;> exact ⟨⟨by kernel_rfl, by kernel_rfl, fun _ => by kernel_rfl, fun _ _ => by kernel_rfl⟩, by kernel_rfl⟩
theorem y26_p (s x : Int) (z p : V) : tests (low cfg cl 27) ⟨compNames (lcSc Y26), oSt (.int s) z p (.int x)⟩ (lcG Y26).ifs σ = ob (ob (sliceV p z .none .none σ) fun l => cmpV cfg .In (.int (x - s)) l) tI ∧ (low cfg cl 27).ev ⟨compNames (lcSc Y26), oSt (.int s) z p (.int x)⟩ (lcElt Y26) σ = some (.int x, σ) := ⟨by kernel_rfl, by kernel_rfl⟩
theorem y26_as (w : Wv) (st sz b p fr mo pa sp he be : V) (l : List V) : (M.bind (thaw cfg (asT (k26 10)) (asV (k26 10)) (.list l)) fun v => M.bind (setTo (low cfg cl 28) ⟨nL, w.k [st, sz, b, p, fr, mo, pa, sp, he, be]⟩ (asT (k26 10)) v) fun vars => nx vars) σ = some ((.next, w.k [st, sz, b, p, .list l, mo, pa, sp, he, be]), σ) := by
 obtain ⟨e, t, f, c, x, y, g, v⟩ := w
 cases f <;> kernel_rfl
end Mine.Internal.L01
namespace Mine.Internal.L01
open PySem PyProof.Rows PySem.W PySem.SeqAt PySem.Calls PySem.Challenge Mine.Internal
variable {σ : Sto}
noncomputable def bR (ch : Nat → Nat) (a : Nat) (os : List Nat) : List V := ((pl a).zip os).map (bdO ch)
noncomputable def sR (a : Nat) : List V := (pl a ++ hl a).map iV
noncomputable def st6 (τ : List V × List V × List V × List V) (b s : List V) : Sto := [τ.1, τ.2.1, τ.2.2.1, τ.2.2.2, b, s]
theorem pair_lt (A H : List Nat) (h1 : A.length ≤ 10) (h2 : H.length ≤ 11) : (A ++ H).length < 4000 := by rw [List.length_append]; exact Nat.lt_of_le_of_lt (Nat.add_le_add h1 h2) (by decide)
noncomputable def hd26 (w : Wv) (M step a mo pa : Nat) (m : List V) : Vars := w.k (iV step :: iV (pl M).length :: .lst 4 :: .lst 5 :: nLs (frN a step) :: iV mo :: iV pa :: m)
theorem turn26 {w : Wv} {M R step a mo pa : Nat} {os : List Nat} {ch : Nat → Nat} {τ : List V × List V × List V × List V} {m : List V} (hst : step = 2 ∨ step = 3 ∨ step = 4) (hr : w.e.r = iV R) (hR : R < 2 ^ 256) (hM : M < 1024) (hm : m3 m) (k : Wk M step a os mo pa) (hf : frN a step ≠ []) :
  Ex5 fun b os' pa' m' (_ : Unit) => Wk M step b os' (mo + 1) pa' ∧ wn b step < wn a step ∧ m3 m' ∧ m' ≠ [] ∧ exAll cfg (low cfg CL 28) ⟨nL, hd26 w M step a mo pa m⟩ (whBody W26) (st6 τ (bR ch a os) (sR a)) = some ((.next, hd26 w M step b (mo + 1) pa' m'), st6 τ (bR ch b os') (sR b)) := by
 -- the choice
 have hn0 : (frN a step).length ≠ 0 := fun q => hf (List.length_eq_zero_iff.mp q)
 have hi : R / 3 / (mo + 1) % (frN a step).length < (frN a step).length := Nat.mod_lt _ (Nat.pos_of_ne_zero hn0)
 have hfl : (frN a step).length ≤ 10 := Nat.le_trans (List.length_filter_le ..) (pl_len a)
 have hmo : mo ≤ 39 := Nat.le_trans (Nat.le_trans (Nat.le_add_right ..) (Nat.le_of_eq k.mo1)) (chk_i hst hM).2.2
 have s0 := w_0 (cl := CL) (σ := st6 τ (bR ch a os) (sR a)) w (iV step) (iV (pl M).length) (.lst 4) (.lst 5) (nLs (frN a step)) (iV pa) m mo hm
 have s1 : exStep cfg (low cfg CL 28) ⟨nL, w.k (iV step :: iV (pl M).length :: .lst 4 :: .lst 5 :: nLs (frN a step) :: iV (mo + 1) :: iV pa :: m)⟩ (k26 1) (st6 τ (bR ch a os) (sR a)) = some ((.next, w.k (iV step :: iV (pl M).length :: .lst 4 :: .lst 5 :: nLs (frN a step) :: iV (mo + 1) :: iV pa :: iV ((frN a step).getD (R / 3 / (mo + 1) % (frN a step).length) 0) :: m.drop 1)), st6 τ (bR ch a os) (sR a)) := by
  refine (w_1 w _ _ _ _ _ _ _ _ hm).trans ?_
  rw [hr]
  exact obT (obT (obT (obT (o_divN hR (by decide) (by decide) _) (o_divN (Nat.lt_of_le_of_lt (Nat.div_le_self ..) hR) (Nat.lt_of_le_of_lt (Nat.succ_le_succ hmo) (by decide)) (Nat.succ_ne_zero mo) _)) (obT (len_list (by rw [List.length_map]; exact Nat.le_trans hfl (by decide)) _) (by rw [List.length_map]; exact o_modN hn0 _))) (ix_at (map_at hi iV 0) (Nat.lt_trans hi (Nat.lt_of_le_of_lt hfl (by decide))) _)) rfl
 have hs : (frN a step).getD (R / 3 / (mo + 1) % (frN a step).length) 0 ∈ frN a step := getD_mem hi
 generalize (frN a step).getD (R / 3 / (mo + 1) % (frN a step).length) 0 = s at s1 hs
 have mv0 := mv_of hst k.a1 hs
 obtain ⟨hsA, hle, _⟩ := fr_mem hs
 have hs10 := (mem_pl.mp hsA).1
 generalize et : s - step = t at mv0
 have est : ((s : Int) - (step : Nat)) = (t : Nat) := by rw [← et, Int.ofNat_sub hle]
 generalize mv a s t = b at mv0
 generalize eks : cL s (pl a) = ks at mv0
 generalize ekt : cL t (pl a) = kt at mv0
 generalize eht : cL t (hl a) = ht at mv0
 have hk : ks < (pl a).length := lt_getD mv0.as (Nat.ne_of_lt hs10)
 have hh : ht < (hl a).length := lt_getD mv0.ah (Nat.ne_of_lt (Nat.lt_of_le_of_lt (et ▸ Nat.sub_le s step) hs10))
 have k' := k.step hs mv0
 have hz := k.len
 have lo : (pl a).length = os.length := by rw [k.o1, List.length_map, crN_len]
 have pa10 := pl_len a
 have ha10 := hl_len a
 -- reading the row
 have c2 : CL "bisect_left" [.lst 5, iV s] [("hi", iV (pl M).length)] (st6 τ (bR ch a os) (sR a)) = some (iV ks, st6 τ (bR ch a os) (sR a)) := by
  rw [← hz, ← eks]; exact c_bl (A := pl a) (H := hl a) rfl (pair_lt _ _ pa10 (Nat.le_succ_of_le ha10)) (pl_srt a)
 have c3 : CL "bisect_right" [.lst 5, iV s] [("hi", iV (pl M).length)] (st6 τ (bR ch a os) (sR a)) = some (iV (ks + 1), st6 τ (bR ch a os) (sR a)) := by
  rw [← hz, ← mv0.rs]; exact c_br (A := pl a) (H := hl a) rfl (pair_lt _ _ pa10 (Nat.le_succ_of_le ha10)) (pl_srt a)
 have c4 : CL "bisect_right" [.lst 5, .int ((s : Int) - (step : Nat))] [("hi", iV (pl M).length)] (st6 τ (bR ch a os) (sR a)) = some (iV kt, st6 τ (bR ch a os) (sR a)) := by
  rw [est, ← hz, ← mv0.rt]; exact c_br (A := pl a) (H := hl a) rfl (pair_lt _ _ pa10 (Nat.le_succ_of_le ha10)) (pl_srt a)
 have ne1 : cmpV cfg .NotEq (iV (ks + 1)) (iV (ks + 1)) (st6 τ (bR ch a os) (sR a)) = some (false, st6 τ (bR ch a os) (sR a)) := cmp_neN _ _ rfl _
 have e4 : binV .Sub (iV (pa + ks)) (iV kt) (st6 τ (bR ch a os) (sR a)) = some (iV (pa + (ks - kt)), st6 τ (bR ch a os) (sR a)) := by
  have := mv0.le
  refine (o_sub ..).trans ?_
  rw [show (((pa + ks : Nat) : Int) - (kt : Nat)) = ((pa + (ks - kt) : Nat) : Int) by rw [← Nat.add_sub_assoc this, Int.ofNat_sub (Nat.le_trans this (Nat.le_add_left ..))]]; rfl
 -- the bead and the spots are taken out
 have hO : os.getD ks 0 = os[ks]'(lo ▸ hk) := by rw [List.getD_eq_getElem?_getD, List.getElem?_eq_getElem (lo ▸ hk)]; rfl
 have hA : (pl a)[ks] = s := by
  have := mv0.as
  rwa [List.getD_eq_getElem?_getD, List.getElem?_eq_getElem hk] at this
 have hz5 : ((pl a).zip os)[ks]? = some (s, os.getD ks 0) := by
  rw [List.getElem?_eq_getElem (by rw [List.length_zip, ← lo, Nat.min_self]; exact hk), List.getElem_zip, hA, hO]
 have c5 : callMth cfg (.lst 4) "pop" [iV ks] (st6 τ (bR ch a os) (sR a)) = some (bdO ch (s, os.getD ks 0), st6 τ ((((pl a).eraseIdx ks).zip (os.eraseIdx ks)).map (bdO ch)) (sR a)) := by
  refine (mth_pop (xs := bR ch a os) rfl (by unfold bR; rw [List.length_map, List.length_zip, ← lo, Nat.min_self]; exact Nat.le_trans pa10 (by decide)) (at_val hz5)).trans ?_
  unfold bR
  rw [map_erase, zip_erase ks lo]; rfl
 have hS5 : ((pl a ++ hl a).map iV).length ≤ 65536 := by rw [List.length_map]; exact Nat.le_of_lt (Nat.lt_trans (pair_lt _ _ pa10 (Nat.le_succ_of_le ha10)) (by decide))
 have pb := mv0.pb
 have hb := mv0.hb
 have rt1 := mv0.rt1
 have lt1 := mv0.lt1
 have rl := mv0.rl
 have sA1 : SrtN ((pl a).eraseIdx ks) := SrtN.erase (pl_srt a) ks
 have sH1 : SrtN ((hl a).eraseIdx ht) := SrtN.erase (hl_srt a) ht
 have lA1 : ((pl a).eraseIdx ks).length = (pl a).length - 1 := List.length_eraseIdx_of_lt hk
 have lO1 : (os.eraseIdx ks).length = os.length - 1 := List.length_eraseIdx_of_lt (lo ▸ hk)
 have lH1 : ((hl a).eraseIdx ht).length ≤ 10 := Nat.le_trans (List.length_eraseIdx_le ..) ha10
 have emv : mvL os ks kt = inN kt (os.getD ks 0) (os.eraseIdx ks) := rfl
 have tH : ((pl a ++ hl a).map iV)[(pl a).length + ht]? = some (iV t) := by
  rw [List.getElem?_map, List.getElem?_append_right (Nat.le_add_right ..), Nat.add_sub_cancel_left, List.getElem?_eq_getElem hh]
  have := mv0.ah
  rw [List.getD_eq_getElem?_getD, List.getElem?_eq_getElem hh] at this
  exact congrArg (fun z => some (iV z)) this
 have e6 : ((pl a ++ hl a).map iV).eraseIdx ((pl a).length + ht) = (pl a ++ (hl a).eraseIdx ht).map iV := by
  rw [map_erase, List.eraseIdx_append_of_length_le (Nat.le_add_right ..), Nat.add_sub_cancel_left]
 have tA : ((pl a ++ (hl a).eraseIdx ht).map iV)[ks]? = some (iV s) := by
  rw [List.getElem?_map, List.getElem?_append_left hk, List.getElem?_eq_getElem hk, hA]; rfl
 have e7 : ((pl a ++ (hl a).eraseIdx ht).map iV).eraseIdx ks = ((pl a).eraseIdx ks ++ (hl a).eraseIdx ht).map iV := by
  rw [map_erase, List.eraseIdx_append_of_lt_length hk]
 generalize (pl a).eraseIdx ks = A1 at *
 generalize (hl a).eraseIdx ht = H1 at *
 generalize os.eraseIdx ks = O1 at *
 generalize os.getD ks 0 = o at *
 have lAO : A1.length = O1.length := by rw [lA1, lO1, lo]
 have hA4 : A1.length < 4000 := by rw [lA1]; exact Nat.lt_of_le_of_lt (Nat.sub_le ..) (Nat.lt_of_le_of_lt pa10 (by decide))
 have hAH : (A1 ++ H1).length < 4000 := pair_lt _ _ (by rw [lA1]; exact Nat.le_trans (Nat.sub_le ..) pa10) (Nat.le_succ_of_le lH1)
 have hPH : (pl a ++ H1).length < 4000 := pair_lt _ _ pa10 (Nat.le_succ_of_le lH1)
 have hBH : (pl b ++ H1).length < 4000 := pair_lt _ _ (pl_len b) (Nat.le_succ_of_le lH1)
 have hsz : (((pl M).length : Nat) : Int) - 1 = (A1.length : Nat) := by rw [lA1, ← hz]; exact (Int.ofNat_sub (Nat.lt_of_le_of_lt (Nat.zero_le _) hk)).symm
 have c6 : CL "bisect_left" [.lst 5, .int ((s : Int) - (step : Nat)), iV (pl M).length] [] (st6 τ ((A1.zip O1).map (bdO ch)) (sR a)) = some (iV ((pl a).length + ht), st6 τ ((A1.zip O1).map (bdO ch)) (sR a)) := by
  rw [est, ← hz, ← eht]; exact c_bl2 (A := pl a) (H := hl a) rfl (pair_lt _ _ pa10 (Nat.le_succ_of_le ha10)) (hl_srt a)
 have p6 : callMth cfg (.lst 5) "pop" [iV ((pl a).length + ht)] (st6 τ ((A1.zip O1).map (bdO ch)) (sR a)) = some (iV t, st6 τ ((A1.zip O1).map (bdO ch)) ((pl a ++ H1).map iV)) := by
  refine (mth_pop (xs := sR a) rfl hS5 tH).trans ?_
  unfold sR
  rw [e6]; rfl
 have p7 : callMth cfg (.lst 5) "pop" [iV ks] (st6 τ ((A1.zip O1).map (bdO ch)) ((pl a ++ H1).map iV)) = some (iV s, st6 τ ((A1.zip O1).map (bdO ch)) ((A1 ++ H1).map iV)) := by
  refine (mth_pop (xs := (pl a ++ H1).map iV) rfl (by rw [List.length_map]; exact Nat.le_of_lt (Nat.lt_trans hPH (by decide))) tA).trans ?_
  rw [e7]; rfl
 have ebd : (V.tup [.int ((s : Int) - (step : Nat)), one (ch o)]) = bdO ch (t, o) := by rw [est]; rfl
 have et2 : V.int ((s : Int) - (step : Nat)) = iV t := by rw [est]; rfl
 -- and laid in again
 have s8 : exStep cfg (low cfg CL 28) ⟨nL, w.k [iV step, iV (pl M).length, .lst 4, .lst 5, nLs (frN a step), iV (mo + 1), iV (pa + (ks - kt)), iV s, iV ks, bdO ch (s, o)]⟩ (k26 8) (st6 τ ((A1.zip O1).map (bdO ch)) ((A1 ++ H1).map iV)) = some ((.next, w.k [iV step, iV (pl M).length, .lst 4, .lst 5, nLs (frN a step), iV (mo + 1), iV (pa + (ks - kt)), iV s, iV ks, bdO ch (s, o)]), st6 τ (bR ch b (mvL os ks kt)) (sR b)) := by
  have ht8 := w_8t (cl := CL) (σ := st6 τ ((A1.zip O1).map (bdO ch)) ((A1 ++ H1).map iV)) w (iV step) (iV (pl M).length) (.lst 4) (.lst 5) (nLs (frN a step)) (iV (pa + (ks - kt))) (mo + 1 : Nat) (iV s) (iV ks) (bdO ch (s, o))
  rw [show ((mo + 1 : Nat) : Int).fmod 2 = (((mo + 1) % 2 : Nat) : Int) from fmod_nat (mo + 1) 2] at ht8
  have eB : bR ch b (mvL os ks kt) = ((inN kt t A1).zip (inN kt o O1)).map (bdO ch) := by rw [pb, emv]; rfl
  rcases Nat.mod_two_eq_zero_or_one (mo + 1) with q | q
  ·rw [q] at ht8
   refine if_no w_k.2.1.2.2.1 ht8 ?_
   rw [w_k.2.1.2.2.2.2]
   refine x_next _ _ _ _ _ ((w_80 ..).2.trans (obT (a := .none) (s := st6 τ (bR ch b (mvL os ks kt)) ((A1 ++ H1).map iV)) ?_ rfl)) (x_next _ _ _ _ _ ((w_81 ..).2.trans (obT (a := .none) (s := st6 τ (bR ch b (mvL os ks kt)) ((pl b ++ H1).map iV)) ?_ rfl)) (x_one ((w_82 ..).2.trans (obT (a := .none) (s := st6 τ (bR ch b (mvL os ks kt)) (sR b)) ?_ rfl))))
   ·rw [ebd, eB]
    have := c_kl (σ := st6 τ ((A1.zip O1).map (bdO ch)) ((A1 ++ H1).map iV)) (r := 4) (x := t) (y := o) (A := A1) (O := O1) (ch := ch) rfl hA4 sA1 lAO
    rw [lt1] at this; exact this
   ·rw [et2]
    have := c_nr (σ := st6 τ (bR ch b (mvL os ks kt)) ((A1 ++ H1).map iV)) (r := 5) (x := t) (A := A1) (H := H1) rfl hAH sA1 hsz
    rw [rt1, pb] at this; exact this
   ·have := c_nl2 (σ := st6 τ (bR ch b (mvL os ks kt)) ((pl b ++ H1).map iV)) (r := 5) (x := s) (A := pl b) (H := H1) rfl hBH sH1
    rw [hb, k'.len] at this; exact this
  ·rw [q] at ht8
   refine if_yes w_k.2.1.2.2.1 ht8 ?_
   rw [w_k.2.1.2.2.2.1]
   refine x_next _ _ _ _ _ ((w_80 ..).1.trans (obT (a := .none) (s := st6 τ (bR ch b (mvL os ks kt)) ((A1 ++ H1).map iV)) ?_ rfl)) (x_next _ _ _ _ _ ((w_81 ..).1.trans (obT (a := .none) (s := st6 τ (bR ch b (mvL os ks kt)) ((pl b ++ H1).map iV)) ?_ rfl)) (x_one ((w_82 ..).1.trans (obT (a := .none) (s := st6 τ (bR ch b (mvL os ks kt)) (sR b)) ?_ rfl))))
   ·rw [ebd, eB]
    have := c_kr (σ := st6 τ ((A1.zip O1).map (bdO ch)) ((A1 ++ H1).map iV)) (r := 4) (x := t) (y := o) (A := A1) (O := O1) (ch := ch) rfl hA4 sA1 lAO
    rw [rt1] at this; exact this
   ·rw [et2]
    have := c_nl (σ := st6 τ (bR ch b (mvL os ks kt)) ((A1 ++ H1).map iV)) (r := 5) (x := t) (A := A1) (H := H1) rfl hAH sA1 hsz
    rw [lt1, pb] at this; exact this
   ·have := c_nr2 (σ := st6 τ (bR ch b (mvL os ks kt)) ((pl b ++ H1).map iV)) (r := 5) (x := s) (A := pl b) (H := H1) rfl hBH sH1
    rw [rl, hb, k'.len] at this; exact this
 -- the row and the beads agree
 have lb : (pl b).length = (mvL os ks kt).length := by rw [k'.o1, List.length_map, crN_len]
 have hSb : ((pl b ++ hl b).map iV).length ≤ 65536 := by rw [List.length_map]; exact Nat.le_of_lt (Nat.lt_trans (pair_lt _ _ (pl_len b) (Nat.le_succ_of_le (hl_len b))) (by decide))
 have hzl : (pl M).length ≤ ((pl b ++ hl b).map iV).length := by rw [List.length_map, List.length_append, ← k'.len]; exact Nat.le_add_right ..
 have tk : ((pl b ++ hl b).map iV).take (pl M).length = (pl b).map iV := by rw [← List.map_take, ← k'.len, List.take_left]
 have dp : ((pl b ++ hl b).map iV).drop (pl M).length = (hl b).map iV := by rw [← List.map_drop, ← k'.len, List.drop_left]
 have zb : (pl M).length < 2 ^ 62 := Nat.lt_of_le_of_lt (pl_len M) (by decide)
 have v9 : sliceV (.lst 5) .none (iV (pl M).length) .none (st6 τ (bR ch b (mvL os ks kt)) (sR b)) = some (nLs (pl b), st6 τ (bR ch b (mvL os ks kt)) (sR b)) := by
  have := sl_lst (σ := st6 τ (bR ch b (mvL os ks kt)) (sR b)) (r := 5) (xs := (pl b ++ hl b).map iV) rfl hzl hSb zb
  rw [tk] at this; exact this
 have v10 : sliceV (.lst 5) (iV (pl M).length) .none .none (st6 τ (bR ch b (mvL os ks kt)) (sR b)) = some (nLs (hl b), st6 τ (bR ch b (mvL os ks kt)) (sR b)) := by
  have := sl_from (σ := st6 τ (bR ch b (mvL os ks kt)) (sR b)) (r := 5) (xs := (pl b ++ hl b).map iV) rfl hzl hSb
  rw [dp] at this; exact this
 have s9 : exStep cfg (low cfg CL 28) ⟨nL, w.k [iV step, iV (pl M).length, .lst 4, .lst 5, nLs (frN a step), iV (mo + 1), iV (pa + (ks - kt)), iV s, iV ks, bdO ch (s, o)]⟩ (k26 9) (st6 τ (bR ch b (mvL os ks kt)) (sR b)) = some ((.next, w.k [iV step, iV (pl M).length, .lst 4, .lst 5, nLs (frN a step), iV (mo + 1), iV (pa + (ks - kt)), iV s, iV ks, bdO ch (s, o)]), st6 τ (bR ch b (mvL os ks kt)) (sR b)) := by
  obtain ⟨i1, i2⟩ := x26_c (cl := CL) (σ := st6 τ (bR ch b (mvL os ks kt)) (sR b)) w (iV step) (iV (pl M).length) (.lst 4) (.lst 5) (nLs (frN a step)) (iV (mo + 1)) (iV (pa + (ks - kt))) (iV s) (iV ks) (bdO ch (s, o)) ch
  have hx := r_lc (n := 26) w_k.2.2.2.2.1 (lc_st (n := 25) (ys := (pl b).zip (mvL os ks kt)) (chk := some 4) i1 (fun _ => true) (fun x => iV x.1) i2 (iter_lst rfl) (still_some rfl) (fun x _ => (x26_p _ _).1) (fun x _ _ => (x26_p _ _).2) (by rw [List.length_zip, ← lb, Nat.min_self]; exact Nat.le_trans (pl_len b) (by decide)))
  rw [filt] at hx
  have ez : ((pl b).zip (mvL os ks kt)).map (fun x => iV x.1) = (pl b).map iV := by
   rw [← zip_fst lb, List.map_map, zip_fst lb]; rfl
  rw [ez] at hx
  exact if_not (σ1 := st6 τ (bR ch b (mvL os ks kt)) (sR b)) w_k.2.2.1 w_k.2.2.2.1 ((w_9 ..).trans (obT v9 (obT hx (ne_list fun v hv => by
   obtain ⟨z, _, rfl⟩ := List.mem_map.mp hv
   exact eq_int 4 _))))
 have s10 : exStep cfg (low cfg CL 28) ⟨nL, w.k [iV step, iV (pl M).length, .lst 4, .lst 5, nLs (frN a step), iV (mo + 1), iV (pa + (ks - kt)), iV s, iV ks, bdO ch (s, o)]⟩ (k26 10) (st6 τ (bR ch b (mvL os ks kt)) (sR b)) = some ((.next, w.k [iV step, iV (pl M).length, .lst 4, .lst 5, nLs (frN b step), iV (mo + 1), iV (pa + (ks - kt)), iV s, iV ks, bdO ch (s, o)]), st6 τ (bR ch b (mvL os ks kt)) (sR b)) := by
  obtain ⟨i1, i2⟩ := y26_c (cl := CL) (σ := st6 τ (bR ch b (mvL os ks kt)) (sR b)) w (iV step) (iV (pl M).length) (.lst 4) (.lst 5) (nLs (frN a step)) (iV (mo + 1)) (iV (pa + (ks - kt))) (iV s) (iV ks) (bdO ch (s, o))
  refine as_run w_k.2.2.2.2.2.1 ((evV_lc w_k.2.2.2.2.2.2 _).trans (lc_st (n := 27) (ys := pl b) (chk := none) i1 (fun p => Nat.ble step p && !b.testBit (p - step)) iV (i2.trans v9) rfl rfl (fun x hx => (y26_p _ _ _ _).1.trans (obT (obT v10 ?_) (tI_e ..))) (fun x _ _ => (y26_p _ _ _ _).2) (Nat.le_trans (pl_len b) (by decide)))) (y26_as ..)
  rw [in_int, free_any (mem_pl.mp hx).1]
 refine ⟨b, mvL os ks kt, pa + (ks - kt), [iV s, iV ks, bdO ch (s, o)], (), k', Nat.lt_of_lt_of_le (Nat.lt_succ_self _) (Nat.le_of_eq mv0.wn), .inr ⟨_, _, _, rfl⟩, List.cons_ne_nil _ _, ?_⟩
 show exAll cfg (low cfg CL 28) _ _ _ = _
 rw [w_k.1.2.2.2]
 refine x_next _ _ _ _ _ s0 (x_next _ _ _ _ _ s1 (x_next _ _ _ _ _ ((w_2 w _ _ _ _ _ _ _ _ _ hm.tl).trans (obT c2 rfl)) (x_next _ _ _ _ _ (if_not w_k.2.1.1 w_k.2.1.2.1 ((w_3 w _ _ _ _ _ _ _ _ _ _ hm.tl.tl).trans (obT c3 ne1))) (x_next _ _ _ _ _ ((w_4 w _ _ _ _ _ _ _ _ _ _ hm.tl.tl).trans (obT (obT c4 e4) rfl)) (x_next _ _ _ _ _ ((w_5 w _ _ _ _ _ _ _ _ _ _ hm.tl.tl).trans (obT c5 rfl)) (x_next _ _ _ _ _ ((w_6 ..).trans (obT (obT (obT c6 rfl) p6) rfl)) (x_next _ _ _ _ _ ((w_7 ..).trans (obT p7 rfl)) (x_next _ _ _ _ _ s8 (x_next _ _ _ _ _ s9 (x_one s10))))))))))
end Mine.Internal.L01
namespace Mine.Internal.L01
open PySem PyProof.Rows PySem.W PySem.SeqAt PySem.Calls PySem.Challenge Mine.Internal
variable {cl : Str → List V → List (Str × V) → M V} {σ : Sto}
structure I26 (w : Wv) (M step : Nat) (ch : Nat → Nat) (τ : List V × List V × List V × List V) (a : Nat) (os : List Nat) (mo pa : Nat) (m : List V) (vars : Vars) (s : Sto) : Prop where
 k : Wk M step a os mo pa
 hm : m3 m
 v : vars = hd26 w M step a mo pa m
 s : s = st6 τ (bR ch a os) (sR a)
theorem ne_nil (l : List Nat) (σ : Sto) : cmpV cfg .NotEq (nLs l) (.list []) σ = some (decide (l ≠ []), σ) := by
 cases l with
 | nil => rfl
 | cons x l =>
  rw [decide_eq_true (List.cons_ne_nil x l)]; rfl
theorem law_26 {w : Wv} {M R step : Nat} {ch : Nat → Nat} {τ : List V × List V × List V × List V} (hst : step = 2 ∨ step = 3 ∨ step = 4) (hr : w.e.r = iV R) (hR : R < 2 ^ 256) (hM : M < 1024) :
  Ex5 fun a os mo pa m => Wk M step a os mo pa ∧ frN a step = [] ∧ m3 m ∧ exStep cfg (low cfg CL 29) ⟨nL, hd26 w M step M 0 0 []⟩ W26 (st6 τ (bR ch M (pl M)) (sR M)) = some ((.next, hd26 w M step a mo pa m), st6 τ (bR ch a os) (sR a)) := by
 obtain ⟨vars', σ', h1, a, os, mo, pa, m, hf, hI⟩ := while_run (r := low cfg CL 29) (names := nL) (t := whTest W26) (body := whBody W26)
  (fun k vars s => Ex5 fun a os mo pa m => k = wn a step ∧ I26 w M step ch τ a os mo pa m vars s)
  (fun vars s => Ex5 fun a os mo pa m => frN a step = [] ∧ I26 w M step ch τ a os mo pa m vars s)
  (fun k vars s h => by
   obtain ⟨a, os, mo, pa, m, rfl, hk, hm, rfl, rfl⟩ := h
   have t0 : ∀ b, decide (frN a step ≠ []) = b → (low cfg CL 28).ts ⟨nL, hd26 w M step a mo pa m⟩ (T26 0) (st6 τ (bR ch a os) (sR a)) = some (b, st6 τ (bR ch a os) (sR a)) := fun b hb => by
    rw [← hb]; exact (w_t0 w _ _ _ _ _ _ _ _ hm).trans (ne_nil _ _)
   by_cases hf : frN a step = []
   ·left
    refine ⟨r_and w_k.1.2.1 ?_, a, os, mo, pa, m, hf, hk, hm, rfl, rfl⟩
    rw [w_k.1.2.2.1]
    exact r_and_f (t0 false (decide_eq_false fun q => q hf))
   ·right
    obtain ⟨b, os', pa', m', _, f1, f2, f3, _, f5⟩ := turn26 (τ := τ) (ch := ch) hst hr hR hM hm hk hf
    refine ⟨r_and w_k.1.2.1 ?_, wn b step, _, _, f2, f5, b, os', mo + 1, pa', m', rfl, f1, f3, rfl, rfl⟩
    rw [w_k.1.2.2.1]
    have hmo : mo ≤ 39 := Nat.le_trans (Nat.le_trans (Nat.le_add_right ..) (Nat.le_of_eq hk.mo1)) (chk_i hst hM).2.2
    have t1 := w_t1 (cl := CL) (σ := st6 τ (bR ch a os) (sR a)) w (iV step) (iV (pl M).length) (.lst 4) (.lst 5) (nLs (frN a step)) (iV pa) m mo hm
    rw [decide_eq_true (show (mo : Int) < 40 by lia)] at t1
    exact r_and_t (t0 true (decide_eq_true hf)) (r_and_t t1 rfl))
  4096 (wn M step) (hd26 w M step M 0 0 []) (hd26 w M step M 0 0 []) (st6 τ (bR ch M (pl M)) (sR M)) (Nat.lt_of_le_of_lt (chk_i hst hM).2.2 (by decide)) ⟨M, pl M, 0, 0, [], rfl, wk_init hst hM, .inl rfl, rfl, rfl⟩
 obtain ⟨hk, hm, rfl, rfl⟩ := hI
 exact ⟨a, os, mo, pa, m, hk, hf, hm, (g_while w_k.1.1 _).trans h1⟩
structure E7 where
 (st sz b p fr mo pa : V)
noncomputable def fN : List Str := ["rest", "core", "wander", "last", "crossed", "told"]
noncomputable def Wv.q (w : Wv) (u : E7) (m n : List V) : Vars := w.k (u.st :: u.sz :: u.b :: u.p :: u.fr :: u.mo :: u.pa :: m) ++ fN.zip n
noncomputable def X28 : Expr := asV (lwS 28)
noncomputable def X29 : Expr := caA 0 (asV (lwS 29))
noncomputable def T30 (i : Nat) : Expr := boV i (ifTest (lwS 30))
noncomputable def X30 : Expr := biR (cmR (T30 1))
noncomputable def X31 : Expr := asV (lwS 31)
noncomputable def Y31 : Expr := ixV (lcElt X31)
theorem k27 : (isAs (lwS 28) ∧ isLc X28 ∧ isLc X29) ∧ (isIf (lwS 30) ∧ ifElse (lwS 30) = [] ∧ isOr (ifTest (lwS 30)) ∧ boVs (ifTest (lwS 30)) = [T30 0, T30 1] ∧ isLc X30) ∧ isAs (lwS 31) ∧ isLc X31 ∧ isLc Y31 := ⟨⟨by kernel_rfl, by kernel_rfl, by kernel_rfl⟩, ⟨by kernel_rfl, by kernel_rfl, by kernel_rfl, by kernel_rfl, by kernel_rfl⟩, by kernel_rfl, by kernel_rfl, by kernel_rfl⟩
section
variable (w : Wv) (u : E7) (m : List V)
noncomputable def fmd (n step : Nat) : V := .int ((n : Int).fmod ((16 ^ step - 1 : Nat) : Int))
theorem l27 (n step : Nat) (hn : w.t.n = iV n) (hu : u.st = iV step) (hst : step = 2 ∨ step = 3 ∨ step = 4) (hm : m3 m) : exStep cfg (low cfg cl 29) ⟨nL, w.q u m []⟩ (lwS 27) σ = ob (ob (ob (cl "Int2AP" [fmd n step] [] σ) fun v => M.pure [v, iV step]) fun vs => cl "_law_figures" vs []) fun v => M.bind (th false v) fun v => nx (w.q u m [v]) := by
 obtain ⟨e, ⟨h, n', p, f', mo⟩, f, c, x, y, g, v⟩ := w
 obtain ⟨st, sz, b, p', fr, mo', pa⟩ := u
 cases hn
 cases hu
 cases f <;> rcases hm with rfl | ⟨i, j, k, rfl⟩ <;> rcases hst with rfl | rfl | rfl <;> kernel_rfl
noncomputable def cSr (s r : V) : Vars := [("step", s), ("rest", r)]
noncomputable def oSr (s r x : V) : Vars := [("step", s), ("rest", r), ("place", x)]
theorem l28_c (r : V) (hm : m3 m) : LcK cfg cl 28 ⟨nL, w.q u m [r]⟩ σ X28 iV (cSr u.st r) (fun x => oSr u.st r (iV x)) ∧ (low cfg cl 29).ev ⟨nL, w.q u m [r]⟩ (lcG X28).iter σ = some (.rng 0 (10 : Nat) 1, σ) ∧ ∀ l, (M.bind (thaw cfg (asT (lwS 28)) (asV (lwS 28)) (.list l)) fun v => M.bind (setTo (low cfg cl 29) ⟨nL, w.q u m [r]⟩ (asT (lwS 28)) v) fun vars => nx vars) σ = some ((.next, w.q u m [r, .list l]), σ) := by
 obtain ⟨e, t, f, c, x, y, g, v⟩ := w
 cases f <;> rcases hm with rfl | ⟨i, j, k, rfl⟩ <;> exact ⟨⟨by kernel_rfl, by kernel_rfl, fun _ => by kernel_rfl, fun _ _ => by kernel_rfl⟩, by kernel_rfl, fun _ => by kernel_rfl⟩
theorem l28_p (s r x : V) : tests (low cfg cl 28) ⟨compNames (lcSc X28), oSr s r x⟩ (lcG X28).ifs σ = ob (ob (binV .FloorDiv x s σ) fun a => M.bind (M.bind (binV .Mod x s) fun i => indexV r i) fun b => cmpV cfg .Lt a b) tI ∧ (low cfg cl 28).ev ⟨compNames (lcSc X28), oSr s r x⟩ (lcElt X28) σ = some (x, σ) := ⟨by kernel_rfl, by kernel_rfl⟩
noncomputable def cFi (f : V) : Vars := [("figures", f)]
noncomputable def oFi (f x : V) : Vars := [("figures", f), ("length", x)]
theorem l29 (r c : V) (hm : m3 m) : exStep cfg (low cfg cl 29) ⟨nL, w.q u m [r, c]⟩ (lwS 29) σ = ob (ob (ob ((low cfg cl 28).ev ⟨nL, w.q u m [r, c]⟩ X29 σ) fun v => M.pure [v]) fun vs => callB "sum" vs) fun v => M.bind (th false v) fun v => nx (w.q u m [r, c, v]) := by
 obtain ⟨e, t, f, c', x, y, g, v⟩ := w
 cases f <;> rcases hm with rfl | ⟨i, j, k, rfl⟩ <;> kernel_rfl
theorem l29_c (r c : V) (step : Nat) (hu : u.st = iV step) (hst : step = 2 ∨ step = 3 ∨ step = 4) (hm : m3 m) : LcK cfg cl 26 ⟨nL, w.q u m [r, c]⟩ σ X29 iV (cFi w.t.f) (fun x => oFi w.t.f (iV x)) ∧ (low cfg cl 27).ev ⟨nL, w.q u m [r, c]⟩ (lcG X29).iter σ = some (.rng step 10 step, σ) := by
 obtain ⟨e, t, f, c', x, y, g, v⟩ := w
 obtain ⟨st, sz, b, p', fr, mo', pa⟩ := u
 cases hu
 cases f <;> rcases hm with rfl | ⟨i, j, k, rfl⟩ <;> rcases hst with rfl | rfl | rfl <;> exact ⟨⟨by kernel_rfl, by kernel_rfl, fun _ => by kernel_rfl, fun _ _ => by kernel_rfl⟩, by kernel_rfl⟩
theorem l29_p (f x : V) : tests (low cfg cl 26) ⟨compNames (lcSc X29), oFi f x⟩ (lcG X29).ifs σ = some (true, σ) ∧ (low cfg cl 26).ev ⟨compNames (lcSc X29), oFi f x⟩ (lcElt X29) σ = ob (binV .Add (iV 9) x σ) (indexV f) := ⟨by kernel_rfl, by kernel_rfl⟩
theorem l30_0 (r c v : V) (hm : m3 m) : (low cfg cl 28).ts ⟨nL, w.q u m [r, c, v]⟩ (T30 0) σ = cmpV cfg .NotEq u.mo v σ := by
 obtain ⟨e, t, f, c', x, y, g, v'⟩ := w
 cases f <;> rcases hm with rfl | ⟨i, j, k, rfl⟩ <;> kernel_rfl
theorem l30_1 (r c v : V) (hm : m3 m) : (low cfg cl 28).ts ⟨nL, w.q u m [r, c, v]⟩ (T30 1) σ = ob (ob ((low cfg cl 26).ev ⟨nL, w.q u m [r, c, v]⟩ X30 σ) fun v => binV .Add c v) fun v => cmpV cfg .NotEq u.p v := by
 obtain ⟨e, t, f, c', x, y, g, v⟩ := w
 cases f <;> rcases hm with rfl | ⟨i, j, k, rfl⟩ <;> kernel_rfl
noncomputable def cCo (c : V) : Vars := [("core", c)]
noncomputable def oCo (c x : V) : Vars := [("core", c), ("place", x)]
theorem l30_c (r c v : V) (hm : m3 m) : LcK cfg cl 24 ⟨nL, w.q u m [r, c, v]⟩ σ X30 iV (cCo c) (fun x => oCo c (iV x)) ∧ (low cfg cl 25).ev ⟨nL, w.q u m [r, c, v]⟩ (lcG X30).iter σ = some (.rng 0 (10 : Nat) 1, σ) := by
 obtain ⟨e, t, f, c', x, y, g, v⟩ := w
 cases f <;> rcases hm with rfl | ⟨i, j, k, rfl⟩ <;> exact ⟨⟨by kernel_rfl, by kernel_rfl, fun _ => by kernel_rfl, fun _ _ => by kernel_rfl⟩, by kernel_rfl⟩
theorem l30_p (c x : V) : tests (low cfg cl 24) ⟨compNames (lcSc X30), oCo c x⟩ (lcG X30).ifs σ = ob (ob (cmpV cfg .In x c σ) fun b => M.pure (!b)) tI ∧ (low cfg cl 24).ev ⟨compNames (lcSc X30), oCo c x⟩ (lcElt X30) σ = some (x, σ) := ⟨by kernel_rfl, by kernel_rfl⟩
noncomputable def cSe (a s : V) : Vars := [("seen", a), ("step", s)]
noncomputable def oSe (a s x : V) : Vars := [("seen", a), ("step", s), ("place", x)]
noncomputable def cOl (s x : V) : Vars := [("step", s), ("place", x)]
noncomputable def oOl (s x y : V) : Vars := [("step", s), ("place", x), ("old", y)]
theorem l31_c (r c v : V) (hm : m3 m) : LcK cfg cl 28 ⟨nL, w.q u m [r, c, v]⟩ σ X31 iV (cSe w.e.a u.st) (fun x => oSe w.e.a u.st (iV x)) ∧ (low cfg cl 29).ev ⟨nL, w.q u m [r, c, v]⟩ (lcG X31).iter σ = some (c, σ) ∧ ∀ l, (M.bind (thaw cfg (asT (lwS 31)) (asV (lwS 31)) (.list l)) fun z => M.bind (setTo (low cfg cl 29) ⟨nL, w.q u m [r, c, v]⟩ (asT (lwS 31)) z) fun vars => nx vars) σ = some ((.next, w.q u m [r, c, v, .list l]), σ) := by
 obtain ⟨e, t, f, c', x, y, g, v'⟩ := w
 cases f <;> rcases hm with rfl | ⟨i, j, k, rfl⟩ <;> exact ⟨⟨by kernel_rfl, by kernel_rfl, fun _ => by kernel_rfl, fun _ _ => by kernel_rfl⟩, by kernel_rfl, fun _ => by kernel_rfl⟩
theorem l31_p (a s x : V) : tests (low cfg cl 28) ⟨compNames (lcSc X31), oSe a s x⟩ (lcG X31).ifs σ = some (true, σ) ∧ (low cfg cl 28).ev ⟨compNames (lcSc X31), oSe a s x⟩ (lcElt X31) σ = (ob ((low cfg cl 27).ev ⟨compNames (lcSc X31), oSe a s x⟩ Y31 σ) fun l => M.bind (binV .FloorDiv x s) fun i => indexV l i) := ⟨by kernel_rfl, by kernel_rfl⟩
theorem y31_c (a s x : V) : LcK cfg cl 25 ⟨compNames (lcSc X31), oSe a s x⟩ σ Y31 iV (cOl s x) (fun y => oOl s x (iV y)) ∧ (low cfg cl 26).ev ⟨compNames (lcSc X31), oSe a s x⟩ (lcG Y31).iter σ = some (a, σ) := ⟨⟨by kernel_rfl, by kernel_rfl, fun _ => by kernel_rfl, fun _ _ => by kernel_rfl⟩, by kernel_rfl⟩
theorem y31_p (s x y : V) : tests (low cfg cl 25) ⟨compNames (lcSc Y31), oOl s x y⟩ (lcG Y31).ifs σ = ob (ob (binV .Mod y s σ) fun a => M.bind (binV .Mod x s) fun b => cmpV cfg .Eq a b) tI ∧ (low cfg cl 25).ev ⟨compNames (lcSc Y31), oOl s x y⟩ (lcElt Y31) σ = some (y, σ) := ⟨by kernel_rfl, by kernel_rfl⟩
end
theorem chk_e {step a : Nat} (h : step = 2 ∨ step = 3 ∨ step = 4) (ha : a < 1024) (hf : frN a step = []) : pl a = (List.range 10).filter (coreP (rs a step) step) ∧ wn a step = 0 ∧ crN a step = (pl a).map fun p => 16 * (p % step) + p / step := by
 have := of_all (chE h) ha
 unfold chkE at this
 rw [frF_eq, plF_eq, mdF_eq, wnF_eq h, hf] at this
 have h1 : _ = true := this
 obtain ⟨h1, h4⟩ := Bool.and_eq_true_iff.mp h1
 obtain ⟨h1, h3⟩ := Bool.and_eq_true_iff.mp h1
 exact ⟨leq_eq h1, Nat.eq_of_beq_eq_true h3, leq_eq h4⟩
theorem rs_len (a step : Nat) : (rs a step).length = step := dg_len step _
noncomputable def wsN (step : Nat) : List Nat := (List.range (9 / step)).map fun k => step + k * step
theorem ws_it {step : Nat} (h : step = 2 ∨ step = 3 ∨ step = 4) (σ : Sto) : iterOf (.rng step 10 step) σ = some (((wsN step).map iV, none), σ) := by
 rcases h with rfl | rfl | rfl
 ·kernel_rfl
 ·kernel_rfl
 ·kernel_rfl
theorem ws_le {step : Nat} (h : step = 2 ∨ step = 3 ∨ step = 4) : (∀ x ∈ wsN step, 9 + x < 19) ∧ (wsN step).length ≤ 65536 := by
 rcases h with rfl | rfl | rfl <;> decide +kernel
theorem q_nil (w : Wv) (u : E7) (m : List V) : w.q u m [] = w.k (u.st :: u.sz :: u.b :: u.p :: u.fr :: u.mo :: u.pa :: m) := List.append_nil _
theorem step_lt {step : Nat} (h : step = 2 ∨ step = 3 ∨ step = 4) : step < 5 ∧ step ≠ 0 := by rcases h with rfl | rfl | rfl <;> decide
theorem law_31 {w : Wv} {u : E7} {m : List V} {M step a mo pa : Nat} {os : List Nat} (hst : step = 2 ∨ step = 3 ∨ step = 4) (hM : M < 1024) (hm : m3 m) (k : Wk M step a os mo pa) (hf : frN a step = []) (hn : w.t.n = iV (numN M)) (hfi : w.t.f = nLs (figs M)) (ha : w.e.a = nLs (pl M)) (us : u.st = iV step) (up : u.p = .lst 5) (um : u.mo = iV mo) (hσ : σ[5]? = some (sR a)) {ss : List Stmt} {y : Option ((Fl × Vars) × Sto)}
  (hk : exAll cfg (low cfg CL 29) ⟨nL, w.q u m [nLs (rs M step), nLs (pl a), iV (wn M step), nLs os]⟩ ss σ = y) :
  exAll cfg (low cfg CL 29) ⟨nL, w.q u m []⟩ (lwS 27 :: lwS 28 :: lwS 29 :: lwS 30 :: lwS 31 :: ss) σ = y := by
 obtain ⟨e1, e2, e3⟩ := chk_e hst k.a1 hf
 obtain ⟨s5, s0⟩ := step_lt hst
 have ers : rs a step = rs M step := by unfold rs; rw [k.md]
 rw [ers] at e1
 have emo : mo = wn M step := by have := k.mo1; rw [e2] at this; exact this
 have s27 : exStep cfg (low cfg CL 29) ⟨nL, w.q u m []⟩ (lwS 27) σ = some ((.next, w.q u m [nLs (rs M step)]), σ) := by
  have hd : md M step < 16 ^ step := by
   unfold md
   have : 0 < 16 ^ step - 1 := by rcases hst with rfl | rfl | rfl <;> decide
   exact Nat.lt_of_lt_of_le (Nat.mod_lt _ this) (Nat.sub_le _ _)
  have e : fmd (numN M) step = iV (md M step) := congrArg V.int (fmod_nat ..)
  refine (l27 w u m _ _ hn us hst hm).trans ?_
  rw [e]
  refine obT (obT (obT (ap_call (n := ((md M step : Nat) : Int)) (by rw [Int.natAbs_natCast]; exact Nat.lt_of_lt_of_le hd (Nat.le_trans (Nat.pow_le_pow_right (by decide) (Nat.le_of_lt s5)) (by decide))) (by decide) σ) rfl) (fg_call (N := step) (n := md M step) hd (Nat.le_of_lt (Nat.lt_trans s5 (by decide))) (by decide) σ)) rfl
 have s28 : exStep cfg (low cfg CL 29) ⟨nL, w.q u m [nLs (rs M step)]⟩ (lwS 28) σ = some ((.next, w.q u m [nLs (rs M step), nLs (pl a)]), σ) := by
  obtain ⟨i1, i2, i3⟩ := l28_c (cl := CL) (σ := σ) w u m (nLs (rs M step)) hm
  have hx := lc_st (n := 28) (chk := none) i1 (coreP (rs M step) step) iV i2 (iter_rngN (by decide) σ) rfl (fun x hx => (l28_p _ _ _).1.trans (by
   have hx := List.mem_range.mp hx
   have hxm : x % step < (rs M step).length := by rw [rs_len]; exact Nat.mod_lt _ (Nat.pos_of_ne_zero s0)
   rw [us]
   refine obT (obT (o_divN (Nat.lt_trans hx (by decide)) (Nat.lt_trans s5 (by decide)) s0 σ) (obT (obT (o_modN s0 σ) (ix_at (map_at hxm iV 0) (Nat.lt_of_lt_of_le hxm (by rw [rs_len]; exact Nat.le_trans (Nat.le_of_lt s5) (by decide))) σ)) (cmp_lt ..))) ((tI_e ..).trans ?_)
   rw [← blt_dec]; rfl)) (fun x _ _ => (l28_p _ _ _).2) (by decide)
  rw [← e1] at hx
  exact as_run k27.1.1 ((evV_lc k27.1.2.1 σ).trans hx) (i3 _)
 have s29 : exStep cfg (low cfg CL 29) ⟨nL, w.q u m [nLs (rs M step), nLs (pl a)]⟩ (lwS 29) σ = some ((.next, w.q u m [nLs (rs M step), nLs (pl a), iV (wn M step)]), σ) := by
  obtain ⟨i1, i2⟩ := l29_c (cl := CL) (σ := σ) w u m (nLs (rs M step)) (nLs (pl a)) step us hst hm
  obtain ⟨w1, w2⟩ := ws_le hst
  have hx := r_lc (n := 27) k27.1.2.2 (lc_st (n := 26) (ys := wsN step) (chk := none) i1 (fun _ => true) (fun x => iV ((figs M).getD (9 + x) 0)) i2 (ws_it hst σ) rfl (fun x _ => (l29_p _ _).1) (fun x hx _ => (l29_p _ _).2.trans (by
   have h19 : 9 + x < (figs M).length := by unfold figs; rw [dg_len]; exact w1 x hx
   rw [hfi]
   refine obT (o_add ..) ?_
   rw [← Int.natCast_add]
   exact ix_at (map_at h19 iV 0) (Nat.lt_trans (w1 x hx) (by decide)) σ)) w2)
  rw [filt] at hx
  refine (l29 w u m _ _ hm).trans (obT (obT (obT hx rfl) (?_ : _ = some (iV (wn M step), σ))) rfl)
  have ew : wn M step = sumN ((wsN step).map fun x => (figs M).getD (9 + x) 0) := by
   unfold wn wsN
   rw [List.map_map]; rfl
  rw [ew]
  have := sum_list ((wsN step).map fun x => (figs M).getD (9 + x) 0) σ
  unfold nLs at this
  rw [List.map_map] at this
  exact this
 have s30 : exStep cfg (low cfg CL 29) ⟨nL, w.q u m [nLs (rs M step), nLs (pl a), iV (wn M step)]⟩ (lwS 30) σ = some ((.next, w.q u m [nLs (rs M step), nLs (pl a), iV (wn M step)]), σ) := by
  refine if_not (σ1 := σ) k27.2.1.1 k27.2.1.2.1 (r_or k27.2.1.2.2.1 ?_)
  rw [k27.2.1.2.2.2.1]
  refine r_or_f (σ1 := σ) ((l30_0 w u m _ _ _ hm).trans ?_) (r_or_f (σ1 := σ) ((l30_1 w u m _ _ _ hm).trans ?_) rfl)
  ·rw [um, emo]; exact cmp_neN _ _ rfl σ
  ·obtain ⟨i1, i2⟩ := l30_c (cl := CL) (σ := σ) w u m (nLs (rs M step)) (nLs (pl a)) (iV (wn M step)) hm
   have hx := r_lc (n := 25) k27.2.1.2.2.2.2 (lc_st (n := 24) (chk := none) i1 (fun p => !a.testBit p) iV i2 (iter_rngN (by decide) σ) rfl (fun x hx => (l30_p _ _).1.trans (obT (obT (in_nls ..) rfl) ((tI_e ..).trans (by
    rw [any_mem]
    have : decide (x ∈ pl a) = a.testBit x := by
     cases q : a.testBit x with
     | true => exact decide_eq_true (mem_pl.mpr ⟨List.mem_range.mp hx, q⟩)
     | false => exact decide_eq_false fun z => by rw [(mem_pl.mp z).2] at q; exact Bool.noConfusion q
    rw [this])))) (fun x _ _ => (l30_p _ _).2) (by decide))
   refine obT (obT hx (add_list (by rw [List.length_map, List.length_map]; exact Nat.le_trans (Nat.add_le_add (pl_len a) (hl_len a)) (by decide)) σ)) ?_
   rw [← List.map_append, up]
   exact ne_lst hσ fun v hv => by
    obtain ⟨t, _, rfl⟩ := List.mem_map.mp hv
    exact eq_int 4 _
 have s31 : exStep cfg (low cfg CL 29) ⟨nL, w.q u m [nLs (rs M step), nLs (pl a), iV (wn M step)]⟩ (lwS 31) σ = some ((.next, w.q u m [nLs (rs M step), nLs (pl a), iV (wn M step), nLs os]), σ) := by
  obtain ⟨i1, i2, i3⟩ := l31_c (cl := CL) (σ := σ) w u m (nLs (rs M step)) (nLs (pl a)) (iV (wn M step)) hm
  have hx := lc_st (n := 28) (ys := pl a) (chk := none) i1 (fun _ => true) (fun p => iV (GN M step (16 * (p % step) + p / step))) i2 rfl rfl (fun x _ => (l31_p _ _ _).1) (fun x hx _ => (l31_p _ _ _).2.trans (by
   have hx10 := (mem_pl.mp hx).1
   have hd16 : x / step < 16 := Nat.lt_of_le_of_lt (Nat.div_le_self ..) (Nat.lt_trans hx10 (by decide))
   have hc : coreP (rs M step) step x = true := by
    rw [e1] at hx; exact (List.mem_filter.mp hx).2
   have hcl : x / step < (cls M step (x % step)).length := by
    have := Nat.blt_eq.mp hc
    rw [(chk_i hst hM).2.1] at this
    have hq := map_at (l := List.range step) (i := x % step) (by rw [List.length_range]; exact Nat.mod_lt _ (Nat.pos_of_ne_zero s0)) (fun c => (cls M step c).length) 0
    rw [List.getD_eq_getElem?_getD, hq, List.getD_eq_getElem?_getD, List.getElem?_range (Nat.mod_lt _ (Nat.pos_of_ne_zero s0))] at this
    exact this
   obtain ⟨j1, j2⟩ := y31_c (cl := CL) (σ := σ) (nLs (pl M)) (iV step) (iV x)
   rw [ha, us]
   have hy := r_lc (n := 26) k27.2.2.2.2 (lc_st (n := 25) (ys := pl M) (chk := none) j1 (fun y => Nat.beq (y % step) (x % step)) iV j2 rfl rfl (fun y _ => (y31_p _ _ _).1.trans (obT (obT (o_modN s0 σ) (obT (o_modN s0 σ) (cmp_eq ..))) ((tI_e ..).trans (by
    congr 2
    by_cases q : y % step = x % step
    ·rw [q, beq_self_eq_true, Nat.beq_refl]
    ·rw [beq_eq_false_iff_ne.mpr (show ((y % step : Nat) : Int) ≠ ((x % step : Nat) : Int) from fun z => q (Int.ofNat.inj z))]
     exact (Bool.eq_false_iff.mpr fun z => q (Nat.eq_of_beq_eq_true z)).symm)))) (fun y _ _ => (y31_p _ _ _).2) (Nat.le_trans (pl_len M) (by decide)))
   refine obT hy (obT (o_divN (Nat.lt_trans hx10 (by decide)) (Nat.lt_trans s5 (by decide)) s0 σ) ?_)
   have hd : x / step < 16 := Nat.lt_of_le_of_lt (Nat.div_le_self ..) (Nat.lt_trans hx10 (by decide))
   have eg : GN M step (16 * (x % step) + x / step) = (cls M step (x % step)).getD (x / step) 0 := by
    unfold GN
    rw [(dm16 hd16).1, (dm16 hd16).2]
   rw [eg]
   exact ix_at (map_at hcl iV 0) (Nat.lt_trans hd (by decide)) σ)) (Nat.le_trans (pl_len a) (by decide))
  rw [filt] at hx
  have eo : (pl a).map (fun p => iV (GN M step (16 * (p % step) + p / step))) = os.map iV := by
   rw [k.o1, e3, List.map_map, List.map_map]; rfl
  rw [eo] at hx
  exact as_run k27.2.2.1 ((evV_lc k27.2.2.2.1 σ).trans hx) (i3 _)
 exact x_next _ _ _ _ _ s27 (x_next _ _ _ _ _ s28 (x_next _ _ _ _ _ s29 (x_next _ _ _ _ _ s30 (x_next _ _ _ _ _ s31 hk))))
noncomputable def X32 : Expr := caA 0 (asV (lwS 32))
noncomputable def X33 : Expr := caA 0 (asV (lwS 33))
noncomputable def Z34 (i : Nat) : Expr := boV i (rtV (lwS 34))
noncomputable def X34 : Expr := caA 0 (cmR (Z34 1))
noncomputable def n32 : List (Str × NameKind) := compNames (lcSc X32)
noncomputable def z32 (l : V) (m : List V) : Vars := ([("last", l)] : Vars) ++ (["k", "j"] : List Str).zip m
theorem k32 : isLc X32 ∧ isLc X33 ∧ isLc X34 ∧ rtV (lwS 34) = .BoolOp .And [Z34 0, Z34 1] (exPos (rtV (lwS 34))) ∧ ((lcG2 X32).is_async == 0) = true := ⟨by kernel_rfl, by kernel_rfl, by kernel_rfl, by kernel_rfl, by kernel_rfl⟩
section
variable (w : Wv) (u : E7) (m : List V)
theorem l32 (r c v l : V) (hm : m3 m) : exStep cfg (low cfg cl 29) ⟨nL, w.q u m [r, c, v, l]⟩ (lwS 32) σ = ob (ob (ob ((low cfg cl 28).ev ⟨nL, w.q u m [r, c, v, l]⟩ X32 σ) fun v => M.pure [v]) fun vs => callB "len" vs) fun z => M.bind (th false z) fun z => nx (w.q u m [r, c, v, l, z]) := by
 obtain ⟨e, t, f, c', x, y, g, v'⟩ := w
 cases f <;> rcases hm with rfl | ⟨i, j, k, rfl⟩ <;> kernel_rfl
theorem l32_c (r c v : V) (l : List V) (hm : m3 m) : lc2Ok ⟨nL, w.q u m [r, c, v, .list l]⟩ X32 ∧ compVars ⟨nL, w.q u m [r, c, v, .list l]⟩ (lcSc X32) = z32 (.list l) [] ∧ (low cfg cl 27).ev ⟨nL, w.q u m [r, c, v, .list l]⟩ (lcG X32).iter σ = ob (ob (callB "len" [.list l] σ) fun v => M.pure [v]) fun vs => callT "range" vs := by
 obtain ⟨e, t, f, c', x, y, g, v'⟩ := w
 cases f <;> rcases hm with rfl | ⟨i, j, k, rfl⟩ <;> exact ⟨by kernel_rfl, by kernel_rfl, by kernel_rfl⟩
noncomputable def m5 (m : List V) : Prop := m = [] ∨ (∃ x, m = [x]) ∨ Ex2 fun x y => m = [x, y]
theorem z_set (l k : V) (n : List V) (h : m5 n) : setTo (low cfg cl 26) ⟨n32, z32 l n⟩ (lcG X32).target k σ = some (z32 l (k :: n.drop 1), σ) := by
 rcases h with rfl | ⟨x, rfl⟩ | ⟨x, y, rfl⟩ <;> kernel_rfl
theorem z_it (l k : V) (n : List V) (h : m2 n) : (low cfg cl 26).ev ⟨n32, z32 l (k :: n)⟩ (lcG2 X32).iter σ = callT "range" [k] σ := by
 rcases h with rfl | ⟨x, rfl⟩ <;> kernel_rfl
theorem z_in (l k j : V) (n : List V) (h : m2 n) : setTo (low cfg cl 25) ⟨n32, z32 l (k :: n)⟩ (lcG2 X32).target j σ = some (z32 l [k, j], σ) := by
 rcases h with rfl | ⟨x, rfl⟩ <;> kernel_rfl
theorem z_t (l k j : V) : tests (low cfg cl 25) ⟨n32, z32 l [k, j]⟩ (lcG2 X32).ifs σ = ob (ob (indexV l j σ) fun a => M.bind (indexV l k) fun b => cmpV cfg .Gt a b) tI ∧ (low cfg cl 25).ev ⟨n32, z32 l [k, j]⟩ (lcElt X32) σ = some (iV 1, σ) := ⟨by kernel_rfl, by kernel_rfl⟩
theorem l33 (r c v l n : V) (hm : m3 m) : exStep cfg (low cfg cl 29) ⟨nL, w.q u m [r, c, v, l, n]⟩ (lwS 33) σ = ob (ob (ob ((low cfg cl 28).ev ⟨nL, w.q u m [r, c, v, l, n]⟩ X33 σ) fun v => M.pure [v]) fun vs => callMth cfg (.str ⟨#[]⟩) "join" vs) fun z => M.bind (th false z) fun z => nx (w.q u m [r, c, v, l, n, z]) := by
 obtain ⟨e, t, f, c', x, y, g, v'⟩ := w
 cases f <;> rcases hm with rfl | ⟨i, j, k, rfl⟩ <;> kernel_rfl
theorem l33_c (r c v l n : V) (ch : Nat → Nat) (hm : m3 m) : LcK cfg cl 26 ⟨nL, w.q u m [r, c, v, l, n]⟩ σ X33 (bdO ch) [] (fun x => oPa (bdO ch x)) ∧ (low cfg cl 27).ev ⟨nL, w.q u m [r, c, v, l, n]⟩ (lcG X33).iter σ = some (u.b, σ) := by
 obtain ⟨e, t, f, c', x, y, g, v'⟩ := w
 cases f <;> rcases hm with rfl | ⟨i, j, k, rfl⟩ <;> exact ⟨⟨by kernel_rfl, by kernel_rfl, fun _ => by kernel_rfl, fun _ _ => by kernel_rfl⟩, by kernel_rfl⟩
theorem l33_p (a b : V) : tests (low cfg cl 26) ⟨compNames (lcSc X33), oPa (.tup [a, b])⟩ (lcG X33).ifs σ = some (true, σ) ∧ (low cfg cl 26).ev ⟨compNames (lcSc X33), oPa (.tup [a, b])⟩ (lcElt X33) σ = cl "map_table_b3" [b] [] σ := ⟨by kernel_rfl, by kernel_rfl⟩
theorem l34 (n : List V) : exStep cfg (low cfg cl 29) ⟨nL, w.q u m n⟩ (lwS 34) σ = ob ((low cfg cl 29).ev ⟨nL, w.q u m n⟩ (rtV (lwS 34)) σ) fun v => rt v (w.q u m n) := by kernel_rfl
theorem l34_0 (r c v l z : V) (pa cr : Int) (hu : u.pa = .int pa) (hm : m3 m) : (low cfg cl 28).ev ⟨nL, w.q u m [r, c, v, l, .int cr, z]⟩ (Z34 0) σ = some (.bool (pa.fmod 2 == cr.fmod 2), σ) := by
 obtain ⟨e, t, f, c', x, y, g, v'⟩ := w
 obtain ⟨st, sz, b, p', fr, mo', pa'⟩ := u
 cases hu
 cases f <;> rcases hm with rfl | ⟨i, j, k, rfl⟩ <;> kernel_rfl
theorem l34_1 (r c v l n z : V) (hm : m3 m) : (low cfg cl 28).ev ⟨nL, w.q u m [r, c, v, l, n, z]⟩ (Z34 1) σ = ob (ob (ob ((low cfg cl 26).ev ⟨nL, w.q u m [r, c, v, l, n, z]⟩ X34 σ) fun v => M.pure [v]) fun vs => callMth cfg (.str ⟨#[]⟩) "join" vs) fun v => M.bind (cmpV cfg .Eq z v) fun t => M.pure (.bool t) := by
 obtain ⟨e, t, f, c', x, y, g, v'⟩ := w
 cases f <;> rcases hm with rfl | ⟨i, j, k, rfl⟩ <;> kernel_rfl
noncomputable def cSg (g : V) : Vars := [("signs", g)]
noncomputable def oSg (g x : V) : Vars := [("signs", g), ("old", x)]
theorem l34_c (r c v l n z : V) (hm : m3 m) : LcK cfg cl 24 ⟨nL, w.q u m [r, c, v, l, n, z]⟩ σ X34 iV (cSg w.e.g) (fun x => oSg w.e.g (iV x)) ∧ (low cfg cl 25).ev ⟨nL, w.q u m [r, c, v, l, n, z]⟩ (lcG X34).iter σ = some (l, σ) := by
 obtain ⟨e, t, f, c', x, y, g, v'⟩ := w
 cases f <;> rcases hm with rfl | ⟨i, j, k, rfl⟩ <;> exact ⟨⟨by kernel_rfl, by kernel_rfl, fun _ => by kernel_rfl, fun _ _ => by kernel_rfl⟩, by kernel_rfl⟩
theorem l34_p (g x : V) : tests (low cfg cl 24) ⟨compNames (lcSc X34), oSg g x⟩ (lcG X34).ifs σ = some (true, σ) ∧ (low cfg cl 24).ev ⟨compNames (lcSc X34), oSg g x⟩ (lcElt X34) σ = ob (indexV g x σ) fun v => indexV v (iV 1) := ⟨by kernel_rfl, by kernel_rfl⟩
end
theorem r_andv {n : Nat} {e : En} {X x0 x1 : Expr} {p : Pos} {σ1 : Sto} {y : Option (V × Sto)} (h : X = .BoolOp .And [x0, x1] p) (h0 : (low cfg cl n).ev e x0 σ = some (.bool true, σ1)) (h1 : (low cfg cl n).ev e x1 σ1 = y) : (low cfg cl (n + 1)).ev e X σ = y :=
 (evAt h).trans (obT h0 h1)
theorem join_one : ∀ l : List Nat, joinV (l.map one) = some l
 | [] => rfl
 | c :: l => by rw [List.map_cons, one, joinV, join_one l]; rfl
noncomputable def stV (l : List Nat) : V := .str ⟨l.toArray⟩
theorem mth_join {l : List Nat} (h : l.length ≤ 65536) (σ : Sto) : callMth cfg (.str ⟨#[]⟩) "join" [.list (l.map one)] σ = some (stV l, σ) := by
 have e : callMth cfg (.str ⟨#[]⟩) "join" [.list (l.map one)] = M.bind (M.of (joinV (l.map one))) (fun y => if y.length ≤ 65536 then M.pure (.str ⟨y.toArray⟩) else M.fail) := by kernel_rfl
 rw [e, join_one, bind_app, of_some, ob_some, if_pos h]; rfl
theorem eq_str (a : Str) (σ : Sto) : cmpV cfg .Eq (.str a) (.str a) σ = some (true, σ) := by
 have e : cmpV cfg .Eq (.str a) (.str a) = M.pure (a == a) := by kernel_rfl
 rw [e, beq_self_eq_true]; rfl
theorem inv_snoc (x : Nat) : ∀ l : List Nat, inv (l ++ [x]) = inv l + l.countP fun y => Nat.blt x y
 | [] => rfl
 | z :: l => by
  show (l ++ [x]).countP (fun y => Nat.blt y z) + inv (l ++ [x]) = l.countP (fun y => Nat.blt y z) + inv l + (z :: l).countP fun y => Nat.blt x y
  rw [inv_snoc x l, List.countP_append, List.countP_cons, List.countP_cons, List.countP_nil]; lia
theorem take_range (os : List Nat) : ∀ k, k ≤ os.length → os.take k = (List.range k).map fun j => os.getD j 0
 | 0, _ => rfl
 | k + 1, h => by
  rw [List.take_add_one, take_range os k (Nat.le_of_succ_le h), List.range_succ, List.map_append, List.getElem?_eq_getElem h, List.map_cons, List.getD_eq_getElem?_getD, List.getElem?_eq_getElem h]; rfl
theorem inv_take {os : List Nat} {k : Nat} (h : k < os.length) : inv (os.take (k + 1)) = inv (os.take k) + ((List.range k).filter fun j => Nat.blt (os.getD k 0) (os.getD j 0)).length := by
 have e : os.take (k + 1) = os.take k ++ [os.getD k 0] := by
  rw [List.take_add_one, List.getElem?_eq_getElem h, List.getD_eq_getElem?_getD, List.getElem?_eq_getElem h]; rfl
 rw [e, inv_snoc, take_range os k (Nat.le_of_lt h), List.countP_map, List.countP_eq_length_filter]; rfl
structure I32 (os : List Nat) (σ : Sto) (ys : List Nat) (vars : Vars) (acc : List V) (s : Sto) : Prop where
 s : s = σ
 v : ∃ n, m5 n ∧ vars = z32 (nLs os) n
 d : ∃ done, List.range os.length = done ++ ys ∧ acc.length = inv (os.take done.length) ∧ acc.length ≤ 10 * done.length
theorem law_32 {w : Wv} {u : E7} {m : List V} {os : List Nat} (hm : m3 m) (hl : os.length ≤ 10) (r c v : V) : exStep cfg (low cfg CL 29) ⟨nL, w.q u m [r, c, v, nLs os]⟩ (lwS 32) σ = some ((.next, w.q u m [r, c, v, nLs os, iV (inv os)]), σ) := by
 obtain ⟨i1, i2, i3⟩ := l32_c (cl := CL) (σ := σ) w u m r c v (os.map iV) hm
 have h62 : ∀ k, k < os.length → k < 2 ^ 62 := fun k hk => Nat.lt_trans (Nat.lt_of_lt_of_le hk hl) (by decide)
 have h60 : ∀ k, k ≤ os.length → k < 2 ^ 60 := fun k hk => Nat.lt_of_le_of_lt (Nat.le_trans hk hl) (by decide)
 obtain ⟨vars', acc', σ', h1, e1, _, done, e3, e4, e5⟩ := lc2_run (C := cfg) (cl := CL) (n := 26) (X := X32) (e := ⟨nL, w.q u m [r, c, v, nLs os]⟩) (σ := σ) (it := .rng 0 os.length 1) (chk := none) (ys := List.range os.length) iV (I32 os σ)
  i1 (i3.trans (obT (obT (len_list (by rw [List.length_map]; exact Nat.le_trans hl (by decide)) σ) rfl) (by rw [List.length_map]; exact range1N _ σ))) (iter_rngN (h60 _ (Nat.le_refl _)) σ)
  (fun _ _ _ _ _ => rfl)
  (fun y ys vars acc s h => by
   obtain ⟨rfl, ⟨n, hn, rfl⟩, done, e3, e4, e5⟩ := h
   have hg : (List.range os.length)[done.length]? = some y := by rw [e3, List.getElem?_append_right (Nat.le_refl _), Nat.sub_self]; rfl
   have hd : done.length < os.length := by
    have := (List.getElem?_eq_some_iff.mp hg).1
    rwa [List.length_range] at this
   rw [List.getElem?_range hd] at hg
   have hy : done.length = y := Option.some.inj hg
   rw [hy] at e4 e5 hd
   have hn2 : m2 (n.drop 1) := by
    rcases hn with rfl | ⟨x, rfl⟩ | ⟨x, z, rfl⟩
    ·exact .inl rfl
    ·exact .inl rfl
    ·exact .inr ⟨z, rfl⟩
   obtain ⟨v2, g2, h4⟩ := inner_run (C := cfg) (cl := CL) (n := 25) (names := n32) (elt := lcElt X32) (g2 := lcG2 X32) (it := .rng 0 y 1) (ys := List.range y) (chk := none) (vars := z32 (nLs os) (iV y :: n.drop 1)) (acc := acc) (σ := s) k32.2.2.2.2 iV (fun j => Nat.blt (os.getD y 0) (os.getD j 0)) (fun _ => iV 1) (fun j => z32 (nLs os) [iV y, iV j]) (fun vs => ∃ n, m2 n ∧ vs = z32 (nLs os) (iV y :: n))
    (iter_rngN (h60 y (Nat.le_of_lt hd)) s) rfl (fun j _ vs hvs => by
     obtain ⟨n, hn, rfl⟩ := hvs
     exact z_in _ _ _ _ hn) ⟨_, hn2, rfl⟩ (fun j _ => ⟨_, .inr ⟨_, rfl⟩, rfl⟩) (fun j hj => by
     have hj := Nat.lt_trans (List.mem_range.mp hj) hd
     have x1 : indexV (nLs os) (iV j) s = some (iV (os.getD j 0), s) := ix_at (map_at hj iV 0) (h62 j hj) s
     have x2 : indexV (nLs os) (iV y) s = some (iV (os.getD y 0), s) := ix_at (map_at hd iV 0) (h62 y hd) s
     rw [(z_t _ _ _).1, x1, ob_some, bind_app, x2, ob_some, iV, iV, cmp_gt, ob_some, tI_e, blt_dec]) (fun j _ _ => (z_t _ _ _).2) (by rw [List.length_range]; lia)
   refine ⟨z32 (nLs os) (iV y :: n.drop 1), .rng 0 y 1, _, v2, acc ++ ((List.range y).filter fun j => Nat.blt (os.getD y 0) (os.getD j 0)).map (fun _ => iV 1), s, s, z_set _ _ _ hn, (z_it _ _ _ hn2).trans (range1N _ s), iter_rngN (h60 y (Nat.le_of_lt hd)) s, h4, rfl, ?_, done ++ [y], by rw [e3, List.append_assoc]; rfl, ?_, ?_⟩
   ·obtain ⟨n', hn', rfl⟩ := g2
    refine ⟨iV y :: n', ?_, rfl⟩
    rcases hn' with rfl | ⟨x, rfl⟩
    ·exact .inr (.inl ⟨_, rfl⟩)
    ·exact .inr (.inr ⟨_, _, rfl⟩)
   ·rw [List.length_append, List.length_append, List.length_map, hy, List.length_singleton, inv_take hd, e4]
   ·have := List.length_filter_le (fun j => Nat.blt (os.getD y 0) (os.getD j 0)) (List.range y)
    rw [List.length_range] at this
    rw [List.length_append, List.length_append, List.length_map, hy, List.length_singleton]; lia)
  ⟨rfl, ⟨[], .inl rfl, i2⟩, [], rfl, rfl, Nat.zero_le _⟩
 subst e1
 rw [List.append_nil] at e3
 have ed : done.length = os.length := by rw [← e3, List.length_range]
 rw [ed, List.take_length] at e4
 rw [ed] at e5
 refine (l32 w u m _ _ _ _ hm).trans (obT (obT (obT (r_lc (n := 27) k32.1 h1) rfl) (len_list (by lia) σ')) ?_)
 rw [e4]; rfl
theorem law_34 {w : Wv} {u : E7} {m : List V} {cs os : List Nat} {M a pa : Nat} (hcs : cs.length = 11) (hM : Mask cs M) (hm : m3 m) (hl : os.length ≤ 10) (hp : ∀ o ∈ os, o < 10 ∧ M.testBit o = true) (hpa : pa % 2 = inv os % 2) (up : u.pa = iV pa) (ub : u.b = .lst 4) (hg : w.e.g = .list (sgL cs)) (hlo : (pl a).length = os.length) (hσ : σ[4]? = some (bR (fun o => sgC (cs.getD o 0)) a os)) (r c v : V) :
  ∃ vars, exAll cfg (low cfg CL 29) ⟨nL, w.q u m [r, c, v, nLs os]⟩ [lwS 32, lwS 33, lwS 34] σ = some ((.ret (.bool true), vars), σ) := by
 have odd : ∀ o ∈ os, cs.getD o 0 % 2 ≠ 0 := fun o ho => by
  obtain ⟨h1, h2⟩ := hp o ho
  rw [hM.bit o h1] at h2
  have := Nat.eq_of_beq_eq_true h2
  lia
 have hl6 : os.length ≤ 65536 := Nat.le_trans hl (by decide)
 have s33 : exStep cfg (low cfg CL 29) ⟨nL, w.q u m [r, c, v, nLs os, iV (inv os)]⟩ (lwS 33) σ = some ((.next, w.q u m [r, c, v, nLs os, iV (inv os), stV (os.map fun o => mtC (cs.getD o 0))]), σ) := by
  obtain ⟨i1, i2⟩ := l33_c (cl := CL) (σ := σ) w u m r c v (nLs os) (iV (inv os)) (fun o => sgC (cs.getD o 0)) hm
  have hx := r_lc (n := 27) k32.2.1 (lc_st (n := 26) (ys := (pl a).zip os) (chk := some 4) i1 (fun _ => true) (fun x => one (mtC (cs.getD x.2 0))) (i2.trans (by rw [ub])) (iter_lst hσ) (still_some hσ) (fun x _ => (l33_p _ _).1) (fun x hx _ => (l33_p _ _).2.trans (b3_sg (odd x.2 (List.of_mem_zip (a := x.1) (b := x.2) hx).2) σ)) (by rw [List.length_zip, hlo, Nat.min_self]; exact hl6))
  rw [filt] at hx
  have e : ((pl a).zip os).map (fun x => one (mtC (cs.getD x.2 0))) = (os.map fun o => mtC (cs.getD o 0)).map one := by
   have : ((pl a).zip os).map (·.2) = os := List.map_snd_zip (Nat.le_of_eq hlo.symm)
   conv => rhs; rw [← this]
   rw [List.map_map, List.map_map]; rfl
  rw [e] at hx
  exact (l33 w u m _ _ _ _ _ hm).trans (obT (obT (obT hx rfl) (mth_join (by rw [List.length_map]; exact hl6) σ)) rfl)
 refine ⟨_, x_next _ _ _ _ _ (law_32 hm hl r c v) (x_next _ _ _ _ _ s33 (x_ret _ _ _ _ _ ((l34 w u m _).trans (obT (a := .bool true) (s := σ) (r_andv (n := 28) (σ1 := σ) k32.2.2.2.1 ?_ ?_) rfl))))⟩
 ·refine (l34_0 w u m r c v (nLs os) (stV (os.map fun o => mtC (cs.getD o 0))) pa (inv os) up hm).trans ?_
  rw [show ((pa : Nat) : Int).fmod 2 = ((pa % 2 : Nat) : Int) from fmod_nat pa 2, show ((inv os : Nat) : Int).fmod 2 = ((inv os % 2 : Nat) : Int) from fmod_nat (inv os) 2, hpa, beq_self_eq_true]
 ·obtain ⟨i1, i2⟩ := l34_c (cl := CL) (σ := σ) w u m r c v (nLs os) (iV (inv os)) (stV (os.map fun o => mtC (cs.getD o 0))) hm
  have hx := r_lc (n := 25) k32.2.2.1 (lc_st (n := 24) (ys := os) (chk := none) i1 (fun _ => true) (fun o => one (mtC (cs.getD o 0))) i2 rfl rfl (fun x _ => (l34_p _ _).1) (fun x hx _ => (l34_p _ _).2.trans (by
   have hx10 := (hp x hx).1
   have h1 : (sgL cs)[x]? = some (sgV (cs.getD x 0)) := by
    unfold sgL
    rw [List.getElem?_map, List.getElem?_take, if_pos hx10, List.getD_eq_getElem?_getD, List.getElem?_eq_getElem (by lia)]; rfl
   rw [hg]
   refine obT (ix_at h1 (Nat.lt_trans hx10 (by decide)) σ) ?_
   unfold sgV
   rw [if_neg (odd x hx)]
   exact ix_at (i := 1) (xs := [_, _]) rfl (by decide) σ)) hl6)
  rw [filt] at hx
  have e : os.map (fun o => one (mtC (cs.getD o 0))) = (os.map fun o => mtC (cs.getD o 0)).map one := by rw [List.map_map]; rfl
  rw [e] at hx
  exact (l34_1 w u m _ _ _ _ _ _ hm).trans (obT (obT (obT hx rfl) (mth_join (by rw [List.length_map]; exact hl6) σ)) (by rw [bind_app, stV, eq_str, ob_some]; rfl))
end Mine.Internal.L01
namespace Mine.Internal
open PySem PyProof.Rows PySem.W PySem.SeqAt PySem.Calls
theorem int_of {x : WData} (h : WShape.has [] x .int = true) : ∃ i, x = .int i := by
 cases x with
 | int i => exact ⟨i, rfl⟩
 | _ => exact nomatch (show false = true from h)
theorem ints_of : ∀ {xs : List WData}, WShape.hasItems [] xs .int = true → ∃ is : List Int, xs = is.map WData.int
 | [], _ => ⟨[], rfl⟩
 | x :: xs, h => by
  obtain ⟨h1, h2⟩ := Bool.and_eq_true_iff.mp (show (WShape.has [] x .int && WShape.hasItems [] xs .int) = true from h)
  obtain ⟨is, rfl⟩ := ints_of h2
  obtain ⟨i, rfl⟩ := int_of h1
  exact ⟨i :: is, rfl⟩
theorem list_of {x : WData} (h : WShape.has [] x (.list .int) = true) : ∃ is : List Int, x = .list (is.map WData.int) := by
 cases x with
 | list xs =>
  have h : (WShape.hasItems [] xs .int || false) = true := h
  rw [Bool.or_false] at h
  obtain ⟨is, rfl⟩ := ints_of h
  exact ⟨is, rfl⟩
 | _ => exact nomatch (show false = true from h)
theorem pre_of {l : OpenLaw} (hm : l.most = some 63) (hbd : l.bound = none) (args : List WData) (h : l.row.toRowW.claim.pre args = true) : ∃ xs : List Int, args = [.list (xs.map WData.int)] ∧ xs.length ≤ 63 := by
 obtain ⟨h1, h2⟩ := Bool.and_eq_true_iff.mp h
 have h1 : WShape.hasAll [] args [.list .int] = true := h1
 have h2 : l.pre.holds [] { args := args } = true := h2
 match args, h1 with
 | [x], h1 =>
  obtain ⟨is, rfl⟩ := list_of (Bool.and_eq_true_iff.mp (show (WShape.has [] x (.list .int) && true) = true from h1)).1
  refine ⟨is, rfl, ?_⟩
  unfold OpenLaw.pre at h2
  rw [hm, hbd] at h2
  by_cases q : is.length ≤ 63
  ·exact q
  ·have q' : (63 : Int) < (is.length : Int) := by lia
   have e : less? (WData.int 63) (WData.int (is.length : Int)) = some (decide ((63 : Int) < is.length)) := rfl
   rw [decide_eq_true q'] at e
   simp [WTm.holds, WTm.value, e] at h2
 | [], h1 => exact nomatch (show false = true from h1)
 | x :: _ :: _, h1 => exact nomatch (Bool.and_eq_true_iff.mp (show (WShape.has [] x (.list .int) && false) = true from h1)).2
end Mine.Internal
namespace Mine.Internal.L01
open PySem PyProof.Rows PySem.W PySem.SeqAt PySem.Calls PySem.Challenge Mine.Internal
theorem imps : importedModules P.main.body = [] := top.imps
theorem lawWell : rw_ul0017_01.wellSaid = true := by kernel_rfl
theorem holds_of {n : Nat} (hn : n ≤ 590) (law : ∀ xs : List Int, xs.length ≤ 63 → ∃ σ, (tie cfg n).call "law" [.list (xs.map V.int)] [] [] = some (.bool true, σ)) : rw_ul0017_01.Holds := by
 refine holds_law lawWell fun said => ?_
 refine ⟨said, ⟨[.list []], by decide +kernel, by decide +kernel⟩, ?_⟩
 exact row_holds (l := rw_ul0017_01) (cfg := cfg) (n := n) rfl rfl top cok (no_imports imps noNumpy) defd plain well ⟨rfl, rfl, rfl, rfl, rfl, by kernel_rfl⟩ ⟨[.list []], by decide +kernel, by decide +kernel⟩ hn (pre_of rfl rfl) law
end Mine.Internal.L01
namespace Mine.Internal.L01
open PySem PyProof.Rows PySem.W PySem.SeqAt PySem.Calls PySem.Challenge Mine.Internal
variable {σ : Sto}
theorem law_body : bodyOf "law" = [lwS 0, lwS 1, lwS 2, lwS 3, lwS 4, lwS 5, lwS 6, lwS 7, lwS 8, lwS 9, lwS 10, lwS 11, lwS 12, lwS 13, lwS 14, lwS 15, lwS 16, lwS 17, lwS 18, lwS 19, lwS 20, lwS 21, lwS 22, lwS 23, lwS 24, lwS 25, lwS 26, lwS 27, lwS 28, lwS 29, lwS 30, lwS 31, lwS 32, lwS 33, lwS 34] := by kernel_rfl
theorem zip_self {α : Type} : ∀ l : List α, l.zip l = l.map fun x => (x, x)
 | [] => rfl
 | x :: l => congrArg ((x, x) :: ·) (zip_self l)
theorem bds_eq (cs : List Nat) (M : Nat) : (bds cs M).map bdV = bR (fun o => sgC (cs.getD o 0)) M (pl M) := by
 unfold bds bR
 rw [zip_self, List.map_map, List.map_map]; rfl
theorem sumN_le {B : Nat} : ∀ l : List Nat, (∀ c ∈ l, c ≤ B) → sumN l ≤ l.length * B
 | [], _ => Nat.zero_le _
 | x :: l, h => by
  have h1 := sumN_le l fun c hc => h c (List.mem_cons_of_mem _ hc)
  have h2 := h x List.mem_cons_self
  rw [sumN, List.length_cons, Nat.succ_mul, Nat.add_comm]; exact Nat.add_le_add h1 h2
theorem law_tail {w : Wv} {cs : List Nat} {M R step : Nat} {τ : List V × List V × List V × List V} (hst : step = 2 ∨ step = 3 ∨ step = 4) (hcs : cs.length = 11) (hM : Mask cs M) (hr : w.e.r = iV R) (hR : R < 2 ^ 256) (ha : w.e.a = nLs (pl M)) (hg : w.e.g = .list (sgL cs)) (hn : w.t.n = iV (numN M)) (hfi : w.t.f = nLs (figs M)) :
  Ex2 fun vars σ' => exAll cfg (low cfg CL 29) ⟨nL, hd26 w M step M 0 0 []⟩ [lwS 26, lwS 27, lwS 28, lwS 29, lwS 30, lwS 31, lwS 32, lwS 33, lwS 34] (st6 τ (bR (fun o => sgC (cs.getD o 0)) M (pl M)) (sR M)) = some ((.ret (.bool true), vars), σ') := by
 obtain ⟨a, os, mo, pa, m, k, hf, hm, h26⟩ := law_26 (w := w) (ch := fun o => sgC (cs.getD o 0)) (τ := τ) hst hr hR hM.lt
 have hlo : (pl a).length = os.length := by rw [k.o1, List.length_map, crN_len]
 have hl : os.length ≤ 10 := hlo ▸ pl_len a
 obtain ⟨vars, h34⟩ := law_34 (σ := st6 τ (bR (fun o => sgC (cs.getD o 0)) a os) (sR a)) (u := ⟨iV step, iV (pl M).length, .lst 4, .lst 5, nLs (frN a step), iV mo, iV pa⟩) hcs hM hm hl (fun o ho => mem_pl.mp (k.pm.mem_iff.mp ho)) k.pa1 rfl rfl hg hlo rfl (nLs (rs M step)) (nLs (pl a)) (iV (wn M step))
 refine ⟨vars, st6 τ (bR (fun o => sgC (cs.getD o 0)) a os) (sR a), x_next _ _ _ _ _ h26 ?_⟩
 have e := q_nil w ⟨iV step, iV (pl M).length, .lst 4, .lst 5, nLs (frN a step), iV mo, iV pa⟩ m
 have e2 : hd26 w M step a mo pa m = w.q ⟨iV step, iV (pl M).length, .lst 4, .lst 5, nLs (frN a step), iV mo, iV pa⟩ m [] := e.symm
 rw [e2]
 exact law_31 hst hM.lt hm k hf hn hfi ha rfl rfl rfl rfl h34
theorem law_mid {cs : List Nat} {M R : Nat} {s x : V} {c0 : List V} (hcs : cs.length = 11) (hM : Mask cs M) (hR : R < 2 ^ 256) :
  Ex2 fun vars σ' => exAll cfg (low cfg CL 29) ⟨nL, (E10.mk s (.lst 0) (iV R) (.list (sgL cs)) (nLs (pl M)) (nLs (hl M)) x (.list ((spl (came0 M)).map itV)) (.lst 3) (iV 0)).z []⟩ [lwS 10, lwS 11, lwS 12, lwS 13, lwS 14, lwS 15, lwS 16, lwS 17, lwS 18, lwS 19, lwS 20, lwS 21, lwS 22, lwS 23, lwS 24, lwS 25, lwS 26, lwS 27, lwS 28, lwS 29, lwS 30, lwS 31, lwS 32, lwS 33, lwS 34] ([c0, (hkP M).map hkV, (hkM M).map hkV] ++ [[]]) = some ((.ret (.bool true), vars), σ') := by
 have hll : (spl (came0 M)).length ≤ 50 := by rw [(spl_perm _).length_eq]; exact came0_len M
 generalize he : E10.mk s (.lst 0) (iV R) (.list (sgL cs)) (nLs (pl M)) (nLs (hl M)) x (.list ((spl (came0 M)).map itV)) (.lst 3) (iV 0) = e
 obtain ⟨m, hm, s10⟩ := law_10 (e := e) (R := R) (o := decide (R % 2 = 1)) (τ := [c0, (hkP M).map hkV, (hkM M).map hkV]) (l := spl (came0 M)) (by rw [← he]) rfl (by rw [← he]; rfl) (by rw [← he]) (by rw [← he]) (came_nz M) (Nat.le_trans hll (by decide))
 generalize hf : e.bor (pos (spl (came0 M))).length = f at s10
 have fr : f.r = iV R := by rw [← hf, ← he]; rfl
 have fs : f.sh = .lst 3 := by rw [← hf, ← he]; rfl
 have fb : f.bo = iV (pos (spl (came0 M))).length := by rw [← hf]; rfl
 have fc : f.ca = .list ((spl (came0 M)).map itV) := by rw [← hf, ← he]; rfl
 have fa : f.a = nLs (pl M) := by rw [← hf, ← he]; rfl
 have fh : f.b = nLs (hl M) := by rw [← hf, ← he]; rfl
 have fg : f.g = .list (sgL cs) := by rw [← hf, ← he]; rfl
 -- one statement after the other, from the end
 have tail : ∀ v h w, Ex2 fun vars σ' => exAll cfg (low cfg CL 29) ⟨nL, (f.came v).y m [h, iV (numN M), iV (prodN M), nLs (figs M), w]⟩ [lwS 18, lwS 19, lwS 20, lwS 21, lwS 22, lwS 23, lwS 24, lwS 25, lwS 26, lwS 27, lwS 28, lwS 29, lwS 30, lwS 31, lwS 32, lwS 33, lwS 34] ([c0, (hkP M).map hkV, (hkM M).map hkV] ++ [(shelf (decide (R % 2 = 1)) (spl (came0 M))).map itV]) = some ((.ret (.bool true), vars), σ') := fun v h w => by
  obtain ⟨b, c, p, q, g, u, s18⟩ := law_18 (σ := [c0, (hkP M).map hkV, (hkM M).map hkV] ++ [(shelf (decide (R % 2 = 1)) (spl (came0 M))).map itV]) (o := decide (R % 2 = 1)) (e := f.came v) (t := ⟨h, iV (numN M), iV (prodN M), nLs (figs M), w⟩) hM.lt hm fs fb rfl rfl
  have hst : 2 + R % 3 = 2 ∨ 2 + R % 3 = 3 ∨ 2 + R % 3 = 4 := (show ∀ z, z < 3 → 2 + z = 2 ∨ 2 + z = 3 ∨ 2 + z = 4 by decide) _ (Nat.mod_lt _ (by decide))
  obtain ⟨vars, σ', ht⟩ := law_tail (w := ⟨f.came v, ⟨h, iV (numN M), iV (prodN M), nLs (figs M), w⟩, b, c, p, q, g, u⟩) (τ := (c0, (hkP M).map hkV, (hkM M).map hkV, (shelf (decide (R % 2 = 1)) (spl (came0 M))).map itV)) hst hcs hM fr hR fa fg rfl rfl
  refine ⟨vars, σ', x_next _ _ _ _ _ s18 ?_⟩
  refine law_25 (w := ⟨f.came v, ⟨h, iV (numN M), iV (prodN M), nLs (figs M), w⟩, b, c, p, q, g, u⟩) (M := M) hcs fr fa fh fg rfl ?_
  rw [bds_eq]
  exact ht
 obtain ⟨v, h, h13⟩ := law_13 (σ := [c0, (hkP M).map hkV, (hkM M).map hkV] ++ [(shelf (decide (R % 2 = 1)) (spl (came0 M))).map itV]) hm fr rfl fs rfl fc hll
 obtain ⟨w, h17⟩ := law_17 (σ := [c0, (hkP M).map hkV, (hkM M).map hkV] ++ [(shelf (decide (R % 2 = 1)) (spl (came0 M))).map itV]) (e := f.came v) hM.lt hm fa fh h
 obtain ⟨vars, σ', ht⟩ := tail v h w
 exact ⟨vars, σ', x_next _ _ _ _ _ s10 (h13 _ _ (h17 _ _ ht))⟩
theorem law_ok {xs : List Int} (hl : xs.length ≤ 63) : ∃ σ, (tie cfg 110).call "law" [.list (xs.map V.int)] [] [] = some (.bool true, σ) := by
 obtain ⟨ci, h11, hb, hc⟩ := ce_call hl
 have e : ci.map V.int = (ci.map Int.toNat).map iV := by
  rw [List.map_map]
  refine List.map_congr_left fun c hc => ?_
  show V.int c = V.int ((c.toNat : Nat) : Int)
  rw [Int.toNat_of_nonneg (hb c hc).1]
 have hc := hc 70 (by decide)
 rw [e] at hc
 have hcs : (ci.map Int.toNat).length = 11 := by rw [List.length_map]; exact h11
 have hcb : ∀ c ∈ ci.map Int.toNat, c ≤ 70000000 := fun c hc => by
  obtain ⟨z, hz, rfl⟩ := List.mem_map.mp hc
  have := (hb z hz).2
  lia
 generalize ci.map Int.toNat = cs at hc hcs hcb
 obtain ⟨M, hM⟩ := mask_of cs
 have hR : sumN cs < 2 ^ 256 := Nat.lt_of_le_of_lt (sumN_le cs hcb) (by rw [hcs]; decide)
 obtain ⟨x, s5⟩ := law_5 (σ := [cs.map iV]) (s := .list (xs.map V.int)) (c := .lst 0) (r := iV (sumN cs)) (a := nLs (pl M)) hcs hM
 obtain ⟨vars, σ', hm⟩ := law_mid (s := .list (xs.map V.int)) (x := x) (c0 := cs.map iV) hcs hM hR
 refine ⟨σ', call_run (n := 30) (m := 70) (names := nL) (body := bodyOf "law") (vars := zV [.list (xs.map V.int)]) (by kernel_rfl) (by decide) (vars' := vars) ?_⟩
 show exAll cfg (low cfg CL 29) _ (bodyOf "law") [] = _
 rw [law_body]
 refine law_a hcs (fun c h => Nat.lt_of_le_of_lt (hcb c h) (by decide)) hM rfl hc (x_next _ _ _ _ _ s5 (x_next _ _ _ _ _ (law_6 rfl ..) (x_next _ _ _ _ _ (law_7 (came0_len M) ..) (x_next _ _ _ _ _ (l8 ..) (x_next _ _ _ _ _ (l9 ..) hm)))))
end Mine.Internal.L01
theorem PySem.Challenge.cw_ul0017_01_holds : PySem.Challenge.rw_ul0017_01.Holds :=
 Mine.Internal.L01.holds_of (n := 110) (by decide) fun _ hl => Mine.Internal.L01.law_ok hl
