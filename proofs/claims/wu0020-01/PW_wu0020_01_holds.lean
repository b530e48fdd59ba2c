import PyProof.Rows.All
import Wide.All
import OpenK.AllK
import Wide.FinOn
import KE.KCallOwn
import KE.KNestM
import PyProof.GenCompT
import PyProof.SumAny
import PyProof.WalksPairs
import PyProof.IsiH_list
import PySem.Challenge.RW_wu0020_01
set_option Elab.async false
local macro_rules | `(tactic| omega) => `(tactic| lia)

section
open PySem PySem.W PyProof.Rows PySem.Calls
set_option maxRecDepth 100000
set_option linter.unusedSimpArgs false
namespace Mine

noncomputable section

/-- abstract values: texts are lists of code points; lists and accumulators are cells -/
inductive AV where
  | none
  | bool (b : Bool)
  | int (i : Int)
  | str (l : List Nat)
  | tup (xs : List AV)
  | rng (lo hi st : Int)
  | frz (xs : List AV)
  | ref (r : Nat)

inductive Cell where
  | list (xs : List AV)
  | acc (size : Int) (xs : List AV)
  | code (at_ line col : Nat)

noncomputable abbrev Sto := List Cell
noncomputable abbrev Loc := List (Str × AV)
noncomputable abbrev Oracle := Str → List AV → Sto → Option (AV × Sto)

inductive AFlow where
  | next | brk
  | ret (v : AV)

/-- one step behind the other -/
noncomputable def bind1 {α β : Type} (o : Option α) (f : α → Option β) : Option β := match o with
  | some a => f a
  | none => none
noncomputable def bind2 {α β γ : Type} (o : Option (α × β)) (f : α → β → Option γ) : Option γ := match o with
  | some (a, b) => f a b
  | none => none

noncomputable def asInt : AV → Option Int
  | .int i => some i
  | _ => none
noncomputable def asStr : AV → Option (List Nat)
  | .str l => some l
  | _ => none
noncomputable def asTup : AV → Option (List AV)
  | .tup xs => some xs
  | _ => none
noncomputable def asRef : AV → Option Nat
  | .ref r => some r
  | _ => none
noncomputable def asBool : AV → Option Bool
  | .bool b => some b
  | _ => none
noncomputable def listAt (σ : Sto) (r : Nat) : Option (List AV) := match σ[r]? with
  | some (.list xs) => some xs
  | _ => none
noncomputable def isAccAt (σ : Sto) (r : Nat) : Bool := match σ[r]? with
  | some (.acc _ _) => true
  | _ => false
noncomputable def one {α : Type} : List α → Option α
  | [a] => some a
  | _ => none
noncomputable def two {α : Type} : List α → Option (α × α)
  | [a, b] => some (a, b)
  | _ => none
/-- a value that is true or false -/
noncomputable def byV (w : Option (AV × Sto)) : Option (Bool × Sto) := bind2 w fun v σ => bind1 (asBool v) fun b => some (b, σ)

noncomputable def setL (m : Loc) (x : Str) (v : AV) : Loc :=
  match m with
  | [] => [(x, v)]
  | p :: r => if p.1 = x then (x, v) :: r else p :: setL r x v
theorem setL_nil {x : Str} {v : AV} : setL [] x v = [(x, v)] := rfl
theorem setL_cons {p : Str × AV} {r : Loc} {x : Str} {v : AV} : setL (p :: r) x v = if p.1 = x then (x, v) :: r else p :: setL r x v := rfl

noncomputable def sizeOk (n : Nat) : Bool := Nat.ble n 1000000
noncomputable def intOk (i : Int) : Bool := Nat.ble i.natAbs 1000000000000

noncomputable def constAV : Const → Option AV
  | .none => some .none
  | .bool b => some (.bool b)
  | .int i => some (.int i)
  | .str s => some (.str s.cps.toList)
  | _ => none

noncomputable def mulText (n : Int) (l : List Nat) : List Nat := (List.replicate n.toNat l).flatten

noncomputable def binop (op : Operator) (a b : AV) (σ : Sto) : Option (AV × Sto) :=
  match op with
  | .Add => match a with
    | .int x => bind1 (asInt b) fun y => some (.int (x + y), σ)
    | .str x => bind1 (asStr b) fun y => if sizeOk (x.length + y.length) then some (.str (x ++ y), σ) else none
    | .ref r => bind1 (asRef b) fun q => bind1 (listAt σ r) fun xs => bind1 (listAt σ q) fun ys => if sizeOk (xs.length + ys.length) then some (.ref σ.length, σ ++ [.list (xs ++ ys)]) else none
    | _ => none
  | .Sub => bind1 (asInt a) fun x => bind1 (asInt b) fun y => some (.int (x - y), σ)
  | .Mult => bind1 (asInt a) fun x => match b with
    | .int y => if intOk x && intOk y then some (.int (x * y), σ) else none
    | .str y => if sizeOk x.natAbs && sizeOk y.length && sizeOk (x.natAbs * y.length) then some (.str (mulText x y), σ) else none
    | _ => none
  | .FloorDiv => bind1 (asInt a) fun x => bind1 (asInt b) fun y => if 0 < y ∧ y < 1000000000 then some (.int (x / y), σ) else none
  | .Mod => bind1 (asInt a) fun x => bind1 (asInt b) fun y => if 0 < y then some (.int (x % y), σ) else none
  | _ => none

/-- equality of ints, texts, and of tuples of these -/
noncomputable def eq0 (x y : AV) : Option Bool :=
  match x with
  | .int i => bind1 (asInt y) fun j => some (i == j)
  | .str l => bind1 (asStr y) fun k => some (l == k)
  | _ => none
noncomputable def eq0s : List AV → List AV → Option Bool
  | [], [] => some true
  | x :: xs, y :: ys => bind1 (eq0 x y) fun a => bind1 (eq0s xs ys) fun b => some (a && b)
  | _, _ => none
noncomputable def eqAV (x y : AV) : Option Bool :=
  match x with
  | .int i => bind1 (asInt y) fun j => some (i == j)
  | .str l => bind1 (asStr y) fun k => some (l == k)
  | .tup xs => bind1 (asTup y) fun ys => eq0s xs ys
  | _ => none
noncomputable def eqAVs : List AV → List AV → Option Bool
  | [], [] => some true
  | x :: xs, y :: ys => bind1 (eqAV x y) fun a => bind1 (eqAVs xs ys) fun b => some (a && b)
  | _, _ => none
theorem eqAVs_cons {x y : AV} {xs ys : List AV} : eqAVs (x :: xs) (y :: ys) = bind1 (eqAV x y) fun a => bind1 (eqAVs xs ys) fun b => some (a && b) := rfl

/-- Python's == on two values -/
noncomputable def eqTop (a b : AV) (σ : Sto) : Option Bool :=
  match a with
  | .ref r => bind1 (asRef b) fun q => bind1 (listAt σ r) fun xs => bind1 (listAt σ q) fun ys => if xs.length = ys.length then eqAVs xs ys else some false
  | a => eqAV a b

noncomputable def anyEq (v : AV) : List AV → Option Bool
  | [] => some false
  | x :: xs => bind1 (eqAV x v) fun a => bind1 (anyEq v xs) fun b => some (a || b)

noncomputable def ltL : List Nat → List Nat → Bool
  | _, [] => false
  | [], _ :: _ => true
  | x :: xs, y :: ys => if x < y then true else if x = y then ltL xs ys else false
theorem ltL_z : ∀ {x : List Nat}, ltL x [] = false
  | [] => rfl
  | _ :: _ => rfl
theorem ltL_0 {y : Nat} {ys : List Nat} : ltL [] (y :: ys) = true := rfl
theorem ltL_c {x y : Nat} {xs ys : List Nat} : ltL (x :: xs) (y :: ys) = if x < y then true else if x = y then ltL xs ys else false := rfl

noncomputable def ordOp (op : CmpOp) (lt gt : Bool) : Option Bool :=
  match op with
  | .Lt => some lt
  | .Gt => some gt
  | .LtE => some (!gt)
  | .GtE => some (!lt)
  | _ => none

noncomputable def cmpop (op : CmpOp) (a b : AV) (σ : Sto) : Option Bool :=
  match op with
  | .Eq => eqTop a b σ
  | .NotEq => bind1 (eqTop a b σ) fun c => some (!c)
  | .In => bind1 (asRef b) fun r => bind1 (listAt σ r) fun xs => anyEq a xs
  | .NotIn => bind1 (asRef b) fun r => bind1 (listAt σ r) fun xs => bind1 (anyEq a xs) fun c => some (!c)
  | op => match a with
    | .int x => bind1 (asInt b) fun y => ordOp op (decide (x < y)) (decide (y < x))
    | .str x => bind1 (asStr b) fun y => ordOp op (ltL x y) (ltL y x)
    | _ => none

noncomputable def listOf (v : AV) (σ : Sto) : Option (List AV) :=
  match v with
  | .ref r => listAt σ r
  | .frz xs => some xs
  | .tup xs => some xs
  | _ => none

/-- an index into a list or tuple or text, not negative -/
noncomputable def getIx : Int → Option Nat
  | .ofNat n => if sizeOk n then some n else none
  | .negSucc _ => none
noncomputable def chrIx : Int → Option Nat
  | .ofNat n => if Nat.ble n 1114111 then some n else none
  | .negSucc _ => none

noncomputable def subs (a i : AV) (σ : Sto) : Option AV :=
  bind1 (asInt i) fun i => bind1 (getIx i) fun n => match a with
    | .str l => bind1 l[n]? fun c => some (.str [c])
    | .tup xs => xs[n]?
    | .ref r => bind1 (listAt σ r) fun xs => xs[n]?
    | _ => none

/-- a slice's bound: none, or an int -/
noncomputable def bound (v : Option AV) : Option (Option Int) :=
  match v with
  | none => some none
  | some v => bind1 (asInt v) fun i => if intOk i then some (some i) else none

/-- a cut of a list, as Python cuts -/
noncomputable def pickL {α : Type} (l : List α) (lo hi st : Option Int) : List α := (Builtin.Str.strSliceIndices lo hi (st.getD 1) l.length).filterMap (l[·]?)

noncomputable def slc (a : AV) (lo hi st : Option Int) (σ : Sto) : Option (AV × Sto) :=
  if st = some 0 then none else match a with
  | .str l => if sizeOk l.length then some (.str (pickL l lo hi st), σ) else none
  | .ref r => bind1 (listAt σ r) fun xs => if sizeOk xs.length then some (.ref σ.length, σ ++ [.list (pickL xs lo hi st)]) else none
  | .frz xs => if sizeOk xs.length then some (.ref σ.length, σ ++ [.list (pickL xs lo hi st)]) else none
  | _ => none

noncomputable def txts : List AV → Option (List (List Nat))
  | [] => some []
  | v :: r => bind1 (asStr v) fun l => bind1 (txts r) fun ls => some (l :: ls)
noncomputable def intsOf : List AV → Option (List Int)
  | [] => some []
  | v :: r => bind1 (asInt v) fun i => bind1 (intsOf r) fun is => some (i :: is)

noncomputable def joinL (sep : List Nat) : List (List Nat) → List Nat
  | [] => []
  | [x] => x
  | x :: r => x ++ sep ++ joinL sep r
theorem joinL_1 {s x : List Nat} : joinL s [x] = x := rfl
theorem joinL_2 {s x y : List Nat} {r : List (List Nat)} : joinL s (x :: y :: r) = x ++ s ++ joinL s (y :: r) := rfl

noncomputable def total (l : List (List Nat)) : Nat := (l.map List.length).sum

noncomputable def emptyPair : AV := .tup [.str [], .str []]

inductive Mth where
  | join | split | append | extend | count | push | pop | partCount
noncomputable def mthOf (x : Str) : Option Mth :=
  if x = "join" then some .join else if x = "split" then some .split else if x = "append" then some .append
  else if x = "extend" then some .extend else if x = "count" then some .count else if x = "push" then some .push
  else if x = "pop" then some .pop else if x = "part_count" then some .partCount else none

noncomputable def eqEach (v : AV) : List AV → Option (List Bool)
  | [] => some []
  | x :: xs => bind1 (eqAV x v) fun b => bind1 (eqEach v xs) fun bs => some (b :: bs)

/-- a call of the accumulator's, asked of the oracle by a name that opens with # -/
noncomputable def accCall (O : Oracle) (f : Str) (o : AV) (args : List AV) (σ : Sto) : Option (AV × Sto) :=
  bind1 (asRef o) fun r => if isAccAt σ r then O f (o :: args) σ else none

noncomputable def methCall (O : Oracle) (m : Mth) (o : AV) (args : List AV) (σ : Sto) : Option (AV × Sto) :=
  match m with
  | .join => bind1 (asStr o) fun sep => bind1 (one args) fun v => bind1 (listOf v σ) fun xs => bind1 (txts xs) fun ss =>
      if sizeOk (total ss + sep.length * ss.length) then some (.str (joinL sep ss), σ) else none
  | .append => bind1 (asRef o) fun r => bind1 (one args) fun v => bind1 (listAt σ r) fun xs => if sizeOk xs.length then some (.none, σ.set r (.list (xs ++ [v]))) else none
  | .extend => bind1 (asRef o) fun r => bind1 (one args) fun v => bind1 (asRef v) fun q => bind1 (listAt σ r) fun xs => bind1 (listAt σ q) fun ys =>
      if sizeOk (xs.length + ys.length) then some (.none, σ.set r (.list (xs ++ ys))) else none
  | .count => bind1 (asRef o) fun r => bind1 (one args) fun v => bind1 (listAt σ r) fun xs => bind1 (eqEach v xs) fun bs => some (.int (bs.count true), σ)
  | .split => bind1 (asStr o) fun _ => O "#split" (o :: args) σ
  | .push => accCall O "#push" o args σ
  | .pop => accCall O "#pop" o args σ
  | .partCount => accCall O "#part_count" o args σ

/-- what a method is asked of -/
noncomputable def recv (m : Mth) (o : AV) (σ : Sto) : Bool :=
  match m with
  | .join | .split => (asStr o).isSome
  | .append | .extend | .count => match asRef o with | some r => (listAt σ r).isSome | none => false
  | .push | .pop | .partCount => match asRef o with | some r => isAccAt σ r | none => false

inductive Bif where
  | len | str | chr | sum | range | sorted | accum
noncomputable def bifOf (x : Str) : Option Bif :=
  if x = "len" then some .len else if x = "str" then some .str else if x = "chr" then some .chr
  else if x = "sum" then some .sum else if x = "range" then some .range else if x = "sorted" then some .sorted
  else if x = "_Accumulator" then some .accum else none

noncomputable def builtin (O : Oracle) (f : Bif) (args : List AV) (σ : Sto) : Option (AV × Sto) :=
  match f with
  | .len => bind1 (one args) fun v => match v with
    | .str l => if sizeOk l.length then some (.int l.length, σ) else none
    | .ref r => if isAccAt σ r then O "#len" args σ else bind1 (listAt σ r) fun xs => if sizeOk xs.length then some (.int xs.length, σ) else none
    | _ => none
  | .str => O "#str" args σ
  | .chr => bind1 (one args) fun v => bind1 (asInt v) fun i => bind1 (chrIx i) fun n => some (.str [n], σ)
  | .sum => bind1 (one args) fun v => bind1 (asRef v) fun r => bind1 (listAt σ r) fun xs => bind1 (intsOf xs) fun is => some (.int is.sum, σ)
  | .range => match args with
    | [a] => bind1 (asInt a) fun b => if intOk b then some (.rng 0 b 1, σ) else none
    | [a, b] => bind1 (asInt a) fun a => bind1 (asInt b) fun b => if intOk a && intOk b then some (.rng a b 1, σ) else none
    | [a, b, c] => bind1 (asInt a) fun a => bind1 (asInt b) fun b => bind1 (asInt c) fun c => if intOk a && intOk b && decide (c = -1) then some (.rng a b c, σ) else none
    | _ => none
  | .sorted => O "#sorted" args σ
  | .accum => O "#new" args σ

/-- the i-th item of what a loop goes over, or its end -/
noncomputable def nextOf (v : AV) (i : Nat) (σ : Sto) : Option (Option AV) :=
  match v with
  | .ref r => bind1 (listAt σ r) fun xs => some xs[i]?
  | .str l => some ((l[i]?).map fun c => .str [c])
  | .rng a b c => if c = 1 then some (if a + (i : Int) < b then some (.int (a + (i : Int))) else none)
    else if c = -1 then some (if b < a - (i : Int) then some (.int (a - (i : Int))) else none)
    else none
  | _ => none
noncomputable def fuelOf (v : AV) (σ : Sto) : Nat :=
  match v with
  | .ref r => match σ[r]? with | some (.list xs) => xs.length + 1 | _ => 0
  | .str l => l.length + 1
  | .rng a b c => if c = 1 then (b - a).toNat + 1 else (a - b).toNat + 1
  | _ => 0

noncomputable def nameOf : PySem.Expr → Option Str
  | .Name x _ => some x
  | _ => none
noncomputable def tupleOf : PySem.Expr → Option (List PySem.Expr)
  | .Tuple es _ _ => some es
  | _ => none
/-- a source that a loop may go over, with that target -/
noncomputable def srcOk (t : PySem.Expr) (v : AV) (σ : Sto) : Bool :=
  match v with
  | .ref r => (listAt σ r).isSome
  | .str _ => (nameOf t).isSome
  | .rng a b c => (nameOf t).isSome && intOk a && intOk b && (decide (c = 1) || decide (c = -1))
  | _ => false

/-- two names in a tuple -/
noncomputable def pairOf (t : PySem.Expr) : Option (Str × Str) := bind1 (tupleOf t) fun es => bind2 (two es) fun e1 e2 => bind1 (nameOf e1) fun x => bind1 (nameOf e2) fun y => if x = y then none else some (x, y)
noncomputable def bindT (t : PySem.Expr) (v : AV) (m : Loc) : Option Loc :=
  match nameOf t with
  | some x => some (setL m x v)
  | none => bind2 (pairOf t) fun x y => bind1 (asTup v) fun vs => bind2 (two vs) fun a b => some (setL (setL m x a) y b)

/-- a comprehension's loop -/
noncomputable def compN (next : Nat → Sto → Option (Option AV)) (elt : AV → Sto → Option (Option AV × Sto)) : Nat → Nat → List AV → Sto → Option (List AV × Sto)
  | 0, _, _, _ => none
  | f + 1, i, acc, σ => match next i σ with
    | none => none
    | some none => some (acc, σ)
    | some (some v) => match elt v σ with
      | some (some y, σ') => if sizeOk acc.length then compN next elt f (i + 1) (acc ++ [y]) σ' else none
      | some (none, σ') => compN next elt f (i + 1) acc σ'
      | none => none
theorem compN_eq {next : Nat → Sto → Option (Option AV)} {elt : AV → Sto → Option (Option AV × Sto)} {f i : Nat} {acc : List AV} {σ : Sto} : compN next elt (f + 1) i acc σ = (match next i σ with
    | none => none
    | some none => some (acc, σ)
    | some (some v) => match elt v σ with
      | some (some y, σ') => if sizeOk acc.length then compN next elt f (i + 1) (acc ++ [y]) σ' else none
      | some (none, σ') => compN next elt f (i + 1) acc σ'
      | none => none) := rfl

noncomputable def forN (next : Nat → Sto → Option (Option AV)) (body : AV → Loc → Sto → Option (AFlow × Loc × Sto)) : Nat → Nat → Loc → Sto → Option (AFlow × Loc × Sto)
  | 0, _, _, _ => none
  | f + 1, i, m, σ => match next i σ with
    | none => none
    | some none => some (.next, m, σ)
    | some (some v) => match body v m σ with
      | some (.next, m', σ') => forN next body f (i + 1) m' σ'
      | some (.brk, m', σ') => some (.next, m', σ')
      | some (.ret r, m', σ') => some (.ret r, m', σ')
      | none => none
theorem forN_eq {next : Nat → Sto → Option (Option AV)} {body : AV → Loc → Sto → Option (AFlow × Loc × Sto)} {f i : Nat} {m : Loc} {σ : Sto} : forN next body (f + 1) i m σ = (match next i σ with
    | none => none
    | some none => some (.next, m, σ)
    | some (some v) => match body v m σ with
      | some (.next, m', σ') => forN next body f (i + 1) m' σ'
      | some (.brk, m', σ') => some (.next, m', σ')
      | some (.ret r, m', σ') => some (.ret r, m', σ')
      | none => none) := rfl

noncomputable def whileN (test : Loc → Sto → Option (Bool × Sto)) (body : Loc → Sto → Option (AFlow × Loc × Sto)) : Nat → Loc → Sto → Option (AFlow × Loc × Sto)
  | 0, _, _ => none
  | f + 1, m, σ => match test m σ with
    | none => none
    | some (false, σ') => some (.next, m, σ')
    | some (true, σ') => match body m σ' with
      | some (.next, m', σ'') => whileN test body f m' σ''
      | some (.brk, m', σ'') => some (.next, m', σ'')
      | some (.ret r, m', σ'') => some (.ret r, m', σ'')
      | none => none
theorem whileN_eq {test : Loc → Sto → Option (Bool × Sto)} {body : Loc → Sto → Option (AFlow × Loc × Sto)} {f : Nat} {m : Loc} {σ : Sto} : whileN test body (f + 1) m σ = (match test m σ with
    | none => none
    | some (false, σ') => some (.next, m, σ')
    | some (true, σ') => match body m σ' with
      | some (.next, m', σ'') => whileN test body f m' σ''
      | some (.brk, m', σ'') => some (.next, m', σ'')
      | some (.ret r, m', σ'') => some (.ret r, m', σ'')
      | none => none) := rfl

noncomputable def cmpQ (op : CmpOp) (a b : AV) : Option Bool :=
  bind1 (asStr a) fun x => bind1 (asStr b) fun y => match op with
    | .GtE => some (!ltL x y)
    | .LtE => some (!ltL y x)
    | _ => none
theorem cmpQ_ge {x y : List Nat} : cmpQ .GtE (.str x) (.str y) = some (!ltL x y) := rfl
noncomputable def qname : Str := "QName"

noncomputable def sees (scope : Scope) (m : Loc) : Loc := m.filter fun p => scope.names.lookup p.1 == some .free

/-- a call of QName with one argument -/
noncomputable def isQN : PySem.Expr → Bool
  | .Name x _ => x == qname
  | _ => false
noncomputable def isQ : PySem.Expr → Bool
  | .Call f args ks _ => isQN f && args.length == 1 && ks.isEmpty
  | _ => false
noncomputable def isSl : PySem.Expr → Bool
  | .Slice .. => true
  | _ => false

/-- where and, or stop -/
noncomputable def stops (op : BoolOp) (b : Bool) : Bool := match op with
  | .And => !b
  | .Or => b
mutual
noncomputable def ev (O : Oracle) : Loc → PySem.Expr → Sto → Option (AV × Sto)
  | _, .Constant c _ _, σ => bind1 (constAV c) fun v => some (v, σ)
  | m, .Name x _, σ => bind1 (m.lookup x) fun v => some (v, σ)
  | m, .BoolOp op vs _, σ => evBool O m op vs σ
  | m, .BinOp l op r _, σ => bind2 (ev O m l σ) fun a σ1 => bind2 (ev O m r σ1) fun b σ2 => binop op a b σ2
  | m, .UnaryOp op x _, σ => match op with
    | .USub => bind2 (ev O m x σ) fun v σ1 => bind1 (asInt v) fun i => some (.int (-i), σ1)
    | .Not => bind2 (ev O m x σ) fun v σ1 => bind1 (asBool v) fun b => some (.bool (!b), σ1)
    | _ => none
  | m, .IfExp t b o _, σ => bind2 (tr O m t σ (ev O m t σ)) fun c σ1 => if c then ev O m b σ1 else ev O m o σ1
  | m, .List es _, σ => bind2 (evs O m es σ) fun vs σ1 => if sizeOk vs.length then some (.ref σ1.length, σ1 ++ [.list vs]) else none
  | m, .Tuple es _ _, σ => bind2 (evs O m es σ) fun vs σ1 => if sizeOk vs.length then some (.tup vs, σ1) else none
  | m, .ListComp elt gens scope _, σ => match gens with
    | [⟨t, iter, ifs, is⟩] => if is != 0 then none else bind2 (ev O m iter σ) fun src σ1 => if srcOk t src σ1 then bind2 (compN (nextOf src) (fun v σ2 => bind1 (bindT t v (sees scope m)) fun m' =>
          bind2 (trs O m' ifs σ2) fun c σ3 => if c then bind2 (ev O m' elt σ3) fun y σ4 => some (some y, σ4) else some (none, σ3)) (fuelOf src σ1) 0 [] σ1) fun ys σ2 => some (.ref σ2.length, σ2 ++ [.list ys]) else none
    | _ => none
  | m, .Compare l ops rs _, σ => match ops, rs with
    | [op], [r] => if isQ l then (if isQ r then bind2 (evQ O m l σ) fun a σ1 => bind2 (evQ O m r σ1) fun b σ2 => bind1 (cmpQ op a b) fun c => some (.bool c, σ2) else none)
      else bind2 (ev O m l σ) fun a σ1 => bind2 (ev O m r σ1) fun b σ2 => bind1 (cmpop op a b σ2) fun c => some (.bool c, σ2)
    | _, _ => none
  | m, .Call f args ks _, σ => match ks with
    | [] => match f with
      | .Attribute o name _ => bind1 (mthOf name) fun mt => bind2 (ev O m o σ) fun ov σ1 => if recv mt ov σ1 then (bind2 (evs O m args σ1) fun vs σ2 => methCall O mt ov vs σ2) else none
      | .Name g _ => if (m.lookup g).isSome then none else bind2 (evs O m args σ) fun vs σ1 => match bifOf g with
          | some b => builtin O b vs σ1
          | none => O g vs σ1
      | _ => none
    | _ => none
  | m, .Subscript v i _, σ => bind2 (ev O m v σ) fun a σ1 => if isSl i then (bind2 (evSl O m i σ1) fun z σ4 => slc a z.1 z.2.1 z.2.2 σ4)
      else bind2 (ev O m i σ1) fun b σ2 => bind1 (subs a b σ2) fun v => some (v, σ2)
  | _, _, _ => none
noncomputable def evQ (O : Oracle) : Loc → PySem.Expr → Sto → Option (AV × Sto)
  | m, .Call _ args _ _, σ => bind2 (evs O m args σ) fun vs σ1 => bind1 (one vs) fun v => some (v, σ1)
  | _, _, _ => none
noncomputable def evSl (O : Oracle) : Loc → PySem.Expr → Sto → Option ((Option Int × Option Int × Option Int) × Sto)
  | m, .Slice lo hi st _, σ1 => bind2 (evOpt O m lo σ1) fun x σ2 => bind2 (evOpt O m hi σ2) fun y σ3 => bind2 (evOpt O m st σ3) fun z σ4 =>
      bind1 (bound x) fun x' => bind1 (bound y) fun y' => bind1 (bound z) fun z' => some ((x', y', z'), σ4)
  | _, _, _ => none
noncomputable def evs (O : Oracle) : Loc → List PySem.Expr → Sto → Option (List AV × Sto)
  | _, [], σ => some ([], σ)
  | m, e :: r, σ => bind2 (ev O m e σ) fun v σ1 => bind2 (evs O m r σ1) fun vs σ2 => some (v :: vs, σ2)
noncomputable def evOpt (O : Oracle) : Loc → Option PySem.Expr → Sto → Option (Option AV × Sto)
  | _, none, σ => some (none, σ)
  | m, some e, σ => bind2 (ev O m e σ) fun v σ1 => some (some v, σ1)
noncomputable def evBool (O : Oracle) : Loc → BoolOp → List PySem.Expr → Sto → Option (AV × Sto)
  | _, _, [], _ => none
  | m, op, e :: r, σ => match r with
    | [] => ev O m e σ
    | _ :: _ => bind2 (ev O m e σ) fun v σ1 => bind1 (asBool v) fun b => if stops op b then some (.bool b, σ1) else evBool O m op r σ1
noncomputable def tr (O : Oracle) : Loc → PySem.Expr → Sto → Option (AV × Sto) → Option (Bool × Sto)
  | m, .UnaryOp op x _, σ, whole => match op with
    | .Not => bind2 (tr O m x σ (ev O m x σ)) fun b σ1 => some (!b, σ1)
    | _ => byV whole
  | m, .BoolOp op vs _, σ, _ => trAll O m op vs σ
  | _, .IfExp .., _, _ => none
  | _, _, _, whole => byV whole
noncomputable def trAll (O : Oracle) : Loc → BoolOp → List PySem.Expr → Sto → Option (Bool × Sto)
  | _, op, [], σ => some (stops op false, σ)
  | m, op, e :: r, σ => bind2 (tr O m e σ (ev O m e σ)) fun b σ1 => if stops op b then some (b, σ1) else trAll O m op r σ1
noncomputable def trs (O : Oracle) : Loc → List PySem.Expr → Sto → Option (Bool × Sto)
  | _, [], σ => some (true, σ)
  | m, e :: r, σ => bind2 (tr O m e σ (ev O m e σ)) fun b σ1 => if b then trs O m r σ1 else some (false, σ1)
end

mutual
noncomputable def ex (O : Oracle) : Loc → PySem.Stmt → Sto → Option (AFlow × Loc × Sto)
  | m, .Assign ts e _, σ => match ts with
    | [t] => bind1 (nameOf t) fun x => bind2 (ev O m e σ) fun v σ1 => some (.next, setL m x v, σ1)
    | _ => none
  | m, .Expr e _, σ => bind2 (ev O m e σ) fun _ σ1 => some (.next, m, σ1)
  | m, .Return v _, σ => match v with
    | some e => bind2 (ev O m e σ) fun v σ1 => some (.ret v, m, σ1)
    | none => none
  | m, .If t b o _, σ => bind2 (tr O m t σ (ev O m t σ)) fun c σ1 => if c then exs O m b σ1 else exs O m o σ1
  | m, .While t b o _, σ => if o.isEmpty then whileN (fun m σ => tr O m t σ (ev O m t σ)) (fun m σ => exs O m b σ) 100 m σ else none
  | m, .For t iter b o _, σ => if o.isEmpty then (bind2 (ev O m iter σ) fun src σ1 => if srcOk t src σ1 then forN (nextOf src) (fun v m σ => bind1 (bindT t v m) fun m' => exs O m' b σ) (fuelOf src σ1) 0 m σ1 else none) else none
  | m, .Break _, σ => some (.brk, m, σ)
  | _, _, _ => none
noncomputable def exs (O : Oracle) : Loc → List PySem.Stmt → Sto → Option (AFlow × Loc × Sto)
  | m, [], σ => some (.next, m, σ)
  | m, s :: r, σ => match ex O m s σ with
    | some (.next, m', σ') => exs O m' r σ'
    | x => x
end

/-- a def of the text -/
structure Fn where
  params : List Str
  body : List PySem.Stmt

noncomputable def retOf : Option (AFlow × Loc × Sto) → Option (AV × Sto)
  | some (.ret v, _, σ') => some (v, σ')
  | some (.next, _, σ') => some (.none, σ')
  | _ => none
noncomputable def callFn (O : Oracle) (fn : Fn) (vs : List AV) (σ : Sto) : Option (AV × Sto) :=
  if fn.params.length = vs.length then retOf (exs O (fn.params.zip vs) fn.body σ) else none
theorem callFn_eq {O : Oracle} {fn : Fn} {ps : List Str} {b : List PySem.Stmt} {vs : List AV} {σ : Sto} (h1 : fn.params = ps) (h2 : fn.body = b) (h : ps.length = vs.length) : callFn O fn vs σ = retOf (exs O (ps.zip vs) b σ) := by
  subst h1; subst h2; exact if_pos h
theorem nextOf_rng (a b : Int) (i : Nat) (σ : Sto) : nextOf (.rng a b 1) i σ = some (if a + (i : Int) < b then some (.int (a + (i : Int))) else none) := by
  show (if (1 : Int) = 1 then some (if a + (i : Int) < b then some (AV.int (a + (i : Int))) else none) else if (1 : Int) = -1 then some (if b < a - (i : Int) then some (AV.int (a - (i : Int))) else none) else none) = _
  exact if_pos rfl
theorem srcOk_rng1 (t : PySem.Expr) (a b : Int) (σ : Sto) : srcOk t (.rng a b 1) σ = ((nameOf t).isSome && intOk a && intOk b && (decide ((1 : Int) = 1) || decide ((1 : Int) = -1))) := rfl

noncomputable def indentL (k : Nat) : Bool → List Nat → List Nat
  | _, [] => []
  | true, c :: r => if c = 10 then c :: indentL k true r else List.replicate k 32 ++ c :: indentL k false r
  | false, c :: r => c :: indentL k (c == 10) r
theorem indentL_0 {k : Nat} {b : Bool} : indentL k b [] = [] := by cases b <;> rfl
theorem indentL_t {k c : Nat} {r : List Nat} : indentL k true (c :: r) = if c = 10 then c :: indentL k true r else List.replicate k 32 ++ c :: indentL k false r := rfl
theorem indentL_f {k c : Nat} {r : List Nat} : indentL k false (c :: r) = c :: indentL k (c == 10) r := rfl

noncomputable def calls (pr : Oracle) (fns : Str → Option Fn) : Nat → Oracle
  | 0 => pr
  | n + 1 => fun f vs σ => match fns f with
    | some fn => callFn (calls pr fns n) fn vs σ
    | none => pr f vs σ
theorem calls_eq {pr : Oracle} {fns : Str → Option Fn} {n : Nat} : calls pr fns (n + 1) = fun f vs σ => (match fns f with
    | some fn => callFn (calls pr fns n) fn vs σ
    | none => pr f vs σ) := rfl


/-- the defs of a program's main text -/
noncomputable def defsOf (p : Program) (f : Str) : Option Fn :=
  if f = "_indent" then none else
  (p.main.body.findSome? fun st => match st with
    | .FunctionDef n a b _ _ _ _ _ _ _ => if n = f then some ⟨a.args.map (·.arg), b⟩ else none
    | _ => none)

end
end Mine
end

section
open PySem PySem.W PyProof.Rows PySem.Calls
set_option maxRecDepth 100000
set_option linter.unusedSimpArgs false
namespace Mine

noncomputable abbrev Rho := List (Addr × Addr)

mutual
/-- what a value of the machine's tells, at a heap; n₀: the heap at the start, of which nothing turns; ρ: where the cells lie -/
inductive RelV (n₀ : Heap) (ρ : Rho) (h : Heap) : AV → Value → Prop
  | none : RelV n₀ ρ h .none .none
  | bool (b : Bool) : RelV n₀ ρ h (.bool b) (.bool b)
  | int (i : Int) (t : Tok) : RelV n₀ ρ h (.int i) (.int i t)
  | str (l : List Nat) (t : Tok) : RelV n₀ ρ h (.str l) (.str ⟨l.toArray⟩ t)
  | tup {xs : List AV} {a : Addr} {vs : List Value} : IsTup h a vs.toArray → RelVs n₀ ρ h xs vs → RelV n₀ ρ h (.tup xs) (.ref a)
  | rng {a b c : Int} {r : Addr} {t u v : Tok} : IsRange h r a b c t u v → RelV n₀ ρ h (.rng a b c) (.ref r)
  | frz {xs : List AV} {a : Addr} {vs : List Value} : (n₀.get? a).isSome = true → h.IsList a vs.toArray → RelVs n₀ ρ h xs vs → RelV n₀ ρ h (.frz xs) (.ref a)
  | ref {r : Nat} {p : Addr × Addr} : ρ[r]? = some p → RelV n₀ ρ h (.ref r) (.ref p.1)
inductive RelVs (n₀ : Heap) (ρ : Rho) (h : Heap) : List AV → List Value → Prop
  | nil : RelVs n₀ ρ h [] []
  | cons {x : AV} {xs : List AV} {v : Value} {vs : List Value} : RelV n₀ ρ h x v → RelVs n₀ ρ h xs vs → RelVs n₀ ρ h (x :: xs) (v :: vs)
end

/-- an address at which no tuple and no range lies -/
noncomputable def Mut (h : Heap) (b : Addr) : Prop := ∀ o, h.get? b = some o →
  (o.cls ≠ .type "tuple" ∧ o.cls ≠ .type "range") ∨ (∃ es n, o.data = .dict es n) ∨ (∃ v, o.data = .cell v)

theorem Mut.noTup {h : Heap} {b : Addr} {items : Array Value} (x : Mut h b) (t : IsTup h b items) : False := by
  obtain ⟨o, ho, hc, n, hd⟩ := t
  rcases x o ho with ⟨a, _⟩ | ⟨_, _, e⟩ | ⟨_, e⟩
  · exact a hc
  · rw [hd] at e; cases e
  · rw [hd] at e; cases e
theorem Mut.noRange {h : Heap} {r : Addr} {a b c : Int} {t u v : Tok} (x : Mut h r) (y : IsRange h r a b c t u v) : False := by
  rcases x _ y with ⟨_, e⟩ | ⟨_, _, e⟩ | ⟨_, e⟩
  · exact e rfl
  · cases e
  · cases e

/-- the heap goes on, but for the places of M -/
noncomputable def KeepH (M : Addr → Prop) (h h' : Heap) : Prop := ∀ b o, h.get? b = some o → ¬ M b → h'.get? b = some o

theorem KeepH.refl {M : Addr → Prop} {h : Heap} : KeepH M h h := fun _ _ e _ => e
theorem KeepH.trans {M M' : Addr → Prop} {h h' h'' : Heap} (x : KeepH M h h') (y : KeepH M' h' h'') (sub : ∀ b o, h.get? b = some o → M' b → M b) : KeepH M h h'' :=
  fun b o e n => y b o (x b o e n) fun m => n (sub b o e m)
theorem KeepH.weak {M M' : Addr → Prop} {h h' : Heap} (x : KeepH M h h') (sub : ∀ b o, h.get? b = some o → M b → M' b) : KeepH M' h h' :=
  fun b o e n => x b o e fun m => n (sub b o e m)
theorem KeepH.of_all {M : Addr → Prop} {h h' : Heap} (x : ∀ b o, h.get? b = some o → h'.get? b = some o) : KeepH M h h' := fun b o e _ => x b o e
theorem KeepH.push {M : Addr → Prop} {h h' : Heap} (x : KeepH M h h') (o : Obj) : KeepH M h (h'.push o) := fun b o' e n => Heap.get?_push_of_some o (x b o' e n)

/-- cells are added, each at a place where nothing lay -/
noncomputable def Grow (h : Heap) (ρ ρ' : Rho) : Prop := ∃ t, ρ' = ρ ++ t ∧ ∀ p ∈ t, h.get? p.1 = none ∧ h.get? p.2 = none
theorem Grow.refl {n : Heap} {ρ : Rho} : Grow n ρ ρ := ⟨[], by simp, fun _ h => by simp at h⟩
theorem Grow.trans {n n' : Heap} {ρ ρ' ρ'' : Rho} (x : Grow n ρ ρ') (y : Grow n' ρ' ρ'') (l : ∀ b, n'.get? b = none → n.get? b = none) : Grow n ρ ρ'' := by
  obtain ⟨t, rfl, ht⟩ := x; obtain ⟨u, rfl, hu⟩ := y
  refine ⟨t ++ u, by simp, fun p hp => ?_⟩
  rcases List.mem_append.mp hp with q | q
  · exact ht p q
  · exact ⟨l _ (hu p q).1, l _ (hu p q).2⟩
theorem Grow.get {n : Heap} {ρ ρ' : Rho} (x : Grow n ρ ρ') {r : Nat} {p : Addr × Addr} (e : ρ[r]? = some p) : ρ'[r]? = some p := by
  obtain ⟨t, rfl, _⟩ := x
  rw [List.getElem?_append_left (List.getElem?_eq_some_iff.mp e).1]; exact e
theorem Grow.mem {n : Heap} {ρ ρ' : Rho} (x : Grow n ρ ρ') {p : Addr × Addr} (h : p ∈ ρ') : p ∈ ρ ∨ (n.get? p.1 = none ∧ n.get? p.2 = none) := by
  obtain ⟨t, rfl, ht⟩ := x
  rcases List.mem_append.mp h with q | q
  · exact .inl q
  · exact .inr (ht p q)

theorem RelVs.cons_inv {n₀ : Heap} {ρ : Rho} {h : Heap} {x : AV} {xs : List AV} {vs : List Value} (r : RelVs n₀ ρ h (x :: xs) vs) : ∃ v us, vs = v :: us ∧ RelV n₀ ρ h x v ∧ RelVs n₀ ρ h xs us := by
  cases r with
  | cons a b => exact ⟨_, _, rfl, a, b⟩
theorem RelVs.nil_inv {n₀ : Heap} {ρ : Rho} {h : Heap} {vs : List Value} (r : RelVs n₀ ρ h [] vs) : vs = [] := by cases r; rfl
theorem RelV.mono {n₀ n : Heap} {ρ ρ' : Rho} {h h' : Heap} {M : Addr → Prop} (k : KeepH M h h') (hm : ∀ b, M b → Mut h b ∧ n₀.get? b = Option.none) (g : Grow n ρ ρ')
    {x : AV} {v : Value} (r : RelV n₀ ρ h x v) : RelV n₀ ρ' h' x v :=
  RelV.rec (motive_1 := fun x v _ => RelV n₀ ρ' h' x v) (motive_2 := fun xs vs _ => RelVs n₀ ρ' h' xs vs) .none .bool .int .str
    (fun t _ ih => .tup (Exists.elim t fun o q => ⟨o, k _ _ q.1 fun m => (hm _ m).1.noTup t, q.2⟩) ih)
    (fun t => .rng (k _ _ t fun m => (hm _ m).1.noRange t))
    (fun l t _ ih => .frz l (Exists.elim t fun o q => ⟨o, k _ _ q.1 (fun m => by rw [(hm _ m).2] at l; cases l), q.2⟩) ih)
    (fun e => .ref (g.get e)) .nil (fun _ _ a b => .cons a b) r
theorem RelVs.mono {n₀ n : Heap} {ρ ρ' : Rho} {h h' : Heap} {M : Addr → Prop} (k : KeepH M h h') (hm : ∀ b, M b → Mut h b ∧ n₀.get? b = none) (g : Grow n ρ ρ') {xs : List AV} :
    ∀ {vs : List Value}, RelVs n₀ ρ h xs vs → RelVs n₀ ρ' h' xs vs := by
  induction xs with
  | nil => intro vs r; rw [r.nil_inv]; exact .nil
  | cons x xs ih =>
    intro vs r
    obtain ⟨v, us, rfl, a, b⟩ := r.cons_inv
    exact .cons (a.mono k hm g) (ih b)

theorem RelVs.length {n₀ : Heap} {ρ : Rho} {h : Heap} {xs : List AV} : ∀ {vs : List Value}, RelVs n₀ ρ h xs vs → xs.length = vs.length := by
  induction xs with
  | nil => intro vs r; rw [r.nil_inv]; rfl
  | cons x xs ih =>
    intro vs r
    obtain ⟨v, us, rfl, _, b⟩ := r.cons_inv
    exact congrArg (· + 1) (ih b)
theorem RelVs.append' {n₀ : Heap} {ρ : Rho} {h : Heap} {xs ys : List AV} {us : List Value} (s : RelVs n₀ ρ h ys us) : ∀ {vs : List Value}, RelVs n₀ ρ h xs vs → RelVs n₀ ρ h (xs ++ ys) (vs ++ us) := by
  induction xs with
  | nil => intro vs r; rw [r.nil_inv]; exact s
  | cons x xs ih =>
    intro vs r
    obtain ⟨v, us, rfl, a, b⟩ := r.cons_inv
    exact .cons a (ih b)
theorem RelVs.append {n₀ : Heap} {ρ : Rho} {h : Heap} {xs ys : List AV} {vs us : List Value} (r : RelVs n₀ ρ h xs vs) (s : RelVs n₀ ρ h ys us) : RelVs n₀ ρ h (xs ++ ys) (vs ++ us) := s.append' r
theorem RelVs.get {n₀ : Heap} {ρ : Rho} {h : Heap} {x : AV} {xs : List AV} : ∀ {vs : List Value} {i : Nat}, RelVs n₀ ρ h xs vs → xs[i]? = some x → ∃ v, vs[i]? = some v ∧ RelV n₀ ρ h x v := by
  induction xs with
  | nil => intro vs i r e; cases e
  | cons y xs ih =>
    intro vs i r e
    obtain ⟨v, us, rfl, a, b⟩ := r.cons_inv
    cases i with
    | zero => exact ⟨v, rfl, Option.some.inj e ▸ a⟩
    | succ i => exact (show ∃ z, us[i]? = some z ∧ RelV n₀ ρ h x z from ih b e)
theorem RelVs.none {n₀ : Heap} {ρ : Rho} {h : Heap} {xs : List AV} {vs : List Value} {i : Nat} (rs : RelVs n₀ ρ h xs vs) (e : xs[i]? = none) : vs[i]? = Option.none := by
  have := rs.length
  rw [List.getElem?_eq_none_iff] at e ⊢
  omega
theorem RelVs.take {n₀ : Heap} {ρ : Rho} {h : Heap} {xs : List AV} : ∀ {vs : List Value} (n : Nat), RelVs n₀ ρ h xs vs → RelVs n₀ ρ h (xs.take n) (vs.take n) := by
  induction xs with
  | nil => intro vs n r; rw [r.nil_inv, List.take_nil, List.take_nil]; exact .nil
  | cons x xs ih =>
    intro vs n r
    obtain ⟨v, us, rfl, a, b⟩ := r.cons_inv
    cases n with
    | zero => exact .nil
    | succ n => exact .cons a (ih n b)

/-- an accumulator: its items, its dict -/
noncomputable def AccAt (C : Addr) (h : Heap) (a d : Addr) (size : Int) (vs : Array Value) : Prop :=
  (∃ n, h.get? a = some ⟨.ref C, some d, .seq vs n, #[]⟩) ∧
  ∃ hs k t n, h.get? d = some ⟨.type "dict", none, .dict #[⟨hs, .str (Str.ofString "_initial_size") k, .int size t⟩] n, #[]⟩

noncomputable def CellR (n₀ : Heap) (C : Addr) (ρ : Rho) (h : Heap) : Cell → Addr × Addr → Prop
  | .list xs, p => ∃ vs : List Value, h.PlainList p.1 vs.toArray ∧ RelVs n₀ ρ h xs vs
  | .acc n xs, p => ∃ vs : List Value, AccAt C h p.1 p.2 n vs.toArray ∧ RelVs n₀ ρ h xs vs
  | .code b l c, p => p.1 = b ∧ ∃ ps : Array Value, h.get? p.1 = some { cls := .none, data := .fields ps } ∧ (ps = #[] ∨ ∃ x, ps = #[.int (l : Nat) 0, .int (c : Nat) 0, x])

theorem CellR.mut {n₀ : Heap} {C : Addr} {ρ : Rho} {h : Heap} {c : Cell} {p : Addr × Addr} (x : CellR n₀ C ρ h c p) : Mut h p.1 := by
  intro o ho
  cases c with
  | list xs =>
    obtain ⟨vs, ⟨k, ha⟩, _⟩ := x
    rw [ho] at ha; cases ha
    exact .inl ⟨by simp, by simp⟩
  | acc n xs =>
    obtain ⟨vs, ⟨⟨k, ha⟩, _⟩, _⟩ := x
    rw [ho] at ha; cases ha
    exact .inl ⟨by simp, by simp⟩
  | code b l c =>
    obtain ⟨_, ps, ha, _⟩ := x
    rw [ho] at ha; cases ha
    exact .inl ⟨by simp, by simp⟩

noncomputable def inρ (ρ : Rho) (a : Addr) : Prop := ∃ p ∈ ρ, p.1 = a

/-- what holds of all the objects, whatever frame stands above -/
structure StG (hB : Heap) (os : OsState) (C : Addr) (ρ : Rho) (σ : Sto) (s : Shared) : Prop where
  base : ∀ b o, hB.get? b = some o → s.heap.get? b = some o
  len : ρ.length = σ.length
  cell : ∀ (r : Nat) c p, σ[r]? = some c → ρ[r]? = some p → CellR hB C ρ s.heap c p
  lo : ∀ p ∈ ρ, hB.get? p.1 = none
  apart : (ρ.map (·.1)).Nodup
  gens : AllBare s.gens
  os : s.os = os
  two : ∀ p ∈ ρ, (s.heap.get? p.2).isSome = true

section
variable {hB : Heap} {os : OsState} {C : Addr} {ρ ρ' : Rho} {σ σ' : Sto} {s s' : Shared}

theorem StG.at (G : StG hB os C ρ σ s) {r : Nat} {c : Cell} (e : σ[r]? = some c) : ∃ p, ρ[r]? = some p ∧ CellR hB C ρ s.heap c p := by
  have hl : r < σ.length := (List.getElem?_eq_some_iff.mp e).1
  have hl' : r < ρ.length := by rw [G.len]; exact hl
  exact ⟨ρ[r], List.getElem?_eq_getElem hl', G.cell r c _ e (List.getElem?_eq_getElem hl')⟩
theorem StG.mut (G : StG hB os C ρ σ s) {b : Addr} (h : inρ ρ b) : Mut s.heap b ∧ hB.get? b = none := by
  obtain ⟨p, hp, rfl⟩ := h
  obtain ⟨r, hr⟩ := List.getElem?_of_mem hp
  have hl : r < ρ.length := (List.getElem?_eq_some_iff.mp hr).1
  have hl' : r < σ.length := by rw [← G.len]; exact hl
  exact ⟨(G.cell r _ p (List.getElem?_eq_getElem hl') hr).mut, G.lo p hp⟩

theorem CellR.mono {n₀ n : Heap} {h h' : Heap} {M : Addr → Prop} {c : Cell} {p : Addr × Addr} (k : KeepH M h h') (hm : ∀ b, M b → Mut h b ∧ n₀.get? b = none) (g : Grow n ρ ρ') (h1 : ¬ M p.1)
    (h2 : ∀ size xs, c = .acc size xs → ¬ M p.2) (x : CellR n₀ C ρ h c p) : CellR n₀ C ρ' h' c p := by
  cases c with
  | list xs =>
    obtain ⟨vs, ⟨i, ho⟩, rs⟩ := x
    exact ⟨vs, ⟨i, k _ _ ho h1⟩, rs.mono k hm g⟩
  | acc size xs =>
    obtain ⟨vs, ⟨⟨i, hi⟩, hs, kk, t, j, hj⟩, rs⟩ := x
    exact ⟨vs, ⟨⟨i, k _ _ hi h1⟩, hs, kk, t, j, k _ _ hj (h2 _ _ rfl)⟩, rs.mono k hm g⟩
  | code b l c => exact ⟨x.1, x.2.elim fun ps q => ⟨ps, k _ _ q.1 h1, q.2⟩⟩

/-- a cell's place is no accumulator's dict -/
theorem StG.noDict (G : StG hB os C ρ σ s) {b : Addr} (h : inρ ρ b) {r : Nat} {p : Addr × Addr} {size : Int} {xs : List AV} (hp : ρ[r]? = some p) (hc : σ[r]? = some (.acc size xs)) : p.2 ≠ b := by
  rintro rfl
  obtain ⟨q, hq, e⟩ := h
  obtain ⟨i, hi⟩ := List.getElem?_of_mem hq
  have hl : i < ρ.length := (List.getElem?_eq_some_iff.mp hi).1
  have hl' : i < σ.length := by rw [← G.len]; exact hl
  have x := G.cell i _ q (List.getElem?_eq_getElem hl') hi
  obtain ⟨vs, ⟨_, hs, kk, t, j, hj⟩, _⟩ := G.cell r _ p hc hp
  rw [← e] at hj
  revert x
  cases σ[i] with
  | list ys =>
    rintro ⟨us, ⟨i', hi'⟩, _⟩
    rw [hj] at hi'
    have := congrArg Obj.cls (Option.some.inj hi')
    simp at this
  | acc k ys =>
    rintro ⟨us, ⟨⟨i', hi'⟩, _⟩, _⟩
    rw [hj] at hi'; cases hi'
  | code b l c =>
    rintro ⟨_, ps, hi', _⟩
    rw [hj] at hi'; cases hi'

theorem CellR.lies {n₀ : Heap} {h : Heap} {c : Cell} {p : Addr × Addr} (x : CellR n₀ C ρ h c p) : (h.get? p.1).isSome = true := by
  cases c with
  | list xs => obtain ⟨vs, ⟨k, ha⟩, _⟩ := x; rw [ha]; rfl
  | acc n xs => obtain ⟨vs, ⟨⟨k, ha⟩, _⟩, _⟩ := x; rw [ha]; rfl
  | code b l c => obtain ⟨_, ps, ha, _⟩ := x; rw [ha]; rfl
theorem StG.lies (G : StG hB os C ρ σ s) {b : Addr} (h : inρ ρ b) : (s.heap.get? b).isSome = true := by
  obtain ⟨p, hp, rfl⟩ := h
  obtain ⟨r, hr⟩ := List.getElem?_of_mem hp
  have hl : r < ρ.length := (List.getElem?_eq_some_iff.mp hr).1
  have hl' : r < σ.length := by rw [← G.len]; exact hl
  exact (G.cell r _ p (List.getElem?_eq_getElem hl') hr).lies

/-- one step of the run: cells are added, all but the cells stays -/
structure Step (ρ : Rho) (s : Shared) (ρ' : Rho) (s' : Shared) : Prop where
  grow : Grow s.heap ρ ρ'
  keep : KeepH (inρ ρ) s.heap s'.heap
  lies : ∀ b, inρ ρ b → (s'.heap.get? b).isSome = true
theorem Step.none (x : Step ρ s ρ' s') : ∀ b, s'.heap.get? b = none → s.heap.get? b = none := fun b h => by
  cases e : s.heap.get? b with
  | none => rfl
  | some o =>
    by_cases q : inρ ρ b
    · have := x.lies b q; rw [h] at this; cases this
    · rw [x.keep b o e q] at h; cases h
theorem Step.refl (G : StG hB os C ρ σ s) : Step ρ s ρ s := ⟨.refl, .refl, fun _ h => G.lies h⟩
theorem Step.trans {ρ'' : Rho} {s'' : Shared} (x : Step ρ s ρ' s') (y : Step ρ' s' ρ'' s'') : Step ρ s ρ'' s'' := by
  refine ⟨x.grow.trans y.grow x.none, x.keep.trans y.keep fun b o e => ?_, fun b h => ?_⟩
  · rintro ⟨p, hp, rfl⟩
    rcases x.grow.mem hp with q | q
    · exact ⟨p, q, rfl⟩
    · rw [q.1] at e; cases e
  · obtain ⟨p, hp, rfl⟩ := h
    obtain ⟨t, rfl, _⟩ := x.grow
    exact y.lies p.1 ⟨p, List.mem_append_left _ hp, rfl⟩
theorem Step.rel (x : Step ρ s ρ' s') (G : StG hB os C ρ σ s) {v : AV} {val : Value} (r : RelV hB ρ s.heap v val) : RelV hB ρ' s'.heap v val :=
  r.mono x.keep (fun _ h => G.mut h) x.grow
theorem Step.rels (x : Step ρ s ρ' s') (G : StG hB os C ρ σ s) {v : List AV} {val : List Value} (r : RelVs hB ρ s.heap v val) : RelVs hB ρ' s'.heap v val :=
  r.mono x.keep (fun _ h => G.mut h) x.grow

/-- the frame: its names, where they lie, apart from the cells -/
structure FmOk (n₀ : Heap) (env : Env) (ρ : Rho) (h : Heap) : Prop where
  kind : env.scope.kind = .function
  glob : env.globals = mainGlobals
  bui : env.builtins = builtinsNs
  ns : ∃ mm, h.Ns env.locals mm
  loL : n₀.get? env.locals = none
  cells : ∀ x, env.kindOf x = some .cell ∨ env.kindOf x = some .free → ∃ c, env.cells.lookup x = some c
  cellAt : ∀ x c, env.cells.lookup x = some c → n₀.get? c = none ∧ ∃ v, h.IsCell c v
  cinj : ∀ x y c, env.cells.lookup x = some c → env.cells.lookup y = some c → x = y
  sepL : ∀ p ∈ ρ, p.1 ≠ env.locals ∧ p.2 ≠ env.locals
  sepC : ∀ p ∈ ρ, ∀ x c, env.cells.lookup x = some c → p.1 ≠ c ∧ p.2 ≠ c

/-- where the frame bears a name's value -/
noncomputable def NameAt (env : Env) (h : Heap) (x : Str) (val : Value) : Prop :=
  (env.kindOf x = some .local ∧ ∃ mm, h.Ns env.locals mm ∧ mm x = some val) ∨
  ((env.kindOf x = some .cell ∨ env.kindOf x = some .free) ∧ ∃ c, env.cells.lookup x = some c ∧ h.IsCell c (some val))

noncomputable def Vars (n₀ : Heap) (env : Env) (m : Loc) (ρ : Rho) (h : Heap) : Prop :=
  ∀ x v, m.lookup x = some v → ∃ val, NameAt env h x val ∧ RelV n₀ ρ h v val

theorem Ns.keepAt {h h' : Heap} {a : Addr} {m : Str → Option Value} (hn : h.Ns a m) (k : ∀ o, h.get? a = some o → h'.get? a = some o) : h'.Ns a m :=
  let ⟨o, es, ep, e, r⟩ := hn; ⟨o, es, ep, k _ e, r⟩
theorem IsCell.keepAt {h h' : Heap} {a : Addr} {v : Option Value} (hn : h.IsCell a v) (k : ∀ o, h.get? a = some o → h'.get? a = some o) : h'.IsCell a v :=
  let ⟨o, e, r⟩ := hn; ⟨o, k _ e, r⟩

theorem FmOk.step {env : Env} {n₀ : Heap} (F : FmOk n₀ env ρ s.heap) (x : Step ρ s ρ' s') : FmOk n₀ env ρ' s'.heap := by
  have kL : ∀ o, s.heap.get? env.locals = some o → s'.heap.get? env.locals = some o := fun o e => x.keep _ _ e fun ⟨p, hp, q⟩ => (F.sepL p hp).1 q
  have kC : ∀ y c, env.cells.lookup y = some c → ∀ o, s.heap.get? c = some o → s'.heap.get? c = some o := fun y c hy o e => x.keep _ _ e fun ⟨p, hp, q⟩ => (F.sepC p hp y c hy).1 q
  refine ⟨F.kind, F.glob, F.bui, let ⟨mm, h⟩ := F.ns; ⟨mm, Ns.keepAt h kL⟩, F.loL, F.cells, fun y c hy => let ⟨l, v, h⟩ := F.cellAt y c hy; ⟨l, v, IsCell.keepAt h (kC y c hy)⟩, F.cinj, fun p hp => ?_, fun p hp y c hy => ?_⟩
  · rcases x.grow.mem hp with q | q
    · exact F.sepL p q
    · obtain ⟨mm, h⟩ := F.ns
      obtain ⟨o, _, _, ho, _⟩ := h
      exact ⟨(fun e => by rw [e, ho] at q; cases q.1), (fun e => by rw [e, ho] at q; cases q.2)⟩
  · rcases x.grow.mem hp with q | q
    · exact F.sepC p q y c hy
    · obtain ⟨_, v, h⟩ := F.cellAt y c hy
      obtain ⟨o, ho, _⟩ := h
      exact ⟨(fun e => by rw [e, ho] at q; cases q.1), (fun e => by rw [e, ho] at q; cases q.2)⟩

theorem NameAt.step {env : Env} {n₀ : Heap} (F : FmOk n₀ env ρ s.heap) (x : Step ρ s ρ' s') {y : Str} {val : Value} (n : NameAt env s.heap y val) : NameAt env s'.heap y val := by
  rcases n with ⟨hk, mm, hn, e⟩ | ⟨hk, c, hc, hv⟩
  · exact .inl ⟨hk, mm, Ns.keepAt hn fun o e => x.keep _ _ e fun ⟨p, hp, q⟩ => (F.sepL p hp).1 q, e⟩
  · exact .inr ⟨hk, c, hc, IsCell.keepAt hv fun o e => x.keep _ _ e fun ⟨p, hp, q⟩ => (F.sepC p hp y c hc).1 q⟩

theorem Vars.step {env : Env} {m : Loc} (V : Vars hB env m ρ s.heap) (G : StG hB os C ρ σ s) (F : FmOk hB env ρ s.heap) (x : Step ρ s ρ' s') : Vars hB env m ρ' s'.heap := fun y v e =>
  let ⟨val, n, r⟩ := V y v e
  ⟨val, n.step F x, x.rel G r⟩

/-- the whole of a state, a frame above -/
structure St (hB : Heap) (os : OsState) (C : Addr) (env : Env) (m : Loc) (ρ : Rho) (σ : Sto) (s : Shared) : Prop where
  g : StG hB os C ρ σ s
  f : FmOk hB env ρ s.heap
  v : Vars hB env m ρ s.heap
theorem St.step {env : Env} {m : Loc} (S : St hB os C env m ρ σ s) (x : Step ρ s ρ' s') (G : StG hB os C ρ' σ' s') : St hB os C env m ρ' σ' s' :=
  ⟨G, S.f.step x, S.v.step S.g S.f x⟩

/-- behind an expression -/
noncomputable def PostV (hB : Heap) (os : OsState) (C : Addr) (ρ : Rho) (s : Shared) (v : AV) (σ' : Sto) (val : Value) (s' : Shared) : Prop :=
  ∃ ρ', Step ρ s ρ' s' ∧ StG hB os C ρ' σ' s' ∧ RelV hB ρ' s'.heap v val
/-- tokens are of no weight -/
theorem StG.toks (G : StG hB os C ρ σ s) (t : Nat) : StG hB os C ρ σ { s with toks := t } := ⟨G.base, G.len, G.cell, G.lo, G.apart, G.gens, G.os, G.two⟩
theorem isSome_keep {h h' : Heap} {b : Addr} (k : ∀ o, h.get? b = some o → h'.get? b = some o) (x : (h.get? b).isSome = true) : (h'.get? b).isSome = true := by
  obtain ⟨o, ho⟩ := Option.isSome_iff_exists.mp x
  rw [k o ho]; rfl
theorem Step.toks (x : Step ρ s ρ' s') (t : Nat) : Step ρ s ρ' { s' with toks := t } := ⟨x.grow, x.keep, x.lies⟩

/-- any object laid or turned that is no cell: the heap keeps all -/
theorem StG.keeps (G : StG hB os C ρ σ s) {h' : Heap} (k : ∀ b o, s.heap.get? b = some o → h'.get? b = some o) (t : Nat) : StG hB os C ρ σ { s with heap := h', toks := t } := by
  refine ⟨fun b o' e => k b o' (G.base b o' e), G.len, fun r c p e1 e2 => ?_, G.lo, G.apart, G.gens, G.os, fun p hp => isSome_keep (k p.2) (G.two p hp)⟩
  exact (G.cell r c p e1 e2).mono (M := fun _ => False) (n := s.heap) (fun b o' e _ => k b o' e) (fun _ h => h.elim) .refl id (fun _ _ _ => id)
theorem Step.keeps (G : StG hB os C ρ σ s) {h' : Heap} (k : ∀ b o, s.heap.get? b = some o → h'.get? b = some o) (t : Nat) : Step ρ s ρ { s with heap := h', toks := t } :=
  ⟨.refl, fun b o' e _ => k b o' e, fun b h => by
    obtain ⟨o, ho⟩ := Option.isSome_iff_exists.mp (G.lies h)
    show (h'.get? b).isSome = true
    rw [k b o ho]; rfl⟩
/-- an object that is laid and is no cell -/
theorem StG.push (G : StG hB os C ρ σ s) (o : Obj) (t : Nat) : StG hB os C ρ σ { s with heap := s.heap.push o, toks := t } := G.keeps (fun _ _ e => Heap.get?_push_of_some o e) t
theorem Step.push (G : StG hB os C ρ σ s) (o : Obj) (t : Nat) : Step ρ s ρ { s with heap := s.heap.push o, toks := t } := Step.keeps G (fun _ _ e => Heap.get?_push_of_some o e) t

theorem get_size (h : Heap) : h.get? h.objs.size = none := by
  cases e : h.get? h.objs.size with
  | none => rfl
  | some o => exact absurd (Heap.lt_size e) (Nat.lt_irrefl _)
theorem StG.noneB (G : StG hB os C ρ σ s) {b : Addr} (h : s.heap.get? b = none) : hB.get? b = none := by
  cases e : hB.get? b with
  | none => rfl
  | some o => rw [G.base b o e] at h; cases h

/-- a list is made -/
theorem StG.newList (G : StG hB os C ρ σ s) {xs : List AV} {vs : List Value} (R : RelVs hB ρ s.heap xs vs) (t : Nat) :
    let s' : Shared := { s with heap := s.heap.push { cls := .type "list", data := .seq vs.toArray }, toks := t }
    StG hB os C (ρ ++ [(s.heap.objs.size, s.heap.objs.size)]) (σ ++ [.list xs]) s' ∧ Step ρ s (ρ ++ [(s.heap.objs.size, s.heap.objs.size)]) s' := by
  intro s'
  have G1 := G.push { cls := .type "list", data := .seq vs.toArray } t
  have gr : Grow s.heap ρ (ρ ++ [(s.heap.objs.size, s.heap.objs.size)]) := ⟨_, rfl, fun p hp => by simp at hp; subst hp; exact ⟨get_size _, get_size _⟩⟩
  have kp : ∀ b o', s.heap.get? b = some o' → s'.heap.get? b = some o' := fun b o' e => Heap.get?_push_of_some _ e
  refine ⟨⟨G1.base, by simp [G.len], fun r c p e1 e2 => ?_, fun p hp => ?_, ?_, G.gens, G.os, fun p hp => ?_⟩, gr, KeepH.of_all kp, (Step.push G { cls := .type "list", data := .seq vs.toArray } t).lies⟩
  · by_cases hr : r < σ.length
    · rw [List.getElem?_append_left hr] at e1
      rw [List.getElem?_append_left (by rw [G.len]; exact hr)] at e2
      exact (G.cell r c p e1 e2).mono (M := fun _ => False) (fun b o' e _ => kp b o' e) (fun _ h => h.elim) gr id (fun _ _ _ => id)
    · rw [List.getElem?_append_right (Nat.le_of_not_lt hr)] at e1
      rw [List.getElem?_append_right (by rw [G.len]; exact Nat.le_of_not_lt hr)] at e2
      rw [G.len] at e2
      generalize r - σ.length = k at e1 e2
      cases k with
      | succ k => simp at e1
      | zero =>
        simp at e1 e2
        subst e1; subst e2
        exact ⟨vs, ⟨_, Heap.get?_push_size _ rfl⟩, R.mono (M := fun _ => False) (fun b o' e _ => kp b o' e) (fun _ h => h.elim) gr⟩
  · rcases List.mem_append.mp hp with q | q
    · exact G.lo p q
    · simp at q; subst q
      exact G.noneB (get_size _)
  · rw [List.map_append, List.nodup_append]
    refine ⟨G.apart, by simp, fun a ha b hb => ?_⟩
    simp at hb; subst hb
    obtain ⟨p, hp, rfl⟩ := List.mem_map.mp ha
    obtain ⟨o, ho⟩ := Option.isSome_iff_exists.mp (G.lies ⟨p, hp, rfl⟩)
    exact Nat.ne_of_lt (Heap.lt_size ho)
  · rcases List.mem_append.mp hp with q | q
    · exact isSome_keep (kp p.2) (G.two p q)
    · simp at q; subst q
      show ((s.heap.push _).get? _).isSome = true
      rw [Heap.get?_push_size _ rfl]; rfl

/-- a cell is turned -/
theorem StG.turn (G : StG hB os C ρ σ s) {r : Nat} {p : Addr × Addr} {c : Cell} {h' : Heap} (hp : ρ[r]? = some p) (hc : σ[r]? = some c) {c' : Cell}
    (hs : Heap.SameBut p.1 s.heap h') (R : CellR hB C ρ h' c' p) (t : Nat) :
    StG hB os C ρ (σ.set r c') { s with heap := h', toks := t } ∧ Step ρ s ρ { s with heap := h', toks := t } := by
  have hin : inρ ρ p.1 := ⟨p, List.mem_of_getElem? hp, rfl⟩
  have kp : KeepH (· = p.1) s.heap h' := fun b o e n => (hs.2 b n).trans e
  have hm : ∀ b, b = p.1 → Mut s.heap b ∧ hB.get? b = none := fun b e => by subst e; exact G.mut hin
  have hl : ∀ b, inρ ρ b → (h'.get? b).isSome = true := fun b hb => by
    by_cases q : b = p.1
    · subst q; exact R.lies
    · obtain ⟨o, ho⟩ := Option.isSome_iff_exists.mp (G.lies hb)
      rw [kp b o ho q]; rfl
  refine ⟨⟨fun b o e => ?_, by simp [G.len], fun i c1 p1 e1 e2 => ?_, G.lo, G.apart, G.gens, G.os, fun q hq => ?_⟩, .refl, kp.weak fun b o _ e => by subst e; exact hin, hl⟩
  · refine kp b o (G.base b o e) fun q => ?_
    have := (G.mut hin).2
    rw [← q, e] at this
    cases this
  · by_cases hi : i = r
    · subst hi
      rw [hp] at e2; cases e2
      rw [List.getElem?_set_self (List.getElem?_eq_some_iff.mp hc).1] at e1
      cases e1
      exact R
    · rw [List.getElem?_set_ne (Ne.symm hi)] at e1
      refine (G.cell i c1 p1 e1 e2).mono kp hm (n := s.heap) .refl (fun q => hi ?_) fun n xs ec => ?_
      · have ap := G.apart
        rw [List.Nodup, List.pairwise_iff_getElem] at ap
        obtain ⟨l1, g1⟩ := List.getElem?_eq_some_iff.mp e2
        obtain ⟨l2, g2⟩ := List.getElem?_eq_some_iff.mp hp
        rcases Nat.lt_trichotomy i r with z | z | z
        · exact absurd (by rw [List.getElem_map, List.getElem_map, g1, g2, q]) (ap i r (by simpa using l1) (by simpa using l2) z)
        · exact z
        · exact absurd (by rw [List.getElem_map, List.getElem_map, g1, g2, q]) (ap r i (by simpa using l2) (by simpa using l1) z)
      · subst ec
        exact G.noDict hin e2 e1
  · by_cases z : q.2 = p.1
    · show (h'.get? q.2).isSome = true
      rw [z]; exact R.lies
    · exact isSome_keep (fun o e => kp _ o e z) (G.two q hq)

end

/-! runs that end told apart into their parts -/
theorem nn {α : Type} {x : α} {P : Prop} (h : (none : Option α) = some x) : P := by cases h
theorem bind1_inv {α β : Type} {o : Option α} {f : α → Option β} {r : β} (h : bind1 o f = some r) : ∃ a, o = some a ∧ f a = some r := by
  cases o with
  | none => cases h
  | some a => exact ⟨a, rfl, h⟩
theorem bind2_inv {α β γ : Type} {o : Option (α × β)} {f : α → β → Option γ} {r : γ} (h : bind2 o f = some r) : ∃ a b, o = some (a, b) ∧ f a b = some r := by
  cases o with
  | none => cases h
  | some p => exact ⟨p.1, p.2, rfl, h⟩
theorem guard_inv {α : Type} {c : Prop} [Decidable c] {x : Option α} {r : α} (h : (if c then x else none) = some r) : c ∧ x = some r := by
  by_cases q : c
  · rw [if_pos q] at h; exact ⟨q, h⟩
  · rw [if_neg q] at h; cases h
theorem asInt_inv {a : AV} {i : Int} (h : asInt a = some i) : a = .int i := by cases a <;> cases h <;> rfl
theorem asStr_inv {a : AV} {l : List Nat} (h : asStr a = some l) : a = .str l := by cases a <;> cases h <;> rfl
theorem asTup_inv {a : AV} {xs : List AV} (h : asTup a = some xs) : a = .tup xs := by cases a <;> cases h <;> rfl
theorem asRef_inv {a : AV} {r : Nat} (h : asRef a = some r) : a = .ref r := by cases a <;> cases h <;> rfl
theorem asBool_inv {a : AV} {b : Bool} (h : asBool a = some b) : a = .bool b := by cases a <;> cases h <;> rfl
theorem listAt_inv {σ : Sto} {r : Nat} {xs : List AV} (h : listAt σ r = some xs) : σ[r]? = some (.list xs) := by
  unfold listAt at h
  split at h
  · rename_i e; cases h; exact e
  · cases h
theorem isAccAt_inv {σ : Sto} {r : Nat} (h : isAccAt σ r = true) : ∃ n xs, σ[r]? = some (.acc n xs) := by
  unfold isAccAt at h
  split at h
  · rename_i e; exact ⟨_, _, e⟩
  · cases h
theorem one_inv {α : Type} {l : List α} {a : α} (h : one l = some a) : l = [a] := by
  match l, h with
  | [_], h => cases h; rfl
theorem two_inv {α : Type} {l : List α} {a b : α} (h : two l = some (a, b)) : l = [a, b] := by
  match l, h with
  | [_, _], h => cases h; rfl
theorem byV_inv {w : Option (AV × Sto)} {b : Bool} {σ : Sto} (h : byV w = some (b, σ)) : w = some (.bool b, σ) := by
  obtain ⟨v, σ1, e, h⟩ := bind2_inv h
  obtain ⟨c, h1, h⟩ := bind1_inv h
  cases h
  rw [e, asBool_inv h1]

section
variable {n₀ : Heap} {ρ : Rho} {h : Heap} {x : Value}
theorem RelV.intE {i : Int} (r : RelV n₀ ρ h (.int i) x) : ∃ t, x = .int i t := by cases r; exact ⟨_, rfl⟩
theorem RelV.boolE {b : Bool} (r : RelV n₀ ρ h (.bool b) x) : x = .bool b := by cases r; rfl
theorem RelV.strE {l : List Nat} (r : RelV n₀ ρ h (.str l) x) : ∃ t, x = .str ⟨l.toArray⟩ t := by cases r; exact ⟨_, rfl⟩
theorem RelV.tupE {xs : List AV} (r : RelV n₀ ρ h (.tup xs) x) : ∃ a vs, IsTup h a vs.toArray ∧ RelVs n₀ ρ h xs vs ∧ x = .ref a := by
  cases r with
  | tup t rs => exact ⟨_, _, t, rs, rfl⟩
theorem RelV.frzE {xs : List AV} (r : RelV n₀ ρ h (.frz xs) x) : ∃ a vs, (n₀.get? a).isSome = true ∧ h.IsList a vs.toArray ∧ RelVs n₀ ρ h xs vs ∧ x = .ref a := by
  cases r with
  | frz l t rs => exact ⟨_, _, l, t, rs, rfl⟩
theorem RelV.rngE {a b c : Int} (r : RelV n₀ ρ h (.rng a b c) x) : ∃ r t u v, IsRange h r a b c t u v ∧ x = .ref r := by
  cases r with
  | rng t => exact ⟨_, _, _, _, t, rfl⟩
theorem RelV.refE {i : Nat} (r : RelV n₀ ρ h (.ref i) x) : ∃ p : Addr × Addr, ρ[i]? = some p ∧ x = .ref p.1 := by
  cases r with
  | ref e => exact ⟨_, e, rfl⟩
theorem RelVs.nilE {vs : List Value} (r : RelVs n₀ ρ h [] vs) : vs = [] := by cases r; rfl
theorem RelVs.consE {a : AV} {xs : List AV} {vs : List Value} (r : RelVs n₀ ρ h (a :: xs) vs) : ∃ v us, RelV n₀ ρ h a v ∧ RelVs n₀ ρ h xs us ∧ vs = v :: us := by
  cases r with
  | cons r1 rs => exact ⟨_, _, r1, rs, rfl⟩
theorem RelVs.oneE {a : AV} {vs : List Value} (r : RelVs n₀ ρ h [a] vs) : ∃ v, RelV n₀ ρ h a v ∧ vs = [v] := by
  obtain ⟨v, us, r1, rs, rfl⟩ := r.consE
  exact ⟨v, r1, by rw [rs.nilE]⟩
theorem RelVs.twoE {a b : AV} {vs : List Value} (r : RelVs n₀ ρ h [a, b] vs) : ∃ v u, RelV n₀ ρ h a v ∧ RelV n₀ ρ h b u ∧ vs = [v, u] := by
  obtain ⟨v, us, r1, rs, rfl⟩ := r.consE
  obtain ⟨u, r2, rfl⟩ := rs.oneE
  exact ⟨v, u, r1, r2, rfl⟩
theorem RelVs.threeE {a b c : AV} {vs : List Value} (r : RelVs n₀ ρ h [a, b, c] vs) : ∃ v u w, RelV n₀ ρ h a v ∧ RelV n₀ ρ h b u ∧ RelV n₀ ρ h c w ∧ vs = [v, u, w] := by
  obtain ⟨v, us, r1, rs, rfl⟩ := r.consE
  obtain ⟨u, w, r2, r3, rfl⟩ := rs.twoE
  exact ⟨v, u, w, r1, r2, r3, rfl⟩
end
section
variable {prog : Program} {w : World} {A : Around} {hB : Heap} {os : OsState} {C : Addr} {ρ ρ' : Rho} {σ σ' : Sto} {s s' : Shared} {v : AV}
/-- what is told behind a step -/
noncomputable def KontG (hB : Heap) (os : OsState) (C : Addr) (ρ : Rho) (s : Shared) (v : AV) (σ' : Sto) (Q : Value → Shared → Prop) : Prop :=
  ∀ x s1 ρ1, Step ρ s ρ1 s1 → StG hB os C ρ1 σ' s1 → RelV hB ρ1 s1.heap v x → Q x s1
theorem KontG.step {Q : Value → Shared → Prop} {ρ1 : Rho} {s1 : Shared} (k : KontG hB os C ρ s v σ' Q) (T : Step ρ s ρ1 s1) : KontG hB os C ρ1 s1 v σ' Q :=
  fun x s2 ρ2 T2 G r => k x s2 ρ2 (T.trans T2) G r
theorem KontG.post {Q : Value → Shared → Prop} (k : KontG hB os C ρ s v σ' Q) {x : Value} {s1 : Shared} (h : PostV hB os C ρ s v σ' x s1) : Q x s1 :=
  let ⟨ρ1, T, G, r⟩ := h
  k x s1 ρ1 T G r
theorem PostV.kont : KontG hB os C ρ s v σ' (PostV hB os C ρ s v σ') := fun _ _ ρ1 T G r => ⟨ρ1, T, G, r⟩
theorem KontG.of {v0 : AV} {σ0 : Sto} {Q : Value → Shared → Prop} (k : KontG hB os C ρ s v σ' Q) (e : some (v0, σ0) = some (v, σ')) : KontG hB os C ρ s v0 σ0 Q := by cases e; exact k
theorem KontG.of1 {v0 : AV} {Q : Value → Shared → Prop} (k : KontG hB os C ρ s v σ' Q) (e : some v0 = some v) : KontG hB os C ρ s v0 σ' Q := by cases e; exact k
/-- a list's cell -/
theorem StG.listE (G : StG hB os C ρ σ s) {r : Nat} {xs : List AV} {p : Addr × Addr} (e : listAt σ r = some xs) (hp : ρ[r]? = some p) : ∃ vs : List Value, s.heap.PlainList p.1 vs.toArray ∧ RelVs hB ρ s.heap xs vs :=
  G.cell r _ p (listAt_inv e) hp
end
end Mine
end

section
open PySem PySem.W PyProof.Rows PySem.Calls
set_option maxRecDepth 100000
set_option linter.unusedSimpArgs false
namespace Mine

theorem sizeOk_le {n : Nat} (h : sizeOk n = true) : n ≤ 1000000 := Nat.le_of_ble_eq_true h
theorem intOk_le {i : Int} (h : intOk i = true) : i.natAbs ≤ 1000000000000 := Nat.le_of_ble_eq_true h
theorem sizeLine_eq' : sizeLine = 16777216 := by decide

noncomputable abbrev Fls : Value → Shared → Prop := fun _ _ => False

theorem ltL_iff : ∀ x y : List Nat, ltL x y = decide (x < y)
  | [], [] => by simp [ltL_z]
  | [], _ :: _ => by simp [ltL_0]
  | _ :: _, [] => by simp [ltL_z]
  | a :: x, b :: y => by
    have ih := ltL_iff x y
    simp only [ltL_c, ih]
    by_cases h : a < b
    · simp [h, List.cons_lt_cons_iff]
    · by_cases q : a = b
      · subst q; simp []
      · simp [h, q, List.cons_lt_cons_iff]

section
variable {prog : Program} {w : World} {A : Around} {hB : Heap} {os : OsState} {C : Addr} {ρ ρ' : Rho} {σ σ' : Sto} {s s' : Shared} {v : AV}

theorem PostV.now (G : StG hB os C ρ σ s) {v : AV} {val : Value} (r : RelV hB ρ s.heap v val) (t : Nat) : PostV hB os C ρ s v σ val { s with toks := t } :=
  ⟨ρ, (Step.refl G).toks t, G.toks t, r⟩
theorem PostV.str (G : StG hB os C ρ σ s) {l : List Nat} {x : Str} (e : x.cps.toList = l) (u t : Nat) : PostV hB os C ρ s (.str l) σ (.str x u) { s with toks := t } := by
  subst e
  exact .now G (.str _ u) t
theorem PostV.bool (G : StG hB os C ρ σ s) (b : Bool) (t : Nat) : PostV hB os C ρ s (.bool b) σ (.bool b) { s with toks := t } := .now G (.bool b) t
theorem PostV.list (G : StG hB os C ρ σ s) {xs : List AV} {vs : List Value} (R : RelVs hB ρ s.heap xs vs) (t : Nat) :
    PostV hB os C ρ s (.ref σ.length) (σ ++ [.list xs]) (.ref s.heap.objs.size) { s with heap := s.heap.push { cls := .type "list", data := .seq vs.toArray }, toks := t } := by
  obtain ⟨G', S'⟩ := G.newList R t
  refine ⟨_, S', G', ?_⟩
  have : (ρ ++ [(s.heap.objs.size, s.heap.objs.size)])[σ.length]? = some (s.heap.objs.size, s.heap.objs.size) := by
    rw [← G.len, List.getElem?_append_right (Nat.le_refl _)]; simp
  exact .ref this
theorem PostV.tuple (G : StG hB os C ρ σ s) {xs : List AV} {vs : List Value} (R : RelVs hB ρ s.heap xs vs) (t : Nat) :
    PostV hB os C ρ s (.tup xs) σ (.ref s.heap.objs.size) { s with heap := s.heap.push { cls := .type "tuple", data := .seq vs.toArray }, toks := t } :=
  ⟨ρ, Step.push G _ t, G.push _ t, .tup ⟨_, Heap.get?_push_size _ rfl, rfl, _, rfl⟩ ((Step.push G _ t).rels G R)⟩

theorem foldl_replicate (n : Nat) (l : List Nat) : ∀ acc : Array Nat, ((List.replicate n l.toArray).foldl (· ++ ·) acc).toList = acc.toList ++ (List.replicate n l).flatten := by
  induction n with
  | zero => intro acc; simp
  | succ n ih => intro acc; simp only [List.replicate_succ, List.foldl_cons, List.flatten_cons, ih, Array.toList_append, List.append_assoc]

theorem mul_int_str {n : Int} {t u : Tok} {l : List Nat} (h1 : n.natAbs ≤ 1000000) (h2 : l.length ≤ 1000000) (h3 : n.natAbs * l.length ≤ 1000000) {Q : Value → Shared → Prop} {E : Value → Shared → Prop}
    (h : ∀ x t' tk, x.cps.toList = mulText n l → Q (.str x t') { s with toks := tk }) : wpAny (model prog w) A (binaryOp .Mult (.int n t) (.str ⟨l.toArray⟩ u)) Q E s := by
  have hok : MulOk ⟨l.toArray⟩ n := by
    have hl : (⟨l.toArray⟩ : Str).length = l.length := by simp [Str.length]
    have hp : ¬ n < 1 → l.length * n.toNat ≤ 1000000 := fun h0 => by
      have : n.toNat = n.natAbs := by omega
      rw [this, Nat.mul_comm]; exact h3
    refine ⟨?_, fun a _ => ?_, fun a _ => ?_⟩
    · have a1 : ¬ n < -(2 ^ 63 : Int) := by omega
      have a2 : ¬ n ≥ (2 ^ 63 : Int) := by omega
      rw [decide_eq_false a1, decide_eq_false a2]; rfl
    · have q := hp a
      have e : ((l.length * n.toNat : Nat) : Int) = (l.length : Int) * n := by rw [Int.natCast_mul, Int.toNat_of_nonneg (by omega)]
      have h3' : (l.length : Int) * n ≤ 2 ^ 63 - 1 := by rw [← e]; omega
      have h4 : (l.length : Int) ≤ (2 ^ 63 - 1) / n := (Int.le_ediv_iff_mul_le (by omega)).mpr h3'
      rw [hl]; omega
    · rw [hl]
      have q := hp a
      exact short24 (by omega)
  refine lm_binaryOp_repeat_right (T := "str") (U := "int") (by decide) (fun s' => typeIs_int s' n t) (typeIs_str s _ u) PySem.F.fills_int_mul noFill_str_mul PySem.F.slot_int_mul lm_noRepeat_int repeat_str PySem.F.slot_int_index.lookup ?_
  refine call_gives PySem.F.slot_int_mul (typeIs_int s n t) PySem.F.entry_int_mul (PySem.F.args_int_mul_2 _ _) (AutoIntG3.int___mul___int_str_0 n t _ u) ⟨rfl, typeIs_str _ _ _, ?_⟩
  refine call_gives PySem.F.slot_str_mul (typeIs_str s _ u) PySem.F.entry_str_mul (PySem.F.args_str_mul_2 _ _) (gives_str_mul _ n u t hok.1 hok.2.1 hok.2.2) ?_
  by_cases c1 : n < 1
  · rw [if_pos c1]
    refine ⟨by decide, h _ _ _ ?_⟩
    have : n.toNat = 0 := by omega
    simp [mulText, this, Str.empty]
  · rw [if_neg c1]
    by_cases c2 : (n == 1 || (⟨l.toArray⟩ : Str).length == 0) = true
    · rw [if_pos c2]
      refine h _ _ s.toks ?_
      rw [Bool.or_eq_true, beq_iff_eq, beq_iff_eq] at c2
      rcases c2 with rfl | c2
      · simp [mulText]
      · have : l = [] := by simpa [Str.length] using c2
        subst this
        simp [mulText]
    · rw [if_neg c2]
      have e : (((List.replicate n.toNat l.toArray).foldl (· ++ ·) #[]) : Array Nat).toList = mulText n l := by rw [foldl_replicate]; simp [mulText]
      refine ⟨?_, h _ _ _ e⟩
      show (Array.size _) ≤ sizeLine
      rw [← Array.length_toList, e, sizeLine_eq']
      have : n.toNat = n.natAbs := by omega
      simp only [mulText, List.length_flatten, List.map_replicate, List.sum_replicate_nat, this]
      omega

theorem KontG.now (G : StG hB os C ρ σ s) {Q : Value → Shared → Prop} (k : KontG hB os C ρ s v σ Q) {val : Value} (r : RelV hB ρ s.heap v val) (t : Nat) : Q val { s with toks := t } :=
  k.post (.now G r t)
theorem KontG.newList (G : StG hB os C ρ σ s) {Q : Value → Shared → Prop} {xs : List AV} (k : KontG hB os C ρ s (.ref σ.length) (σ ++ [.list xs]) Q) {vs : List Value} (R : RelVs hB ρ s.heap xs vs) (t : Nat) :
    Q (.ref s.heap.objs.size) { s with heap := s.heap.push { cls := .type "list", data := .seq vs.toArray }, toks := t } := k.post (.list G R t)

theorem lists_ok {xs ys : List AV} {p q : Addr × Addr} {vs us : List Value} {Q : Value → Shared → Prop} (G : StG hB os C ρ σ s) (hl : s.heap.PlainList p.1 vs.toArray) (r1 : RelVs hB ρ s.heap xs vs) (hl2 : s.heap.PlainList q.1 us.toArray) (r2 : RelVs hB ρ s.heap ys us)
    (hk : sizeOk (xs.length + ys.length) = true) (k : KontG hB os C ρ s (.ref σ.length) (σ ++ [.list (xs ++ ys)]) Q) : wpAny (model prog w) A (binaryOp .Add (.ref p.1) (.ref q.1)) Q Fls s := by
  have hk := sizeOk_le hk
  have l1 := r1.length
  have l2 := r2.length
  obtain ⟨n, ho⟩ := hl
  obtain ⟨n2, ho2⟩ := hl2
  have e1 : vs.toArray ++ us.toArray = (vs ++ us).toArray := by simp
  refine concat_meets ⟨_, ho, rfl⟩ ⟨_, ho2, rfl⟩ noFill_list_add seq_list_add PySem.F.slot_list_add PySem.F.entry_list_add (PySem.F.args_list_add_2 _ _) (list_addW p.1 q.1 vs.toArray us.toArray n n2 none none #[] #[] (by simp [sizeLine_eq']; omega)) ⟨ho, ho2, ?_⟩
  rw [e1]
  exact k.newList G (r1.append r2) _

section
variable {a b : AV} {x y : Value} {Q : Value → Shared → Prop}
theorem addop_ok (e : binop .Add a b σ = some (v, σ')) (G : StG hB os C ρ σ s) (ra : RelV hB ρ s.heap a x) (rb : RelV hB ρ s.heap b y) (k : KontG hB os C ρ s v σ' Q) : wpAny (model prog w) A (binaryOp .Add x y) Q Fls s := by
  cases a with
  | int i =>
    obtain ⟨j, hb, e1⟩ := bind1_inv e
    rw [asInt_inv hb] at rb
    obtain ⟨_, rfl⟩ := ra.intE
    obtain ⟨_, rfl⟩ := rb.intE
    exact add_int ((k.of e1).now G (.int _ _) _)
  | str l =>
    obtain ⟨j, hb, e1⟩ := bind1_inv e
    obtain ⟨hk, e2⟩ := guard_inv e1
    have hk := sizeOk_le hk
    rw [asStr_inv hb] at rb
    obtain ⟨_, rfl⟩ := ra.strE
    obtain ⟨_, rfl⟩ := rb.strE
    refine add_str (fun t' tk => (k.of e2).post (.str G (by show (Array.append _ _).toList = _; simp) _ _)) ?_
    simp [Str.length, sizeLine_eq']; omega
  | ref r =>
    obtain ⟨q, hb, e1⟩ := bind1_inv e
    obtain ⟨xs, h1, e2⟩ := bind1_inv e1
    obtain ⟨ys, h2, e3⟩ := bind1_inv e2
    obtain ⟨hk, e4⟩ := guard_inv e3
    rw [asRef_inv hb] at rb
    obtain ⟨p, hp, rfl⟩ := ra.refE
    obtain ⟨q, hq, rfl⟩ := rb.refE
    obtain ⟨_, hl, r1⟩ := G.listE h1 hp
    obtain ⟨_, hl2, r2⟩ := G.listE h2 hq
    exact lists_ok G hl r1 hl2 r2 hk (k.of e4)
  | _ => cases e
theorem two_ints {a b : AV} {x y : Value} {f : Int → Int → Option (AV × Sto)} {r : AV × Sto} (e : (bind1 (asInt a) fun i => bind1 (asInt b) fun j => f i j) = some r) (ra : RelV hB ρ s.heap a x) (rb : RelV hB ρ s.heap b y) :
    ∃ i j t u, x = .int i t ∧ y = .int j u ∧ f i j = some r := by
  obtain ⟨i, ha, e1⟩ := bind1_inv e
  obtain ⟨j, hb, e2⟩ := bind1_inv e1
  rw [asInt_inv ha] at ra
  rw [asInt_inv hb] at rb
  obtain ⟨t, rfl⟩ := ra.intE
  obtain ⟨u, rfl⟩ := rb.intE
  exact ⟨i, j, t, u, rfl, rfl, e2⟩
theorem mulop_ok (e : binop .Mult a b σ = some (v, σ')) (G : StG hB os C ρ σ s) (ra : RelV hB ρ s.heap a x) (rb : RelV hB ρ s.heap b y) (k : KontG hB os C ρ s v σ' Q) : wpAny (model prog w) A (binaryOp .Mult x y) Q Fls s := by
  obtain ⟨i, ha, e1⟩ := bind1_inv e
  rw [asInt_inv ha] at ra
  obtain ⟨_, rfl⟩ := ra.intE
  cases b with
  | int j =>
    obtain ⟨hk, e2⟩ := guard_inv e1
    have := intOk_le (Bool.and_eq_true_iff.mp hk).1
    obtain ⟨_, rfl⟩ := rb.intE
    exact mul_int ((k.of e2).now G (.int _ _) _) (.of_left (intBits_le_64 (by omega) (by omega)))
  | str l =>
    obtain ⟨hk, e2⟩ := guard_inv e1
    simp only [Bool.and_eq_true] at hk
    obtain ⟨_, rfl⟩ := rb.strE
    exact mul_int_str (sizeOk_le hk.1.1) (sizeOk_le hk.1.2) (sizeOk_le hk.2) fun x t' tk q => (k.of e2).post (.str G q _ _)
  | _ => cases e1
theorem binop_ok {op : Operator} (e : binop op a b σ = some (v, σ')) (G : StG hB os C ρ σ s) (ra : RelV hB ρ s.heap a x) (rb : RelV hB ρ s.heap b y) (k : KontG hB os C ρ s v σ' Q) : wpAny (model prog w) A (binaryOp op x y) Q Fls s := by
  cases op with
  | Add => exact addop_ok e G ra rb k
  | Mult => exact mulop_ok e G ra rb k
  | Sub =>
    obtain ⟨i, j, _, _, rfl, rfl, e1⟩ := two_ints e ra rb
    exact sub_int ((k.of e1).now G (.int _ _) _)
  | FloorDiv =>
    obtain ⟨i, j, _, _, rfl, rfl, e1⟩ := two_ints e ra rb
    obtain ⟨hk, e2⟩ := guard_inv e1
    rw [← Int.fdiv_eq_ediv_of_nonneg _ (by omega)] at e2
    exact floordiv_int (by omega) ((k.of e2).now G (.int _ _) _) (.inl (PyProof.noPylong_small (by omega)))
  | Mod =>
    obtain ⟨i, j, _, _, rfl, rfl, e1⟩ := two_ints e ra rb
    obtain ⟨hk, e2⟩ := guard_inv e1
    rw [← Int.fmod_eq_emod_of_nonneg _ (by omega)] at e2
    exact mod_int' (by omega) ((k.of e2).now G (.int _ _) _)
  | _ => cases e
end
end
end Mine
end

section
open PySem PySem.W PyProof.Rows PySem.Calls PySem.SeqAt
set_option maxRecDepth 100000
set_option linter.unusedSimpArgs false
namespace Mine

section
variable {prog : Program} {w : World} {A : Around} {hB : Heap} {os : OsState} {C : Addr} {ρ ρ' : Rho} {σ σ' : Sto} {s s' : Shared} {v : AV}

theorem RelV.str_inv {n₀ : Heap} {h : Heap} {y : AV} {x : Str} {t : Tok} (r : RelV n₀ ρ h y (.str x t)) : y = .str x.cps.toList := by
  cases r; simp
theorem RelV.ref_inv {n₀ : Heap} {h : Heap} {y : AV} {a : Addr} {P : Prop} (r : RelV n₀ ρ h y (.ref a)) (h1 : ∀ xs vs, y = .tup xs → IsTup h a vs.toArray → RelVs n₀ ρ h xs vs → P) (h2 : ∀ b c d t u v, y = .rng b c d → IsRange h a b c d t u v → P)
    (h3 : ∀ xs vs, y = .frz xs → (n₀.get? a).isSome = true → h.IsList a vs.toArray → RelVs n₀ ρ h xs vs → P) (h4 : ∀ i p, y = .ref i → ρ[i]? = some p → p.1 = a → P) : P := by
  cases y with
  | tup xs => obtain ⟨_, vs, t, rs, e⟩ := r.tupE; cases e; exact h1 xs vs rfl t rs
  | rng b c d => obtain ⟨_, _, _, _, t, e⟩ := r.rngE; cases e; exact h2 _ _ _ _ _ _ rfl t
  | frz xs => obtain ⟨_, vs, l, t, rs, e⟩ := r.frzE; cases e; exact h3 xs vs rfl l t rs
  | ref i => obtain ⟨p, hp, e⟩ := r.refE; exact h4 i p rfl hp (by cases e; rfl)
  | _ => cases r
theorem seq_inj {o : Obj} {vs us : List Value} {n k : Nat} (h : o.data = .seq vs.toArray n) (h' : o.data = .seq us.toArray k) : vs = us := by
  rw [h] at h'
  injection h' with e _
  simpa using congrArg Array.toList e

theorem tup_rng {h : Heap} {a : Addr} {vs : Array Value} {b c d : Int} {t u v : Tok} (x : IsTup h a vs) (y : IsRange h a b c d t u v) : False := by
  obtain ⟨o, ho, hc, _⟩ := x
  have y : h.get? a = _ := y
  rw [ho] at y; cases y; simp at hc
theorem tup_list {h : Heap} {a : Addr} {vs us : Array Value} (x : IsTup h a vs) (y : h.IsList a us) : False := by
  obtain ⟨o, ho, hc, _⟩ := x
  obtain ⟨o', ho', hc', _⟩ := y
  rw [ho] at ho'; cases ho'; rw [hc] at hc'; exact absurd hc' (by decide)
theorem rng_list {h : Heap} {a : Addr} {us : Array Value} {b c d : Int} {t u v : Tok} (x : IsRange h a b c d t u v) (y : h.IsList a us) : False := by
  have x : h.get? a = _ := x
  obtain ⟨o', ho', hc', _⟩ := y
  rw [ho'] at x; cases x; simp at hc'
theorem RelVs.injOf {n₀ : Heap} {h : Heap} : ∀ {xs ys : List AV} {vs : List Value}, (∀ x ∈ xs, ∀ y v, RelV n₀ ρ h x v → RelV n₀ ρ h y v → x = y) → RelVs n₀ ρ h xs vs → RelVs n₀ ρ h ys vs → xs = ys
  | [], ys, vs, _, r, q => by
    rw [r.nilE] at q
    cases ys with
    | nil => rfl
    | cons y ys => obtain ⟨_, _, _, _, e⟩ := q.consE; cases e
  | x :: xs, ys, vs, ih, r, q => by
    obtain ⟨v, us, r1, rs, rfl⟩ := r.consE
    cases ys with
    | nil => cases q.nilE
    | cons y ys =>
      obtain ⟨_, _, q1, qs, e⟩ := q.consE
      cases e
      rw [ih x (by simp) y v r1 q1, RelVs.injOf (fun x hx => ih x (by simp [hx])) rs qs]

theorem inj_aux (G : StG hB os C ρ σ s) : ∀ (n : Nat) (x y : AV) (val : Value), sizeOf x < n → RelV hB ρ s.heap x val → RelV hB ρ s.heap y val → x = y
  | 0, _, _, _, h, _, _ => absurd h (Nat.not_lt_zero _)
  | n + 1, x, y, val, h, r, q => by
    cases x with
    | none => cases r; cases q; rfl
    | bool b => rw [r.boolE] at q; cases q; rfl
    | int i => obtain ⟨_, rfl⟩ := r.intE; cases q; rfl
    | str l => obtain ⟨_, rfl⟩ := r.strE; rw [q.str_inv]
    | tup xs =>
      obtain ⟨a, vs, t, rs, rfl⟩ := r.tupE
      have ih : ∀ x ∈ xs, ∀ y v, RelV hB ρ s.heap x v → RelV hB ρ s.heap y v → x = y := fun x hx y v => inj_aux G n x y v (by have := List.sizeOf_lt_of_mem hx; simp at h; omega)
      refine q.ref_inv (fun ys us e t' rs' => ?_) (fun _ _ _ _ _ _ _ t' => (tup_rng t t').elim) (fun _ _ _ _ t' _ => (tup_list t t').elim) (fun i p _ hp e => (by rw [← e] at t; exact ((G.mut ⟨p, List.mem_of_getElem? hp, rfl⟩).1.noTup t).elim))
      obtain ⟨o, ho, _, _, hd⟩ := t
      obtain ⟨o', ho', _, _, hd'⟩ := t'
      rw [ho] at ho'; cases ho'
      cases seq_inj hd hd'
      rw [e, RelVs.injOf ih rs rs']
    | rng b c d =>
      obtain ⟨a, _, _, _, t, rfl⟩ := r.rngE
      refine q.ref_inv (fun _ _ _ t' _ => (tup_rng t' t).elim) (fun _ _ _ _ _ _ e t' => ?_) (fun _ _ _ _ t' _ => (rng_list t t').elim) (fun i p _ hp e => (by rw [← e] at t; exact ((G.mut ⟨p, List.mem_of_getElem? hp, rfl⟩).1.noRange t).elim))
      have t : s.heap.get? a = _ := t
      have := Option.some.inj (t.symm.trans t')
      simp at this
      obtain ⟨⟨e1, _⟩, ⟨e2, _⟩, ⟨e3, _⟩⟩ := this
      rw [e, e1, e2, e3]
    | frz xs =>
      obtain ⟨a, vs, l, t, rs, rfl⟩ := r.frzE
      have ih : ∀ x ∈ xs, ∀ y v, RelV hB ρ s.heap x v → RelV hB ρ s.heap y v → x = y := fun x hx y v => inj_aux G n x y v (by have := List.sizeOf_lt_of_mem hx; simp at h; omega)
      refine q.ref_inv (fun _ _ _ t' _ => (tup_list t' t).elim) (fun _ _ _ _ _ _ _ t' => (rng_list t' t).elim) (fun ys us e _ t' rs' => ?_) (fun i p _ hp e => (by rw [← e, (G.mut ⟨p, List.mem_of_getElem? hp, rfl⟩).2] at l; cases l))
      obtain ⟨o, ho, _, _, hd⟩ := t
      obtain ⟨o', ho', _, _, hd'⟩ := t'
      rw [ho] at ho'; cases ho'
      cases seq_inj hd hd'
      rw [e, RelVs.injOf ih rs rs']
    | ref r' =>
      obtain ⟨p, hp, rfl⟩ := r.refE
      have hin : inρ ρ p.1 := ⟨p, List.mem_of_getElem? hp, rfl⟩
      refine q.ref_inv (fun _ _ _ t' _ => ((G.mut hin).1.noTup t').elim) (fun _ _ _ _ _ _ _ t' => ((G.mut hin).1.noRange t').elim) (fun _ _ _ l _ _ => (by rw [(G.mut hin).2] at l; cases l)) (fun i q' e hq e1 => ?_)
      have ap := G.apart
      rw [List.Nodup, List.pairwise_iff_getElem] at ap
      obtain ⟨l1, g1⟩ := List.getElem?_eq_some_iff.mp hp
      obtain ⟨l2, g2⟩ := List.getElem?_eq_some_iff.mp hq
      rw [e]
      rcases Nat.lt_trichotomy r' i with z | z | z
      · exact absurd (by rw [List.getElem_map, List.getElem_map, g1, g2, e1]) (ap r' i (by simpa using l1) (by simpa using l2) z)
      · rw [z]
      · exact absurd (by rw [List.getElem_map, List.getElem_map, g1, g2, e1]) (ap i r' (by simpa using l2) (by simpa using l1) z)
/-- a value of the machine's tells one thing alone -/
theorem RelV.inj (G : StG hB os C ρ σ s) {x y : AV} {val : Value} (r : RelV hB ρ s.heap x val) (q : RelV hB ρ s.heap y val) : x = y := inj_aux G _ x y val (Nat.lt_succ_self _) r q

theorem beq_str (l l' : List Nat) : (l == l') = ((⟨l.toArray⟩ : Str) == ⟨l'.toArray⟩) := by rw [← PySem.SeqAt.str_beq]

theorem eq0_at {x y : AV} {a b : Value} {c : Bool} (e : eq0 x y = some c) (ra : RelV hB ρ s.heap x a) (rb : RelV hB ρ s.heap y b) : EqAt A s a b c := by
  cases x with
  | int i =>
    obtain ⟨j, hb, e⟩ := bind1_inv e
    cases asInt_inv hb; cases e
    obtain ⟨_, rfl⟩ := ra.intE
    obtain ⟨_, rfl⟩ := rb.intE
    exact EqAt.int_int _ _ _ _
  | str l =>
    obtain ⟨j, hb, e⟩ := bind1_inv e
    cases asStr_inv hb; cases e
    obtain ⟨_, rfl⟩ := ra.strE
    obtain ⟨_, rfl⟩ := rb.strE
    rw [beq_str]
    exact EqAt.str_str _ _ _ _
  | _ => cases e

/-- what two lists of values tell item by item -/
noncomputable def pairB (f : AV → AV → Option Bool) (xs ys : List AV) (j : Nat) : Bool := match xs[j]?, ys[j]? with | some x, some y => (f x y).getD false | _, _ => false

theorem pairB_zero {f : AV → AV → Option Bool} {x y : AV} {xs ys : List AV} : pairB f (x :: xs) (y :: ys) 0 = (f x y).getD false := rfl
theorem pairB_succ {f : AV → AV → Option Bool} {x y : AV} {xs ys : List AV} {j : Nat} : pairB f (x :: xs) (y :: ys) (j + 1) = pairB f xs ys j := by simp [pairB]


/-- what a list of answers is made of -/
theorem pairs_spec {f : AV → AV → Option Bool} {g : List AV → List AV → Option Bool} (h0 : g [] [] = some true) (h1 : ∀ x xs y ys, g (x :: xs) (y :: ys) = bind1 (f x y) fun a => bind1 (g xs ys) fun b => some (a && b))
    (h2 : ∀ y ys, g [] (y :: ys) = none) (h3 : ∀ x xs, g (x :: xs) [] = none) : ∀ {xs ys : List AV} {c : Bool}, g xs ys = some c → xs.length = ys.length ∧
    (∀ (j : Nat) x y, xs[j]? = some x → ys[j]? = some y → ∃ b, f x y = some b) ∧ c = (List.range xs.length).all (pairB f xs ys)
  | [], [], c, e => by rw [h0] at e; cases e; simp
  | [], _ :: _, c, e => by rw [h2] at e; cases e
  | _ :: _, [], c, e => by rw [h3] at e; cases e
  | x :: xs, y :: ys, c, e => by
    rw [h1] at e
    obtain ⟨a, h4, e⟩ := bind1_inv e
    obtain ⟨b, h5, e⟩ := bind1_inv e
    cases e
    obtain ⟨i1, i2, i3⟩ := pairs_spec h0 h1 h2 h3 h5
    refine ⟨by simp [i1], fun j x' y' ex ey => ?_, ?_⟩
    · cases j with
      | zero => simp at ex ey; subst ex; subst ey; exact ⟨_, h4⟩
      | succ j => simp at ex ey; exact i2 j x' y' ex ey
    · rw [List.length_cons, List.range_succ_eq_map, List.all_cons, List.all_map, i3]
      simp [pairB_zero, pairB_succ, h4, Function.comp_def]
theorem eq0s_spec {xs ys : List AV} {c : Bool} (e : eq0s xs ys = some c) : xs.length = ys.length ∧ (∀ (j : Nat) x y, xs[j]? = some x → ys[j]? = some y → ∃ b, eq0 x y = some b) ∧ c = (List.range xs.length).all (pairB eq0 xs ys) :=
  pairs_spec rfl (fun _ _ _ _ => rfl) (fun _ _ => rfl) (fun _ _ => rfl) e
theorem eqAVs_spec {xs ys : List AV} {c : Bool} (e : eqAVs xs ys = some c) : xs.length = ys.length ∧ (∀ (j : Nat) x y, xs[j]? = some x → ys[j]? = some y → ∃ b, eqAV x y = some b) ∧ c = (List.range xs.length).all (pairB eqAV xs ys) :=
  pairs_spec rfl (fun _ _ _ _ => rfl) (fun _ _ => rfl) (fun _ _ => rfl) e

/-- item by item, at the machine -/
theorem pairs_at {f : AV → AV → Option Bool} {xs ys : List AV} {vs us : List Value} (hf : ∀ x y a b c, f x y = some c → RelV hB ρ s.heap x a → RelV hB ρ s.heap y b → EqAt A.in1 s a b c)
    (i2 : ∀ (j : Nat) x y, xs[j]? = some x → ys[j]? = some y → ∃ b, f x y = some b) (ra : RelVs hB ρ s.heap xs vs) (rb : RelVs hB ρ s.heap ys us) :
    ∀ j (h1 : j < vs.toArray.size) (h2 : j < us.toArray.size), EqAt A.in1 s vs.toArray[j] us.toArray[j] (pairB f xs ys j) := by
  intro j h1 h2
  have h1' : j < xs.length := by rw [ra.length]; exact h1
  have h2' : j < ys.length := by rw [rb.length]; exact h2
  obtain ⟨x', e1, r1⟩ := ra.get (List.getElem?_eq_getElem h1')
  obtain ⟨y', e2, r2⟩ := rb.get (List.getElem?_eq_getElem h2')
  obtain ⟨b, hb⟩ := i2 j _ _ (List.getElem?_eq_getElem h1') (List.getElem?_eq_getElem h2')
  have ex : vs.toArray[j] = x' := Option.some.inj ((List.getElem?_eq_getElem (l := vs) h1).symm.trans e1)
  have ey : us.toArray[j] = y' := Option.some.inj ((List.getElem?_eq_getElem (l := us) h2).symm.trans e2)
  have : pairB f xs ys j = b := by simp [pairB, List.getElem?_eq_getElem h1', List.getElem?_eq_getElem h2', hb]
  rw [ex, ey, this]
  exact hf _ _ _ _ _ hb r1 r2
theorem eq0s_tup {xs ys : List AV} {vs us : List Value} {c : Bool} (e : eq0s xs ys = some c) (ra : RelVs hB ρ s.heap xs vs) (rb : RelVs hB ρ s.heap ys us) :
    (∀ j (h1 : j < vs.toArray.size) (h2 : j < us.toArray.size), EqAt A.in1 s vs.toArray[j] us.toArray[j] (pairB eq0 xs ys j)) ∧
    ((List.range (min vs.toArray.size us.toArray.size)).all (pairB eq0 xs ys) && vs.toArray.size == us.toArray.size) = c := by
  obtain ⟨i1, i2, i3⟩ := eq0s_spec e
  refine ⟨pairs_at (fun _ _ _ _ _ => eq0_at) i2 ra rb, ?_⟩
  have e1 : vs.toArray.size = xs.length := ra.length.symm
  have e2 : us.toArray.size = xs.length := rb.length.symm.trans i1.symm
  rw [e1, e2, i3, Nat.min_self]
  simp only [beq_self_eq_true, Bool.and_true]
theorem eqAV_inv {x y : AV} {c : Bool} (e : eqAV x y = some c) : (eq0 x y = some c) ∨ ∃ xs ys, x = .tup xs ∧ y = .tup ys ∧ eq0s xs ys = some c := by
  cases x with
  | tup xs =>
    obtain ⟨ys, h, e⟩ := bind1_inv e
    exact .inr ⟨xs, ys, rfl, asTup_inv h, e⟩
  | _ => exact .inl e
theorem eq0s_same {xs : List AV} {c : Bool} (e : eq0s xs xs = some c) : c = true := by
  obtain ⟨_, i2, i3⟩ := eq0s_spec e
  rw [i3, List.all_eq_true]
  intro j hj
  have hj' : j < xs.length := List.mem_range.mp hj
  obtain ⟨b, hb⟩ := i2 j _ _ (List.getElem?_eq_getElem hj') (List.getElem?_eq_getElem hj')
  simp only [pairB, List.getElem?_eq_getElem hj', hb, Option.getD_some]
  generalize xs[j] = x at hb
  cases x with
  | int i =>
    have h : some (i == i) = some b := hb
    cases h; exact beq_self_eq_true i
  | str l =>
    have h : some (l == l) = some b := hb
    cases h; exact beq_self_eq_true l
  | _ => cases hb
theorem eqAV_at (G : StG hB os C ρ σ s) {x y : AV} {a b : Value} {c : Bool} (e : eqAV x y = some c) (ra : RelV hB ρ s.heap x a) (rb : RelV hB ρ s.heap y b) (hu : A.units < cLine) : EqAt A s a b c := by
  rcases eqAV_inv e with e | ⟨xs, ys, rfl, rfl, e⟩
  · exact eq0_at e ra rb
  · obtain ⟨la, vs, t, rs, rfl⟩ := ra.tupE
    obtain ⟨lb, us, t', rs', rfl⟩ := rb.tupE
    by_cases hne : la = lb
    · subst hne
      cases RelV.inj G (RelV.tup t rs) (RelV.tup t' rs')
      rw [eq0s_same e]
      exact EqAt.same _
    · obtain ⟨p1, p2⟩ := eq0s_tup (A := A) e rs rs'
      rw [← p2]
      exact EqAt.of_refs hne (RcAt.tuples t t' hu p1)

theorem eqAVs_lists (G : StG hB os C ρ σ s) {xs ys : List AV} {vs us : List Value} {c : Bool} (e : eqAVs xs ys = some c) (ra : RelVs hB ρ s.heap xs vs) (rb : RelVs hB ρ s.heap ys us) (hu : A.units + 1 < cLine) :
    vs.toArray.size = us.toArray.size ∧ (∀ j (h1 : j < vs.toArray.size) (h2 : j < us.toArray.size), EqAt A.in1 s vs.toArray[j] us.toArray[j] (pairB eqAV xs ys j)) ∧
    (List.range vs.toArray.size).all (pairB eqAV xs ys) = c := by
  obtain ⟨i1, i2, i3⟩ := eqAVs_spec e
  have e1 : vs.toArray.size = xs.length := ra.length.symm
  exact ⟨e1.trans (i1.trans rb.length), pairs_at (fun _ _ _ _ _ q r1 r2 => eqAV_at G q r1 r2 hu) i2 ra rb, by rw [e1, i3]⟩

theorem eqTop_inv {a b : AV} {c : Bool} (e : eqTop a b σ = some c) : (eqAV a b = some c) ∨ ∃ r q xs ys, a = .ref r ∧ b = .ref q ∧ listAt σ r = some xs ∧ listAt σ q = some ys ∧ (if xs.length = ys.length then eqAVs xs ys else some false) = some c := by
  cases a with
  | ref r =>
    obtain ⟨q, hb, e⟩ := bind1_inv e
    obtain ⟨xs, h1, e⟩ := bind1_inv e
    obtain ⟨ys, h2, e⟩ := bind1_inv e
    exact .inr ⟨r, q, xs, ys, rfl, asRef_inv hb, h1, h2, e⟩
  | _ => exact .inl e
/-- == and != at once -/
theorem eqne_ok {a b : AV} {x y : Value} {c : Bool} (e : eqTop a b σ = some c) (G : StG hB os C ρ σ s)
    (ra : RelV hB ρ s.heap a x) (rb : RelV hB ρ s.heap b y) (hu : A.units + 1 < cLine) {Q : Value → Shared → Prop} {E : Value → Shared → Prop} :
    (Q (.bool c) s → wpAny (model prog w) A (compareOp .Eq x y) Q E s) ∧ (Q (.bool (!c)) s → wpAny (model prog w) A (compareOp .NotEq x y) Q E s) := by
  rcases eqTop_inv e with e | ⟨r, q, xs, ys, rfl, rfl, h1, h2, e⟩
  · rcases eqAV_inv e with e | ⟨xs, ys, rfl, rfl, e⟩
    · cases a with
      | int i =>
        obtain ⟨j, hb, e⟩ := bind1_inv e
        cases asInt_inv hb; cases e
        obtain ⟨_, rfl⟩ := ra.intE
        obtain ⟨_, rfl⟩ := rb.intE
        exact ⟨fun h => eq_int h, fun h => ne_int h⟩
      | str l =>
        obtain ⟨j, hb, e⟩ := bind1_inv e
        cases asStr_inv hb; cases e
        obtain ⟨_, rfl⟩ := ra.strE
        obtain ⟨_, rfl⟩ := rb.strE
        rw [beq_str]
        exact ⟨fun h => eq_str h, fun h => ne_str h⟩
      | _ => cases e
    · obtain ⟨la, vs, t, rs, rfl⟩ := ra.tupE
      obtain ⟨lb, us, t', rs', rfl⟩ := rb.tupE
      obtain ⟨p1, p2⟩ := eq0s_tup (A := A) e rs rs'
      rw [← p2]
      have hu' : A.units < cLine := Nat.lt_of_succ_lt hu
      exact ⟨fun h => RcAt.tuples t t' hu' p1 prog w E Q h, fun h => RcNeAt.tuples t t' hu' p1 prog w E Q h⟩
  · obtain ⟨p, hp, rfl⟩ := ra.refE
    obtain ⟨q, hq, rfl⟩ := rb.refE
    obtain ⟨vs, hl, r1⟩ := G.listE h1 hp
    obtain ⟨us, hl2, r2⟩ := G.listE h2 hq
    have hu' : A.units < cLine := Nat.lt_of_succ_lt hu
    by_cases hne : xs.length = ys.length
    · rw [if_pos hne] at e
      obtain ⟨z1, z2, z3⟩ := eqAVs_lists (A := A) G e r1 r2 hu
      rw [← z3]
      exact ⟨fun h => eq_listAt hl.isList hl2.isList z1 hu' z2 h, fun h => RcNeAt.lists hl.isList hl2.isList z1 hu' z2 prog w E Q h⟩
    · rw [if_neg hne] at e
      cases e
      have hs : (vs.toArray.size != us.toArray.size) = true := bne_iff_ne.mpr fun q => hne (r1.length.trans (q.trans r2.length.symm))
      exact ⟨fun h => eq_list_lengthsAt hl.isList hl2.isList hs hu' h, fun h => RcNeAt.lists_lengths hl.isList hl2.isList hs hu' prog w E Q h⟩

/-- does it equal -/
noncomputable def eqV (n₀ : Heap) (ρ : Rho) (h : Heap) (v : AV) (y : Value) : Bool := @decide (∃ x, RelV n₀ ρ h x y ∧ eqAV x v = some true) (Classical.propDecidable _)

theorem eqV_eq (G : StG hB os C ρ σ s) {x v : AV} {y : Value} {b : Bool} (r : RelV hB ρ s.heap x y) (e : eqAV x v = some b) : eqV hB ρ s.heap v y = b := by
  cases b with
  | true => exact @decide_eq_true _ (Classical.propDecidable _) ⟨x, r, e⟩
  | false =>
    refine @decide_eq_false _ (Classical.propDecidable _) ?_
    rintro ⟨x', r', e'⟩
    rw [RelV.inj G r' r, e] at e'
    cases e'
theorem anyEq_spec (G : StG hB os C ρ σ s) {v : AV} : ∀ {xs : List AV} {vs : List Value} {c : Bool}, anyEq v xs = some c → RelVs hB ρ s.heap xs vs →
    (∀ y ∈ vs, ∃ x b, RelV hB ρ s.heap x y ∧ eqAV x v = some b) ∧ vs.any (eqV hB ρ s.heap v) = c
  | [], _, c, e, R => by rw [R.nilE]; cases e; simp
  | x :: xs, _, c, e, R => by
    obtain ⟨y, ys, r, rs, rfl⟩ := R.consE
    obtain ⟨a, h1, e⟩ := bind1_inv e
    obtain ⟨b, h2, e⟩ := bind1_inv e
    cases e
    obtain ⟨i1, i2⟩ := anyEq_spec G h2 rs
    refine ⟨fun z hz => ?_, by rw [List.any_cons, i2, eqV_eq G r h1]⟩
    rcases List.mem_cons.mp hz with rfl | q
    · exact ⟨x, a, r, h1⟩
    · exact i1 z q
theorem eqV_at (G : StG hB os C ρ σ s) {v : AV} {z : Value} (rv : RelV hB ρ s.heap v z) {vs : List Value} (hu : A.units < cLine)
    (i1 : ∀ y ∈ vs, ∃ x b, RelV hB ρ s.heap x y ∧ eqAV x v = some b) : ∀ y, y ∈ vs.toArray → EqAt A s y z (eqV hB ρ s.heap v y) := fun y hy => by
  obtain ⟨x, b, r, e⟩ := i1 y (by simpa using hy)
  rw [eqV_eq G r e]
  exact eqAV_at G e r rv hu

theorem ord_ok {op : CmpOp} {c : Bool} {lt gt : Bool} (h : ordOp op lt gt = some c) : (op = .Lt ∧ c = lt) ∨ (op = .Gt ∧ c = gt) ∨ (op = .LtE ∧ c = !gt) ∨ (op = .GtE ∧ c = !lt) := by
  refine Classical.byContradiction fun hn => ?_
  cases op with
  | Lt => exact hn (.inl ⟨rfl, (Option.some.inj h).symm⟩)
  | Gt => exact hn (.inr (.inl ⟨rfl, (Option.some.inj h).symm⟩))
  | LtE => exact hn (.inr (.inr (.inl ⟨rfl, (Option.some.inj h).symm⟩)))
  | GtE => exact hn (.inr (.inr (.inr ⟨rfl, (Option.some.inj h).symm⟩)))
  | _ => exact nn h

theorem ordS_ok {op : CmpOp} {x y : List Nat} {t u : Tok} {c : Bool} (e : ordOp op (ltL x y) (ltL y x) = some c) {Q : Value → Shared → Prop} {E : Value → Shared → Prop} (h : Q (.bool c) s) :
    wpAny (model prog w) A (compareOp op (.str ⟨x.toArray⟩ t) (.str ⟨y.toArray⟩ u)) Q E s := by
  rw [ltL_iff, ltL_iff] at e
  rcases ord_ok e with ⟨rfl, rfl⟩ | ⟨rfl, rfl⟩ | ⟨rfl, rfl⟩ | ⟨rfl, rfl⟩
  · exact P.lt_str h
  · exact P.gt_str h
  · exact P.le_str h
  · exact P.ge_str h
theorem ordI_ok {op : CmpOp} {x y : Int} {t u : Tok} {c : Bool} (e : ordOp op (decide (x < y)) (decide (y < x)) = some c) {Q : Value → Shared → Prop} {E : Value → Shared → Prop} (h : Q (.bool c) s) :
    wpAny (model prog w) A (compareOp op (.int x t) (.int y u)) Q E s := by
  rcases ord_ok e with ⟨rfl, rfl⟩ | ⟨rfl, rfl⟩ | ⟨rfl, rfl⟩ | ⟨rfl, rfl⟩
  · exact lt_int h
  · exact gt_int h
  · refine le_int ?_
    have : decide (x ≤ y) = !decide (y < x) := by simp [← Int.not_lt]
    rw [this]; exact h
  · refine ge_int ?_
    have : decide (y ≤ x) = !decide (x < y) := by simp [← Int.not_lt]
    rw [this]; exact h

theorem memb_inv {a b : AV} {f : Nat → List AV → Option Bool} {c : Bool} (e : (bind1 (asRef b) fun r => bind1 (listAt σ r) fun xs => f r xs) = some c) : ∃ r xs, b = .ref r ∧ listAt σ r = some xs ∧ f r xs = some c := by
  obtain ⟨r, h, e⟩ := bind1_inv e
  obtain ⟨xs, h1, e⟩ := bind1_inv e
  exact ⟨r, xs, asRef_inv h, h1, e⟩
theorem ords_ok {op : CmpOp} {a b : AV} {x y : Value} {c : Bool} (e : (match a with
    | .int x => bind1 (asInt b) fun y => ordOp op (decide (x < y)) (decide (y < x))
    | .str x => bind1 (asStr b) fun y => ordOp op (ltL x y) (ltL y x)
    | _ => none) = some c) (ra : RelV hB ρ s.heap a x) (rb : RelV hB ρ s.heap b y) {Q : Value → Shared → Prop} {E : Value → Shared → Prop} (h : Q (.bool c) s) :
    wpAny (model prog w) A (compareOp op x y) Q E s := by
  cases a with
  | int i =>
    obtain ⟨j, hb, e⟩ := bind1_inv e
    cases asInt_inv hb
    obtain ⟨_, rfl⟩ := ra.intE
    obtain ⟨_, rfl⟩ := rb.intE
    exact ordI_ok e h
  | str i =>
    obtain ⟨j, hb, e⟩ := bind1_inv e
    cases asStr_inv hb
    obtain ⟨_, rfl⟩ := ra.strE
    obtain ⟨_, rfl⟩ := rb.strE
    exact ordS_ok e h
  | _ => cases e
theorem cmpop_ok {op : CmpOp} {a b : AV} {x y : Value} {c : Bool} (e : cmpop op a b σ = some c) (G : StG hB os C ρ σ s)
    (ra : RelV hB ρ s.heap a x) (rb : RelV hB ρ s.heap b y) (hu : A.units + 1 < cLine) {Q : Value → Shared → Prop} {E : Value → Shared → Prop} (h : Q (.bool c) s) :
    wpAny (model prog w) A (compareOp op x y) Q E s := by
  cases op with
  | Eq => exact (eqne_ok e G ra rb hu).1 h
  | NotEq =>
    obtain ⟨d, q, e⟩ := bind1_inv e
    cases e
    exact (eqne_ok q G ra rb hu).2 h
  | In =>
    obtain ⟨r, xs, rfl, h1, e⟩ := memb_inv (a := a) e
    obtain ⟨p, hp, rfl⟩ := rb.refE
    obtain ⟨vs, hl, r1⟩ := G.listE h1 hp
    obtain ⟨i1, i2⟩ := anyEq_spec G e r1
    refine in_listAt (eqV hB ρ s.heap a) hl.isList (eqV_at G ra hu i1) ?_
    rw [show vs.toArray.any (eqV hB ρ s.heap a) = c by simpa using i2]; exact h
  | NotIn =>
    obtain ⟨r, xs, rfl, h1, e⟩ := memb_inv (a := a) e
    obtain ⟨d, q, e⟩ := bind1_inv e
    cases e
    obtain ⟨p, hp, rfl⟩ := rb.refE
    obtain ⟨vs, hl, r1⟩ := G.listE h1 hp
    obtain ⟨i1, i2⟩ := anyEq_spec G q r1
    refine notIn_listAt (eqV hB ρ s.heap a) hl.isList (eqV_at G ra hu i1) ?_
    rw [show vs.toArray.any (eqV hB ρ s.heap a) = d by simpa using i2]; exact h
  | _ => exact ords_ok e ra rb h
end
end Mine
end

section
open PySem PySem.W PyProof.Rows PySem.Calls
set_option maxRecDepth 100000
set_option linter.unusedSimpArgs false
namespace Mine

section
variable {prog : Program} {w : World} {A : Around} {hB : Heap} {os : OsState} {C : Addr} {ρ ρ' : Rho} {σ σ' : Sto} {s s' : Shared} {v : AV}

theorem RelVs.picked {n₀ : Heap} {h : Heap} {xs : List AV} {vs : List Value} (R : RelVs n₀ ρ h xs vs) : ∀ is : List Nat, RelVs n₀ ρ h (is.filterMap (xs[·]?)) (is.filterMap (vs[·]?))
  | [] => .nil
  | i :: is => by
    have ih := RelVs.picked R is
    simp only [List.filterMap_cons]
    cases e : xs[i]? with
    | none => rw [R.none e]; exact ih
    | some x =>
      obtain ⟨v, e', r⟩ := R.get e
      rw [e']
      exact .cons r ih
theorem bounds_same (lo hi st : Option Int) (n : Nat) : sliceRange (sliceBounds lo hi st n).1 (sliceBounds lo hi st n).2.1 (sliceBounds lo hi st n).2.2 = Builtin.Str.strSliceIndices lo hi (st.getD 1) n := by
  unfold sliceBounds Builtin.Str.strSliceIndices
  cases lo <;> cases hi <;> rfl
theorem slicePick_list (vs : List Value) (lo hi st : Option Int) : slicePick vs.toArray lo hi st = (pickL vs lo hi st).toArray := by
  unfold slicePick pickL
  rw [bounds_same]
  simp
theorem filterMap_range {α : Type} (l : List α) : (List.range l.length).filterMap (l[·]?) = l := by
  induction l with
  | nil => rfl
  | cons x xs ih =>
    rw [List.length_cons, List.range_succ_eq_map, List.filterMap_cons]
    simp only [List.getElem?_cons_zero, List.filterMap_map, Function.comp_def, List.getElem?_cons_succ]
    rw [ih]
noncomputable def clipN (v : Option Int) (d n : Int) : Int := match v with | none => d | some i => max 0 (min (if i < 0 then i + n else i) n)
theorem clip_bounds (v : Option Int) (d n : Int) (hn : 0 ≤ n) (hd : 0 ≤ d ∧ d ≤ n) : 0 ≤ clipN v d n ∧ clipN v d n ≤ n := by
  cases v with
  | none => exact hd
  | some i => unfold clipN; dsimp only; omega
theorem pick_whole {α : Type} (l : List α) (lo hi : Option Int) (h : (Builtin.Str.strSliceIndices lo hi 1 l.length).length = l.length) : pickL l lo hi none = l := by
  unfold pickL
  have e : Builtin.Str.strSliceIndices lo hi 1 l.length = sliceRange (clipN lo 0 l.length) (clipN hi l.length l.length) 1 := by
    cases lo <;> cases hi <;> rfl
  show (Builtin.Str.strSliceIndices lo hi 1 l.length).filterMap (l[·]?) = l
  rw [e] at h ⊢
  have b1 := clip_bounds lo 0 l.length (by omega) (by omega)
  have b2 := clip_bounds hi l.length l.length (by omega) (by omega)
  generalize clipN lo 0 l.length = a at *
  generalize clipN hi l.length l.length = b at *
  obtain ⟨a', rfl⟩ : ∃ a' : Nat, a = (a' : Int) := ⟨a.toNat, by omega⟩
  obtain ⟨b', rfl⟩ : ∃ b' : Nat, b = (b' : Int) := ⟨b.toNat, by omega⟩
  rw [sliceRange_one] at h ⊢
  simp only [List.length_map, List.length_range] at h
  by_cases h0 : l.length = 0
  · have : l = [] := List.eq_nil_of_length_eq_zero h0
    subst this
    simp
  · have ea : a' = 0 := by omega
    have eb : b' = l.length := by omega
    subst ea; subst eb
    rw [show (fun x => 0 + x) = (id : Nat → Nat) from funext fun x => Nat.zero_add x, List.map_id, Nat.sub_zero]
    exact filterMap_range l
theorem RelVs.pick {n₀ : Heap} {h : Heap} {xs : List AV} {vs : List Value} (R : RelVs n₀ ρ h xs vs) (lo hi st : Option Int) : RelVs n₀ ρ h (pickL xs lo hi st) (pickL vs lo hi st) := by
  unfold pickL
  rw [R.length]
  exact R.picked _

theorem PostV.laid {ρ₁ : Rho} {v : AV} {val : Value} {s₁ : Shared} (S1 : Step ρ s ρ₁ s₁) (P : PostV hB os C ρ₁ s₁ v σ' val s') : PostV hB os C ρ s v σ' val s' := by
  obtain ⟨ρ', S, G', r⟩ := P
  exact ⟨ρ', S1.trans S, G', r⟩

theorem subscripted_is (slice : PySem.Expr) (o i : Value) : ∃ ops, subscripted slice false o i = operate ops (getItem o i) := by
  cases slice with
  | Slice a b c p => cases c <;> exact ⟨_, rfl⟩
  | _ => exact ⟨_, rfl⟩

theorem tail_gen {value slice : PySem.Expr} {o i : Value} {T id : String} {Q : Value → Shared → Prop} {E : Value → Shared → Prop} (hT : s.TypeIs o T)
    (hl : typeLookup (.type T) "__getitem__" = pure (some (.builtin id))) (hg : wpAny (model prog w) A (getItem o i) Q E s) : wpAny (model prog w) A (subscriptTail value slice o i) Q E s := by
  obtain ⟨ops, e⟩ := subscripted_is slice o i
  exact tail_any hT hl hg e

theorem getIx_spec {i : Int} {n : Nat} (h : getIx i = some n) : 0 ≤ i ∧ i ≤ 1000000 ∧ n = i.toNat := by
  cases i with
  | ofNat k =>
    simp only [getIx] at h
    split at h
    · rename_i q
      cases h
      exact ⟨Int.natCast_nonneg _, Int.ofNat_le.mpr (Nat.le_of_ble_eq_true q), rfl⟩
    · cases h
  | negSucc k => cases h
theorem chrIx_spec {i : Int} {n : Nat} (h : chrIx i = some n) : 0 ≤ i ∧ i ≤ 1114111 ∧ n = i.toNat := by
  cases i with
  | ofNat k =>
    simp only [chrIx] at h
    split at h
    · rename_i q
      cases h
      exact ⟨Int.natCast_nonneg _, Int.ofNat_le.mpr (Nat.le_of_ble_eq_true q), rfl⟩
    · cases h
  | negSucc k => cases h

theorem subs_ok {value slice : PySem.Expr} {a i : AV} {x y : Value} {Q : Value → Shared → Prop} (e : subs a i σ = some v) (G : StG hB os C ρ σ s)
    (ra : RelV hB ρ s.heap a x) (rb : RelV hB ρ s.heap i y) (kk : KontG hB os C ρ s v σ Q) : wpAny (model prog w) A (subscriptTail value slice x y) Q Fls s := by
  obtain ⟨k, hi, f⟩ := bind1_inv e
  obtain ⟨n, hk, e⟩ := bind1_inv f
  rw [asInt_inv hi] at rb
  obtain ⟨h0, h1, rfl⟩ := getIx_spec hk
  obtain ⟨_, rfl⟩ := rb.intE
  cases a with
  | str l =>
    obtain ⟨c, hc, e⟩ := bind1_inv e
    obtain ⟨_, rfl⟩ := ra.strE
    refine tail_gen (typeIs_str s _ _) PySem.F.slot_str_getitem.lookup (getItem_str (c := c) ?_ ?_ ((kk.of1 e).post (.str (l := [c]) (x := ⟨#[c]⟩) G rfl _ _)))
    · rw [decide_eq_false (show ¬ k < -(2 ^ 63 : Int) by omega), decide_eq_false (show ¬ k ≥ (2 ^ 63 : Int) by omega)]; rfl
    · have hlt := (List.getElem?_eq_some_iff.mp hc).1
      have : seqIndex? k (⟨l.toArray⟩ : Str).length = some k.toNat := by
        have h2 : k < l.length := by omega
        have hn : ¬ k < 0 := by omega
        simp [seqIndex?, Str.length, hn]
        exact ⟨h0, h2⟩
      rw [this]
      simpa using hc
  | tup xs =>
    obtain ⟨a, vs, t, rs, rfl⟩ := ra.tupE
    obtain ⟨val, e1, r⟩ := rs.get e
    have hlt := (List.getElem?_eq_some_iff.mp e1).1
    refine tail_gen t.typeIs PySem.F.slot_tuple_getitem.lookup (getItem_tuple t (j := k.toNat) (by omega) (by omega) ?_ (by simpa using e1) (kk.now G r s.toks))
    simp [seqIndex?]
    omega
  | ref r =>
    obtain ⟨xs, h1', e⟩ := bind1_inv e
    obtain ⟨p, hp, rfl⟩ := ra.refE
    obtain ⟨vs, hl, rs⟩ := G.listE h1' hp
    obtain ⟨val, e1, r⟩ := rs.get e
    exact tail_gen hl.isList.typeIs slot_list_getitem.lookup (wpAny_getItem_list hl.isList h0 (by omega) (by simpa using e1) (kk.now G r s.toks))
  | _ => cases e

theorem isPart_of {b' : Option Int} {t : Tok} : IsPart (partValue (b'.map fun i => (i, t))) b' := by
  cases b' with
  | none => exact .none
  | some i => exact .int i t

theorem fst_map (o : Option Int) (t : Tok) : (o.map fun i => (i, t)).map (·.1) = o := by cases o <;> rfl
theorem step_ne {st : Option Int} (h : ¬ st = some 0) : st.getD 1 ≠ 0 := by
  cases st with
  | none => decide
  | some c => exact fun q => h (by rw [show c = 0 from q])
/-- a cut of a text -/
theorem slc_str {value slice : PySem.Expr} {l : List Nat} {t : Tok} {lo hi st : Option Int} {t1 t2 t3 : Tok} {sl : Addr} {Q : Value → Shared → Prop} (hst : ¬ st = some 0) (hk : l.length ≤ 1000000) (G : StG hB os C ρ σ s)
    (hs : s.heap.IsSlice sl (lo.map fun i => (i, t1)) (hi.map fun i => (i, t2)) (st.map fun i => (i, t3))) (kk : KontG hB os C ρ s (.str (pickL l lo hi st)) σ Q) :
    wpAny (model prog w) A (subscriptTail value slice (.str ⟨l.toArray⟩ t) (.ref sl)) Q Fls s := by
  refine tail_gen (typeIs_str s _ _) PySem.F.slot_str_getitem.lookup (wpAny_getItem_str_slice hs ?_ ?_)
  · rw [fst_map]; exact beq_eq_false_iff_ne.mpr (step_ne hst)
  · have hlen : (⟨l.toArray⟩ : Str).length = l.length := by simp [Str.length]
    have hpk : (Builtin.Str.strSliceIndices lo hi (st.getD 1) l.length).filterMap (fun i => (⟨l.toArray⟩ : Str).cps[i]?) = pickL l lo hi st := by
      unfold pickL
      congr 1
      funext i
      simp
    have hle := sliceIndicesBy_le lo hi (st.getD 1) (step_ne hst) l.length
    unfold sliceMade slicePicked
    rw [fst_map, fst_map, fst_map, hlen]
    split
    · rename_i hc
      refine kk.post (.str G ?_ _ s.toks)
      simp only [Bool.and_eq_true, beq_iff_eq] at hc
      have h1 : pickL l lo hi st = pickL l lo hi none := by unfold pickL; rw [hc.1]; rfl
      rw [h1, pick_whole l lo hi (by rw [← hc.1]; exact hc.2)]
    · refine ⟨?_, kk.post (.str G (by simpa using hpk) _ _)⟩
      show Array.size _ ≤ sizeLine
      rw [hpk, sizeLine_eq']
      have : (pickL l lo hi st).length ≤ l.length := Nat.le_trans (List.length_filterMap_le _ _) hle
      simp
      omega
/-- a cut of a list -/
theorem slc_list {value slice : PySem.Expr} {xs : List AV} {vs : List Value} {a : Addr} {lo hi st : Option Int} {t1 t2 t3 : Tok} {sl : Addr} {Q : Value → Shared → Prop} (hst : ¬ st = some 0) (hk : xs.length ≤ 1000000) (G : StG hB os C ρ σ s)
    (hl : s.heap.IsList a vs.toArray) (rs : RelVs hB ρ s.heap xs vs)
    (hs : s.heap.IsSlice sl (lo.map fun i => (i, t1)) (hi.map fun i => (i, t2)) (st.map fun i => (i, t3))) (kk : KontG hB os C ρ s (.ref σ.length) (σ ++ [.list (pickL xs lo hi st)]) Q) :
    wpAny (model prog w) A (subscriptTail value slice (.ref a) (.ref sl)) Q Fls s := by
  have hs' : s.heap.IsSliceOf sl (partValue (lo.map fun i => (i, t1))) (partValue (hi.map fun i => (i, t2))) (partValue (st.map fun i => (i, t3))) := hs
  refine tail_gen hl.typeIs slot_list_getitem.lookup (wpAny_getItem_list_slice hl hs' isPart_of isPart_of isPart_of hst ?_ ?_)
  · rw [slicePick_list]
    exact kk.newList G (rs.pick lo hi st) _
  · have := rs.length
    simp [sizeLine_eq']; omega

theorem guard_not {α : Type} {c : Prop} [Decidable c] {x : Option α} {r : α} (h : (if c then none else x) = some r) : ¬ c ∧ x = some r := by
  by_cases q : c
  · rw [if_pos q] at h; cases h
  · rw [if_neg q] at h; exact ⟨q, h⟩
theorem slc_ok {value slice : PySem.Expr} {a : AV} {x : Value} {lo hi st : Option Int} {t1 t2 t3 : Tok} {sl : Addr} {Q : Value → Shared → Prop} (e : slc a lo hi st σ = some (v, σ')) (G : StG hB os C ρ σ s)
    (ra : RelV hB ρ s.heap a x) (hs : s.heap.IsSlice sl (lo.map fun i => (i, t1)) (hi.map fun i => (i, t2)) (st.map fun i => (i, t3))) (kk : KontG hB os C ρ s v σ' Q) :
    wpAny (model prog w) A (subscriptTail value slice x (.ref sl)) Q Fls s := by
  obtain ⟨hst, e⟩ := guard_not e
  cases a with
  | str l =>
    obtain ⟨hk, e⟩ := guard_inv e
    obtain ⟨_, rfl⟩ := ra.strE
    exact slc_str hst (sizeOk_le hk) G hs (kk.of e)
  | ref r =>
    obtain ⟨xs, h1, e⟩ := bind1_inv e
    obtain ⟨hk, e⟩ := guard_inv e
    obtain ⟨p, hp, rfl⟩ := ra.refE
    obtain ⟨vs, hl, rs⟩ := G.listE h1 hp
    exact slc_list hst (sizeOk_le hk) G hl.isList rs hs (kk.of e)
  | frz xs =>
    obtain ⟨hk, e⟩ := guard_inv e
    obtain ⟨a, vs, _, hl, rs, rfl⟩ := ra.frzE
    exact slc_list hst (sizeOk_le hk) G hl rs hs (kk.of e)
  | _ => cases e
end
end Mine
end

section
open PySem PySem.W PyProof.Rows PySem.Calls PySem.SeqAt
set_option maxRecDepth 100000
set_option linter.unusedSimpArgs false
namespace Mine

/-- room: for d calls one in the other -/
structure AOk (d : Nat) (A : Around) : Prop where
  handled : A.handled = none
  depth : A.depth + d ≤ 900
  units : A.units + 40 * d + 40 ≤ 9000
theorem AOk.mono {d d' : Nat} {A : Around} (h : AOk d A) (l : d' ≤ d) : AOk d' A := ⟨h.handled, by have := h.depth; omega, by have := h.units; omega⟩
theorem AOk.line {d : Nat} {A : Around} (h : AOk d A) : A.units + 30 < cLine := by
  have := h.units
  have e : cLine = 9900 := rfl
  omega
theorem AOk.room {d : Nat} {A : Around} (h : AOk d A) : A.depth < recursionLimit := by
  have := h.depth
  have e : recursionLimit = 1000 := rfl
  omega

/-- what the text's names mean -/
structure Nm where
  acc : Addr
  push : Addr
  pop : Addr
  pc : Addr
  fn : Str → Addr

noncomputable def Nm.val (N : Nm) (f : Str) : Value :=
  if f = "#new" then .ref N.acc else if f = "#push" then .ref N.push else if f = "#pop" then .ref N.pop else if f = "#part_count" then .ref N.pc
  else if f = "#len" then .builtin "len" else if f = "#str" then .type "str" else if f = "#sorted" then .builtin "sorted" else if f = "#split" then .builtin "str.split"
  else .ref (N.fn f)

noncomputable def bifVal (N : Nm) : Bif → Value
  | .len => .builtin "len"
  | .str => .type "str"
  | .chr => .builtin "chr"
  | .sum => .builtin "sum"
  | .range => .type "range"
  | .sorted => .builtin "sorted"
  | .accum => .ref N.acc

/-- the oracle's answers are the machine's -/
noncomputable def OCall (prog : Program) (w : World) (hB : Heap) (os : OsState) (N : Nm) (d : Nat) (O : Oracle) : Prop :=
  ∀ f vs σ v σ', O f vs σ = some (v, σ') → ∀ (A : Around) (ρ : Rho) (s : Shared) (vals : List Value), AOk d A → StG hB os N.acc ρ σ s → RelVs hB ρ s.heap vs vals →
    wpAny (model prog w) A (call (N.val f) vals) (PostV hB os N.acc ρ s v σ') Fls s

section
variable {prog : Program} {w : World} {A : Around} {hB : Heap} {os : OsState} {C : Addr} {ρ ρ' : Rho} {σ σ' : Sto} {s s' : Shared} {v : AV} {N : Nm} {d : Nat} {O : Oracle}

theorem OCall.kont {f : Str} {vs : List AV} {vals : List Value} {Q : Value → Shared → Prop} (hO : OCall prog w hB os N d O) (hA : AOk d A) (e : O f vs σ = some (v, σ')) (G : StG hB os N.acc ρ σ s) (R : RelVs hB ρ s.heap vs vals)
    (k : KontG hB os N.acc ρ s v σ' Q) : wpAny (model prog w) A (call (N.val f) vals) Q Fls s :=
  wpAny_mono (hO f vs σ v σ' e A ρ s vals hA G R) (fun _ _ h => k.post h) fun _ _ x => x

theorem ints_are : ∀ {xs : List AV} {vs : List Value} {is : List Int}, intsOf xs = some is → RelVs hB ρ s.heap xs vs → IntsAre vs is
  | [], _, is, e, R => by rw [R.nilE]; cases e; exact .nil
  | x :: xs, _, is, e, R => by
    obtain ⟨v, vs, r, rs, rfl⟩ := R.consE
    obtain ⟨i, h, e1⟩ := bind1_inv e
    obtain ⟨js, h2, e2⟩ := bind1_inv e1
    cases e2
    rw [asInt_inv h] at r
    obtain ⟨_, rfl⟩ := r.intE
    exact .cons _ _ (ints_are h2 rs)
theorem txts_are : ∀ {xs : List AV} {vs : List Value} {is : List (List Nat)}, txts xs = some is → RelVs hB ρ s.heap xs vs → StrsAre vs (is.map fun l => ⟨l.toArray⟩)
  | [], _, is, e, R => by rw [R.nilE]; cases e; exact .nil
  | x :: xs, _, is, e, R => by
    obtain ⟨v, vs, r, rs, rfl⟩ := R.consE
    obtain ⟨i, h, e1⟩ := bind1_inv e
    obtain ⟨js, h2, e2⟩ := bind1_inv e1
    cases e2
    rw [asStr_inv h] at r
    obtain ⟨_, rfl⟩ := r.strE
    exact .cons _ _ (txts_are h2 rs)

theorem join_list' (sep : List Nat) : ∀ ss : List (List Nat), (Str.join ⟨sep.toArray⟩ (ss.map fun l => ⟨l.toArray⟩)).cps.toList = joinL sep ss
  | [] => rfl
  | [x] => by simp [Str.join, joinL_1]
  | x :: y :: r => by
    have ih := join_list' sep (y :: r)
    show ((⟨x.toArray⟩ ++ ⟨sep.toArray⟩ ++ Str.join ⟨sep.toArray⟩ ((y :: r).map fun l => ⟨l.toArray⟩) : Str)).cps.toList = _
    rw [PySem.Str.cps_append, PySem.Str.cps_append, Array.toList_append, Array.toList_append, ih]
    rfl

theorem total_map (ss : List (List Nat)) : ((ss.map fun l => (⟨l.toArray⟩ : Str)).map (·.length)).sum = total ss := by
  simp [total, Function.comp_def, Str.length]

section
variable {Q : Value → Shared → Prop} {vs : List AV} {vals : List Value}
theorem len_ok (hO : OCall prog w hB os N d O) (hA : AOk d A) (e : builtin O .len vs σ = some (v, σ')) (G : StG hB os N.acc ρ σ s)
    (R : RelVs hB ρ s.heap vs vals) (k : KontG hB os N.acc ρ s v σ' Q) : wpAny (model prog w) A (call (.builtin "len") vals) Q Fls s := by
  obtain ⟨a, h, e1⟩ := bind1_inv e
  rw [one_inv h] at R e1
  obtain ⟨x, r, rfl⟩ := R.oneE
  cases a with
  | str l =>
    obtain ⟨hk, e⟩ := guard_inv e1
    have k := k.of e
    have := sizeOk_le hk
    obtain ⟨_, rfl⟩ := r.strE
    have hl : (⟨l.toArray⟩ : Str).length = l.length := by simp [Str.length]
    refine len_str (by rw [hl]; omega) ?_
    rw [hl]
    exact k.now G (.int _ _) _
  | ref i =>
    by_cases ha : isAccAt σ i = true
    · have e1 : (if isAccAt σ i = true then O "#len" [.ref i] σ else _) = some (v, σ') := e1
      rw [if_pos ha] at e1
      exact hO.kont (f := "#len") hA e1 G R k
    · have e1 : (if isAccAt σ i = true then O "#len" [.ref i] σ else bind1 (listAt σ i) fun xs => if sizeOk xs.length then some (.int xs.length, σ) else none) = some (v, σ') := e1
      rw [if_neg ha] at e1
      obtain ⟨xs, h1, e2⟩ := bind1_inv e1
      obtain ⟨hk, e⟩ := guard_inv e2
      have k := k.of e
      have := sizeOk_le hk
      obtain ⟨p, hp, rfl⟩ := r.refE
      obtain ⟨us, hl, rs⟩ := G.listE h1 hp
      have hn := rs.length
      refine call_len_list hl.isList (by simp; omega) ?_
      rw [show ((us.toArray.size : Nat) : Int) = (xs.length : Int) by simp [hn]]
      exact k.now G (.int _ _) _
  | _ => cases e1
theorem chr_ok (e : builtin O .chr vs σ = some (v, σ')) (G : StG hB os N.acc ρ σ s) (R : RelVs hB ρ s.heap vs vals) (k : KontG hB os N.acc ρ s v σ' Q) : wpAny (model prog w) A (call (.builtin "chr") vals) Q Fls s := by
  obtain ⟨a, h, e1⟩ := bind1_inv e
  obtain ⟨i, h2, e2⟩ := bind1_inv e1
  obtain ⟨n, hx, e3⟩ := bind1_inv e2
  rw [one_inv h, asInt_inv h2] at R
  have k := k.of e3
  obtain ⟨b1, b2, rfl⟩ := chrIx_spec hx
  obtain ⟨x, r, rfl⟩ := R.oneE
  obtain ⟨_, rfl⟩ := r.intE
  exact P.chr_of_int (by rw [decide_eq_false (show ¬ i < 0 by omega), decide_eq_false (show ¬ i > 0x10FFFF by omega)]; rfl) (k.post (.str (l := [i.toNat]) (x := ⟨#[i.toNat]⟩) G rfl _ _))
theorem sum_ok (hA : AOk d A) (e : builtin O .sum vs σ = some (v, σ')) (G : StG hB os N.acc ρ σ s) (R : RelVs hB ρ s.heap vs vals) (k : KontG hB os N.acc ρ s v σ' Q) : wpAny (model prog w) A (call (.builtin "sum") vals) Q Fls s := by
  obtain ⟨a, h, e1⟩ := bind1_inv e
  obtain ⟨i, h2, e2⟩ := bind1_inv e1
  obtain ⟨xs, h1, e3⟩ := bind1_inv e2
  obtain ⟨is, hi, e4⟩ := bind1_inv e3
  rw [one_inv h, asRef_inv h2] at R
  have k := k.of e4
  obtain ⟨x, r, rfl⟩ := R.oneE
  obtain ⟨p, hp, rfl⟩ := r.refE
  obtain ⟨us, hl, rs⟩ := G.listE h1 hp
  have hi := ints_are hi rs
  obtain ⟨xs', e'⟩ := hi.allInts.items
  have hl' := hl.isList
  rw [e'] at hl'
  refine sum_intListG hA.handled hl' fun h' tk t' hk => ?_
  have es : preSum (numAt xs') xs'.size = is.sum := by
    rw [preSum_eq, List.take_of_length_le (by simp), ← nums_intItems, ← e']
    exact congrArg List.sum hi.numsOf
  rw [es]
  exact k _ _ ρ (Step.keeps G hk tk) (G.keeps hk tk) (.int _ _)
theorem range_ok (e : builtin O .range vs σ = some (v, σ')) (G : StG hB os N.acc ρ σ s) (R : RelVs hB ρ s.heap vs vals) (k : KontG hB os N.acc ρ s v σ' Q) : wpAny (model prog w) A (call (.type "range") vals) Q Fls s := by
  have fin : ∀ {a b c : Int} {t u x : Tok}, some (AV.rng a b c, σ) = some (v, σ') → ∀ tk, Q (.ref s.heap.objs.size) { s with heap := s.heap.push { cls := .type "range", data := .fields #[.int a t, .int b u, .int c x] }, toks := tk } := fun {a b c t u x} e tk => (k.of e) _ _ ρ (Step.push G _ _) (G.push _ _) (.rng (IsRange.new ..))
  rcases vs with _ | ⟨a, _ | ⟨b, _ | ⟨c, _ | ⟨_, _⟩⟩⟩⟩
  · cases e
  · obtain ⟨x, r, rfl⟩ := R.oneE
    obtain ⟨i, h, e1⟩ := bind1_inv e
    obtain ⟨_, e2⟩ := guard_inv e1
    rw [asInt_inv h] at r
    obtain ⟨_, rfl⟩ := r.intE
    exact call_range_1 (fin e2 _)
  · obtain ⟨x, y, r, r2, rfl⟩ := R.twoE
    obtain ⟨i, h, e1⟩ := bind1_inv e
    obtain ⟨j, h2, e2⟩ := bind1_inv e1
    obtain ⟨_, e3⟩ := guard_inv e2
    rw [asInt_inv h] at r
    rw [asInt_inv h2] at r2
    obtain ⟨_, rfl⟩ := r.intE
    obtain ⟨_, rfl⟩ := r2.intE
    exact call_range_2 (fin e3 _)
  · obtain ⟨x, y, z, r, r2, r3, rfl⟩ := R.threeE
    obtain ⟨i, h, e1⟩ := bind1_inv e
    obtain ⟨j, h2, e2⟩ := bind1_inv e1
    obtain ⟨l, h3, e3⟩ := bind1_inv e2
    obtain ⟨hk, e4⟩ := guard_inv e3
    rw [Bool.and_eq_true, decide_eq_true_eq] at hk
    have hk := hk.2
    subst hk
    rw [asInt_inv h] at r
    rw [asInt_inv h2] at r2
    rw [asInt_inv h3] at r3
    obtain ⟨_, rfl⟩ := r.intE
    obtain ⟨_, rfl⟩ := r2.intE
    obtain ⟨_, rfl⟩ := r3.intE
    exact call_range_3 (by decide) (fin e4 _) (.inl (PyProof.noPylong_small (by decide)))
  · cases e

theorem builtin_ok {f : Bif} (hO : OCall prog w hB os N d O) (hA : AOk d A) (e : builtin O f vs σ = some (v, σ')) (G : StG hB os N.acc ρ σ s)
    (R : RelVs hB ρ s.heap vs vals) (k : KontG hB os N.acc ρ s v σ' Q) : wpAny (model prog w) A (call (bifVal N f) vals) Q Fls s := by
  cases f with
  | len => exact len_ok hO hA e G R k
  | str => exact hO.kont (f := "#str") hA e G R k
  | sorted => exact hO.kont (f := "#sorted") hA e G R k
  | accum => exact hO.kont (f := "#new") hA e G R k
  | chr => exact chr_ok e G R k
  | sum => exact sum_ok hA e G R k
  | range => exact range_ok e G R k
end

noncomputable def mthVal (N : Nm) : Mth → Value
  | .join => .builtin "str.join"
  | .split => .builtin "str.split"
  | .append => .builtin "list.append"
  | .extend => .builtin "list.extend"
  | .count => .builtin "list.count"
  | .push => .ref N.push
  | .pop => .ref N.pop
  | .partCount => .ref N.pc

theorem eqEach_spec (G : StG hB os C ρ σ s) {v : AV} : ∀ {xs : List AV} {vs : List Value} {bs : List Bool}, eqEach v xs = some bs → RelVs hB ρ s.heap xs vs →
    (∀ y ∈ vs, ∃ x b, RelV hB ρ s.heap x y ∧ eqAV x v = some b) ∧ vs.countP (eqV hB ρ s.heap v) = bs.count true
  | [], _, c, e, R => by rw [R.nilE]; cases e; simp
  | x :: xs, _, c, e, R => by
    obtain ⟨y, ys, r, rs, rfl⟩ := R.consE
    obtain ⟨a, h1, e1⟩ := bind1_inv e
    obtain ⟨b, h2, e2⟩ := bind1_inv e1
    cases e2
    obtain ⟨i1, i2⟩ := eqEach_spec G h2 rs
    refine ⟨fun z hz => ?_, by rw [List.countP_cons, i2, eqV_eq G r h1, List.count_cons]; cases a <;> simp⟩
    rcases List.mem_cons.mp hz with rfl | q
    · exact ⟨x, a, r, h1⟩
    · exact i1 z q

section
variable {Q : Value → Shared → Prop} {o : AV} {vs : List AV} {ov : Value} {vals : List Value}
theorem join_ok (e : methCall O .join o vs σ = some (v, σ')) (G : StG hB os N.acc ρ σ s)
    (r : RelV hB ρ s.heap o ov) (R : RelVs hB ρ s.heap vs vals) (k : KontG hB os N.acc ρ s v σ' Q) : wpAny (model prog w) A (call (.builtin "str.join") (ov :: vals)) Q Fls s := by
  obtain ⟨sep, h, e1⟩ := bind1_inv e
  obtain ⟨a, h2, e2⟩ := bind1_inv e1
  obtain ⟨xs, h3, e3⟩ := bind1_inv e2
  obtain ⟨ss, h4, e4⟩ := bind1_inv e3
  obtain ⟨hk, e5⟩ := guard_inv e4
  rw [one_inv h2] at R
  rw [asStr_inv h] at r
  have k := k.of e5
  have hk' := sizeOk_le hk
  obtain ⟨_, rfl⟩ := r.strE
  obtain ⟨y, r1, rfl⟩ := R.oneE
  have fin : ∀ t' tk, Q (.str (Txt.join ⟨sep.toArray⟩ (ss.map fun l => ⟨l.toArray⟩)) t') { s with toks := tk } := fun t' tk =>
    k.post (.str G (by show (Builtin.Str.glued _ _).cps.toList = _; rw [StrLaws.glued_eq_join, join_list']) _ _)
  have hsz : ((ss.map fun l => (⟨l.toArray⟩ : Str)).map (·.length)).sum + (ss.map fun l => (⟨l.toArray⟩ : Str)).length * (⟨sep.toArray⟩ : Str).length ≤ 16777216 := by
    rw [total_map, List.length_map, show (⟨sep.toArray⟩ : Str).length = sep.length by simp [Str.length], Nat.mul_comm]
    omega
  cases a with
  | ref i =>
    obtain ⟨p, hp, rfl⟩ := r1.refE
    obtain ⟨us, hl, rs⟩ := G.listE h3 hp
    exact join_list hl.isList (txts_are h4 rs) hsz fin
  | tup ys =>
    cases h3
    obtain ⟨_, _, t, rs, rfl⟩ := r1.tupE
    exact join_tuple t (txts_are h4 rs) hsz fin
  | frz ys =>
    cases h3
    obtain ⟨_, _, _, hl, rs, rfl⟩ := r1.frzE
    exact join_list hl (txts_are h4 rs) hsz fin
  | _ => cases h3
theorem append_ok (hA : AOk d A) (e : methCall O .append o vs σ = some (v, σ')) (G : StG hB os N.acc ρ σ s)
    (r : RelV hB ρ s.heap o ov) (R : RelVs hB ρ s.heap vs vals) (k : KontG hB os N.acc ρ s v σ' Q) : wpAny (model prog w) A (call (.builtin "list.append") (ov :: vals)) Q Fls s := by
  obtain ⟨i, h, e1⟩ := bind1_inv e
  obtain ⟨a, h2, e2⟩ := bind1_inv e1
  obtain ⟨xs, h1, e3⟩ := bind1_inv e2
  obtain ⟨hk, e4⟩ := guard_inv e3
  rw [one_inv h2] at R
  rw [asRef_inv h] at r
  have k := k.of e4
  have hk' := sizeOk_le hk
  obtain ⟨p, hp, rfl⟩ := r.refE
  obtain ⟨y, r1, rfl⟩ := R.oneE
  obtain ⟨us, hl, rs⟩ := G.listE h1 hp
  have hn := rs.length
  refine wpAny_list_append_plain hl (fun h' hl' hs => ?_) (by simp [sizeLine_eq']; omega)
  have kp : KeepH (· = p.1) s.heap h' := fun b o e n => (hs.2 b n).trans e
  have hm : ∀ b, b = p.1 → Mut s.heap b ∧ hB.get? b = none := fun b e => by subst e; exact G.mut ⟨p, List.mem_of_getElem? hp, rfl⟩
  obtain ⟨G', S'⟩ := G.turn hp (listAt_inv h1) (c' := .list (xs ++ [a])) hs ⟨us ++ [_], by simpa using hl', ((rs.mono kp hm (n := s.heap) .refl).append (.cons (r1.mono kp hm (n := s.heap) .refl) .nil))⟩ s.toks
  exact k _ _ ρ S' G' .none
theorem extend_ok (e : methCall O .extend o vs σ = some (v, σ')) (G : StG hB os N.acc ρ σ s)
    (r : RelV hB ρ s.heap o ov) (R : RelVs hB ρ s.heap vs vals) (k : KontG hB os N.acc ρ s v σ' Q) : wpAny (model prog w) A (call (.builtin "list.extend") (ov :: vals)) Q Fls s := by
  obtain ⟨i, h, e1⟩ := bind1_inv e
  obtain ⟨a, h2, e2⟩ := bind1_inv e1
  obtain ⟨j, h3, e3⟩ := bind1_inv e2
  obtain ⟨xs, h1, e4⟩ := bind1_inv e3
  obtain ⟨ys, h5, e5⟩ := bind1_inv e4
  obtain ⟨hk, e6⟩ := guard_inv e5
  rw [one_inv h2, asRef_inv h3] at R
  rw [asRef_inv h] at r
  have k := k.of e6
  have hk' := sizeOk_le hk
  obtain ⟨p, hp, rfl⟩ := r.refE
  obtain ⟨y, r1, rfl⟩ := R.oneE
  obtain ⟨q, hq, rfl⟩ := r1.refE
  obtain ⟨us, ⟨n1, hl⟩, rs⟩ := G.listE h1 hp
  obtain ⟨ws, ⟨n2, hl2⟩, rs2⟩ := G.listE h5 hq
  have hn := rs.length
  have hn2 := rs2.length
  have hsz' : us.toArray.size + ws.toArray.size ≤ sizeLine := by simp [sizeLine_eq']; omega
  refine call_meets PySem.F.slot_list_extend ⟨_, hl, rfl⟩ PySem.F.entry_list_extend (PySem.F.args_list_extend_2 _ _) (AutoSeq1.list_extend_list_list_0 p.1 us.toArray n1 q.1 ws.toArray n2 (extend_door hsz') (Nat.le_trans (Nat.le_add_right _ _) hsz')) ⟨hl, hl2, ?_⟩
  have hs : Heap.SameBut p.1 s.heap (s.heap.update p.1 (Obj.mapSeq fun x => x ++ ws.toArray)) := Heap.SameBut.update ..
  have kp : KeepH (· = p.1) s.heap (s.heap.update p.1 (Obj.mapSeq fun x => x ++ ws.toArray)) := fun b o e n => (hs.2 b n).trans e
  have hm : ∀ b, b = p.1 → Mut s.heap b ∧ hB.get? b = none := fun b e => by subst e; exact G.mut ⟨p, List.mem_of_getElem? hp, rfl⟩
  have e1 : us.toArray ++ ws.toArray = (us ++ ws).toArray := by simp
  have ho' : (s.heap.update p.1 (Obj.mapSeq fun x => x ++ ws.toArray)).get? p.1 = some { cls := .type "list", data := .seq (us ++ ws).toArray (if (us.toArray ++ ws.toArray).size == us.toArray.size then n1 else n1 + 1) } := by
    rw [Heap.get?_update_self _ hl (by rw [mapSeq_app]; rfl), mapSeq_app, e1]
  obtain ⟨G', S'⟩ := G.turn hp (listAt_inv h1) (c' := .list (xs ++ ys)) hs ⟨us ++ ws, ⟨_, ho'⟩, ((rs.mono kp hm (n := s.heap) .refl).append (rs2.mono kp hm (n := s.heap) .refl))⟩ s.toks
  exact k _ _ ρ S' G' .none
theorem count_ok (hA : AOk d A) (e : methCall O .count o vs σ = some (v, σ')) (G : StG hB os N.acc ρ σ s)
    (r : RelV hB ρ s.heap o ov) (R : RelVs hB ρ s.heap vs vals) (k : KontG hB os N.acc ρ s v σ' Q) : wpAny (model prog w) A (call (.builtin "list.count") (ov :: vals)) Q Fls s := by
  obtain ⟨i, h, e1⟩ := bind1_inv e
  obtain ⟨a, h2, e2⟩ := bind1_inv e1
  obtain ⟨xs, h1, e3⟩ := bind1_inv e2
  obtain ⟨bs, h4, e4⟩ := bind1_inv e3
  rw [one_inv h2] at R
  rw [asRef_inv h] at r
  have k := k.of e4
  have hu := hA.line
  obtain ⟨p, hp, rfl⟩ := r.refE
  obtain ⟨y, r1, rfl⟩ := R.oneE
  obtain ⟨us, ⟨n1, hl⟩, rs⟩ := G.listE h1 hp
  obtain ⟨i1, i2⟩ := eqEach_spec G h4 rs
  refine call_meets PySem.F.slot_list_count ⟨_, hl, rfl⟩ PySem.F.entry_list_count (PySem.F.args_list_count_2 _ _) (list_countAt p.1 us.toArray n1 none #[] _ (eqV hB ρ s.heap a)) ⟨hl, eqV_at G r1 (by show A.in1.units < cLine; simp; omega) i1, ?_⟩
  rw [show us.toArray.toList = us from rfl, i2]
  exact k.now G (.int _ _) _
theorem acc_ok {f : Str} (hO : OCall prog w hB os N d O) (hA : AOk d A) (e : accCall O f o vs σ = some (v, σ')) (G : StG hB os N.acc ρ σ s)
    (r : RelV hB ρ s.heap o ov) (R : RelVs hB ρ s.heap vs vals) (k : KontG hB os N.acc ρ s v σ' Q) : wpAny (model prog w) A (call (N.val f) (ov :: vals)) Q Fls s := by
  obtain ⟨i, h, e1⟩ := bind1_inv e
  exact hO.kont hA (guard_inv e1).2 G (.cons r R) k

theorem methCall_ok {mt : Mth} (hO : OCall prog w hB os N d O) (hA : AOk d A) (e : methCall O mt o vs σ = some (v, σ')) (G : StG hB os N.acc ρ σ s)
    (r : RelV hB ρ s.heap o ov) (R : RelVs hB ρ s.heap vs vals) (k : KontG hB os N.acc ρ s v σ' Q) : wpAny (model prog w) A (call (mthVal N mt) (ov :: vals)) Q Fls s := by
  cases mt with
  | join => exact join_ok e G r R k
  | append => exact append_ok hA e G r R k
  | extend => exact extend_ok e G r R k
  | count => exact count_ok hA e G r R k
  | split =>
    obtain ⟨_, h, e1⟩ := bind1_inv e
    exact hO.kont (f := "#split") hA e1 G (.cons r R) k
  | push => exact acc_ok (f := "#push") hO hA e G r R k
  | pop => exact acc_ok (f := "#pop") hO hA e G r R k
  | partCount => exact acc_ok (f := "#part_count") hO hA e G r R k
end
end
end Mine
end

section
open PySem PySem.W PyProof.Rows PySem.Calls PySem.SeqAt
set_option maxRecDepth 100000
set_option linter.unusedSimpArgs false
namespace Mine

theorem Ns.uniq {h : Heap} {a : Addr} {m m' : Str → Option Value} (x : h.Ns a m) (y : h.Ns a m') : m = m' := by
  obtain ⟨o, es, ep, ho, hd, _, hm⟩ := x
  obtain ⟨o', es', ep', ho', hd', _, hm'⟩ := y
  rw [ho] at ho'; cases ho'
  rw [hd] at hd'; cases hd'
  funext z
  rw [← hm, ← hm']
theorem Ns.mut {h : Heap} {a : Addr} {m : Str → Option Value} (x : h.Ns a m) : Mut h a := by
  obtain ⟨o, es, ep, ho, hd, _, hm⟩ := x
  intro o' ho'
  rw [ho] at ho'; cases ho'
  exact .inr (.inl ⟨_, _, hd⟩)
theorem IsCell.mut {h : Heap} {a : Addr} {v : Option Value} (x : h.IsCell a v) : Mut h a := by
  obtain ⟨o, ho, hd⟩ := x
  intro o' ho'
  rw [ho] at ho'; cases ho'
  exact .inr (.inr ⟨_, hd⟩)

theorem lookup_setL (x : Str) (v : AV) (y : Str) : ∀ m : Loc, (setL m x v).lookup y = if y = x then some v else m.lookup y
  | [] => by
    simp only [setL_nil, List.lookup]
    by_cases h : y = x
    · subst h; simp
    · have : (y == x) = false := by simpa using h
      simp [this, h]
  | p :: r => by
    have ih := lookup_setL x v y r
    simp only [setL_cons]
    by_cases hp : p.1 = x
    · rw [if_pos hp]
      by_cases h : y = x
      · subst h; simp [List.lookup]
      · have : (y == x) = false := by simpa using h
        have h2 : (y == p.1) = false := by rw [hp]; exact this
        obtain ⟨p1, p2⟩ := p
        simp only at h2
        simp [List.lookup, this, h, h2]
    · rw [if_neg hp]
      obtain ⟨p1, p2⟩ := p
      simp only at hp
      by_cases h : y = x
      · subst h
        have : (y == p1) = false := by simpa using (fun e => hp e.symm)
        simp [List.lookup, this, ih]
      · simp only [List.lookup]
        cases hq : y == p1 with
        | true => simp [h]
        | false => simp [ih, h]

section
variable {prog : Program} {w : World} {A : Around} {hB : Heap} {os : OsState} {C : Addr} {ρ ρ' : Rho} {σ σ' : Sto} {s s' : Shared} {v : AV} {N : Nm} {d : Nat} {O : Oracle} {env : Env} {m m' : Loc}

/-- the heap turns at places that are no cells -/
theorem StG.side {M : Addr → Prop} (G : StG hB os C ρ σ s) {h' : Heap} (k : KeepH M s.heap h') (hm : ∀ b, M b → Mut s.heap b ∧ hB.get? b = none) (h1 : ∀ p ∈ ρ, ¬ M p.1 ∧ ¬ M p.2) (t : Nat) :
    StG hB os C ρ σ { s with heap := h', toks := t } := by
  refine ⟨fun b o e => k b o (G.base b o e) fun q => ?_, G.len, fun r c p e1 e2 => ?_, G.lo, G.apart, G.gens, G.os, fun p hp => isSome_keep (fun o e => k _ o e (h1 p hp).2) (G.two p hp)⟩
  · rw [(hm b q).2] at e; cases e
  · have := h1 p (List.mem_of_getElem? e2)
    exact (G.cell r c p e1 e2).mono k hm (n := s.heap) .refl this.1 fun _ _ _ => this.2

/-- the places of a frame that its own statements turn -/
noncomputable def tgtM (env : Env) (P : Str → Prop) (b : Addr) : Prop := b = env.locals ∨ ∃ x, P x ∧ env.kindOf x = some .cell ∧ env.cells.lookup x = some b
noncomputable abbrev frM (env : Env) : Addr → Prop := tgtM env fun _ => True
theorem tgtM.fr {P : Str → Prop} {b : Addr} (h : tgtM env P b) : frM env b := h.imp id fun ⟨x, _, a⟩ => ⟨x, trivial, a⟩

theorem FmOk.frMut {n₀ : Heap} {h : Heap} (F : FmOk n₀ env ρ h) {b : Addr} (q : frM env b) : Mut h b ∧ n₀.get? b = none := by
  rcases q with rfl | ⟨x, _, _, hx⟩
  · exact ⟨(let ⟨_, h⟩ := F.ns; Ns.mut h), F.loL⟩
  · obtain ⟨a, v, hc⟩ := F.cellAt x b hx
    exact ⟨IsCell.mut hc, a⟩
theorem FmOk.frLies {n₀ : Heap} {h : Heap} (F : FmOk n₀ env ρ h) {b : Addr} (q : frM env b) : (h.get? b).isSome = true := by
  rcases q with rfl | ⟨x, _, _, hx⟩
  · obtain ⟨_, o, _, _, ho, _⟩ := F.ns; rw [ho]; rfl
  · obtain ⟨_, v, o, ho, _⟩ := F.cellAt x b hx; rw [ho]; rfl

/-- a statement's step: the places of M turn too -/
structure StepS (M : Addr → Prop) (ρ : Rho) (s : Shared) (ρ' : Rho) (s' : Shared) : Prop where
  grow : Grow s.heap ρ ρ'
  keep : KeepH (fun b => inρ ρ b ∨ M b) s.heap s'.heap
  lies : ∀ b, inρ ρ b ∨ M b → (s'.heap.get? b).isSome = true
theorem StepS.none {M : Addr → Prop} (x : StepS M ρ s ρ' s') : ∀ b, s'.heap.get? b = none → s.heap.get? b = none := fun b h => by
  cases e : s.heap.get? b with
  | none => rfl
  | some o =>
    by_cases q : inρ ρ b ∨ M b
    · have := x.lies b q; rw [h] at this; cases this
    · rw [x.keep b o e q] at h; cases h
theorem StepS.weak {M M' : Addr → Prop} (x : StepS M ρ s ρ' s') (sub : ∀ b, M b → M' b) (l : ∀ b, M' b → (s'.heap.get? b).isSome = true) : StepS M' ρ s ρ' s' :=
  ⟨x.grow, x.keep.weak fun b _ _ h => h.imp id (sub b), fun b h => h.elim (fun h => x.lies b (.inl h)) (l b)⟩
theorem Step.toS {P : Str → Prop} (x : Step ρ s ρ' s') (F : FmOk hB env ρ s.heap) : StepS (tgtM env P) ρ s ρ' s' := by
  refine ⟨x.grow, x.keep.weak fun _ _ _ h => .inl h, fun b h => ?_⟩
  rcases h with h | h
  · exact x.lies b h
  · exact (F.step x).frLies h.fr
theorem StepS.trans {M : Addr → Prop} {ρ'' : Rho} {s'' : Shared} (x : StepS M ρ s ρ' s') (y : StepS M ρ' s' ρ'' s'') : StepS M ρ s ρ'' s'' := by
  refine ⟨x.grow.trans y.grow x.none, x.keep.trans y.keep fun b o e => ?_, fun b h => ?_⟩
  · rintro (⟨p, hp, rfl⟩ | h)
    · rcases x.grow.mem hp with q | q
      · exact .inl ⟨p, q, rfl⟩
      · rw [q.1] at e; cases e
    · exact .inr h
  · rcases h with ⟨p, hp, rfl⟩ | h
    · obtain ⟨t, rfl, _⟩ := x.grow
      exact y.lies p.1 (.inl ⟨p, List.mem_append_left _ hp, rfl⟩)
    · exact y.lies b (.inr h)

theorem store_ok {x : Str} {val : Value} {Q : Unit → Shared → Prop} (S : St hB os C env m ρ σ s) (r : RelV hB ρ s.heap v val) (hk : env.kindOf x = some .local ∨ env.kindOf x = some .cell)
    (K : ∀ u s', StepS (tgtM env (· = x)) ρ s ρ s' → St hB os C env (setL m x v) ρ σ s' → Q u s') : wpAny (model prog w) A (storeName env x val) Q Fls s := by
  have F := S.f
  rcases hk with hk | hk
  · obtain ⟨mm, hn⟩ := F.ns
    refine wpAny_storeName_local hk hn (fun h' hn' hs => ?_) (by rw [F.kind]; rfl)
    have kp : KeepH (· = env.locals) s.heap h' := fun b o e n => (hs.2 b n).trans e
    have hm : ∀ b, b = env.locals → Mut s.heap b ∧ hB.get? b = none := fun b e => by subst e; exact F.frMut (.inl rfl)
    have fr : ∀ {y z}, RelV hB ρ s.heap y z → RelV hB ρ h' y z := fun r => r.mono kp hm (n := s.heap) .refl
    have cellk : ∀ y c, env.cells.lookup y = some c → c ≠ env.locals := fun y c hy e => by
      obtain ⟨_, v, o, ho, hd⟩ := F.cellAt y c hy
      obtain ⟨o', es, ep, ho', hd', _⟩ := hn
      rw [e, ho'] at ho; cases ho
      rw [hd'] at hd; cases hd
    refine K _ _ ⟨.refl, kp.weak fun b _ _ e => .inr (.inl e), fun b h => ?_⟩ ⟨S.g.side kp hm (fun p hp => F.sepL p hp) _, ?_, fun y u e => ?_⟩
    · by_cases q : b = env.locals
      · subst q; obtain ⟨o, _, _, ho, _⟩ := hn'; show (h'.get? _).isSome = true; rw [ho]; rfl
      · have : (s.heap.get? b).isSome = true := by
          rcases h with h | h
          · exact S.g.lies h
          · exact F.frLies h.fr
        obtain ⟨o, ho⟩ := Option.isSome_iff_exists.mp this
        show (h'.get? b).isSome = true
        rw [kp b o ho q]; rfl
    · exact ⟨F.kind, F.glob, F.bui, ⟨_, hn'⟩, F.loL, F.cells, fun y c hy => let ⟨a, v, hv⟩ := F.cellAt y c hy; ⟨a, v, IsCell.keepAt hv fun o e => kp c o e (cellk y c hy)⟩, F.cinj, F.sepL, F.sepC⟩
    · rw [lookup_setL] at e
      by_cases h : y = x
      · subst h
        rw [if_pos rfl] at e; cases e
        exact ⟨val, .inl ⟨hk, _, hn', by simp⟩, fr r⟩
      · rw [if_neg h] at e
        obtain ⟨u', n, ru⟩ := S.v y u e
        refine ⟨u', ?_, fr ru⟩
        rcases n with ⟨k1, mm', hn2, e2⟩ | ⟨k1, c, hc, hv⟩
        · rw [Ns.uniq hn2 hn] at e2
          exact .inl ⟨k1, _, hn', by simp [h, e2]⟩
        · exact .inr ⟨k1, c, hc, IsCell.keepAt hv fun o e => kp c o e (cellk y c hc)⟩
  · obtain ⟨c, hc⟩ := F.cells x (.inl hk)
    obtain ⟨hc0, v₀, hcell⟩ := F.cellAt x c hc
    refine wpAny_storeName_cell F.kind hk hc hcell (fun h' hn' hs => ?_)
    have kp : KeepH (· = c) s.heap h' := fun b o e n => (hs.2 b n).trans e
    have hm : ∀ b, b = c → Mut s.heap b ∧ hB.get? b = none := fun b e => by subst e; exact F.frMut (.inr ⟨x, trivial, hk, hc⟩)
    have fr : ∀ {y z}, RelV hB ρ s.heap y z → RelV hB ρ h' y z := fun r => r.mono kp hm (n := s.heap) .refl
    have hL : env.locals ≠ c := fun e => by
      obtain ⟨_, o', es, ep, ho', hd', _⟩ := F.ns
      obtain ⟨o, ho, hd⟩ := hcell
      rw [← e, ho'] at ho; cases ho
      rw [hd'] at hd; cases hd
    refine K _ _ ⟨.refl, kp.weak fun b _ _ e => .inr (.inr ⟨x, rfl, hk, e ▸ hc⟩), fun b h => ?_⟩ ⟨S.g.side kp hm (fun p hp => F.sepC p hp x c hc) _, ?_, fun y u e => ?_⟩
    · by_cases q : b = c
      · subst q; obtain ⟨o, ho, _⟩ := hn'; show (h'.get? _).isSome = true; rw [ho]; rfl
      · have : (s.heap.get? b).isSome = true := by
          rcases h with h | h
          · exact S.g.lies h
          · exact F.frLies h.fr
        obtain ⟨o, ho⟩ := Option.isSome_iff_exists.mp this
        show (h'.get? b).isSome = true
        rw [kp b o ho q]; rfl
    · refine ⟨F.kind, F.glob, F.bui, (let ⟨mm, h⟩ := F.ns; ⟨mm, Ns.keepAt h fun o e => kp _ o e hL⟩), F.loL, F.cells, fun y c' hy => ?_, F.cinj, F.sepL, F.sepC⟩
      obtain ⟨a, v, hv⟩ := F.cellAt y c' hy
      by_cases q : c' = c
      · subst q; exact ⟨a, _, hn'⟩
      · exact ⟨a, v, IsCell.keepAt hv fun o e => kp c' o e q⟩
    · rw [lookup_setL] at e
      by_cases h : y = x
      · subst h
        rw [if_pos rfl] at e; cases e
        exact ⟨val, .inr ⟨.inl hk, c, hc, hn'⟩, fr r⟩
      · rw [if_neg h] at e
        obtain ⟨u', n, ru⟩ := S.v y u e
        refine ⟨u', ?_, fr ru⟩
        rcases n with ⟨k1, mm', hn2, e2⟩ | ⟨k1, c', hc', hv⟩
        · exact .inl ⟨k1, mm', Ns.keepAt hn2 fun o e => kp _ o e hL, e2⟩
        · exact .inr ⟨k1, c', hc', IsCell.keepAt hv fun o e => kp c' o e fun q => h (F.cinj y x c (q ▸ hc') hc)⟩


theorem RelVs.two {n₀ : Heap} {h : Heap} {a b : AV} {vs : List Value} (r : RelVs n₀ ρ h [a, b] vs) : ∃ va vb, vs = [va, vb] ∧ RelV n₀ ρ h a va ∧ RelV n₀ ρ h b vb :=
  let ⟨v, u, r1, r2, e⟩ := r.twoE
  ⟨v, u, e, r1, r2⟩

/-- the target of a loop is bound -/
noncomputable def kOk (env : Env) (x : Str) : Prop := env.kindOf x = some .local ∨ env.kindOf x = some .cell
noncomputable def tOk (env : Env) (P : Str → Prop) (t : PySem.Expr) : Prop :=
  (∀ x, nameOf t = some x → kOk env x ∧ P x) ∧ ∀ x y, pairOf t = some (x, y) → (kOk env x ∧ P x) ∧ (kOk env y ∧ P y)
theorem nameOf_inv {t : PySem.Expr} {x : Str} (h : nameOf t = some x) : ∃ p, t = .Name x p := by
  refine Classical.byContradiction fun hn => ?_
  cases t with
  | Name y p => exact hn ⟨p, by rw [Option.some.inj h]⟩
  | _ => exact nn h
theorem tupleOf_inv {t : PySem.Expr} {es : List PySem.Expr} (h : tupleOf t = some es) : ∃ k p, t = .Tuple es k p := by
  refine Classical.byContradiction fun hn => ?_
  cases t with
  | Tuple y k p => exact hn ⟨k, p, by rw [Option.some.inj h]⟩
  | _ => exact nn h
theorem pairOf_inv {t : PySem.Expr} {x y : Str} (h : pairOf t = some (x, y)) : x ≠ y ∧ ∃ p q k r, t = .Tuple [.Name x p, .Name y q] k r := by
  obtain ⟨es, h1, h⟩ := bind1_inv h
  obtain ⟨a, b, h2, h⟩ := bind2_inv h
  obtain ⟨x', h3, h⟩ := bind1_inv h
  obtain ⟨y', h4, h⟩ := bind1_inv h
  by_cases q : x' = y'
  · rw [if_pos q] at h; cases h
  · rw [if_neg q] at h
    cases h
    obtain ⟨k, r, rfl⟩ := tupleOf_inv h1
    rw [two_inv h2]
    obtain ⟨p, rfl⟩ := nameOf_inv h3
    obtain ⟨p', rfl⟩ := nameOf_inv h4
    exact ⟨q, p, p', k, r, rfl⟩
theorem bindT_inv {t : PySem.Expr} {u : AV} (e : bindT t u m = some m') : (∃ x, nameOf t = some x ∧ m' = setL m x u) ∨ ∃ x y a b, pairOf t = some (x, y) ∧ u = .tup [a, b] ∧ m' = setL (setL m x a) y b := by
  unfold bindT at e
  split at e
  · rename_i x h; cases e; exact .inl ⟨x, h, rfl⟩
  · obtain ⟨x, y, h, e⟩ := bind2_inv e
    obtain ⟨vs, h2, e⟩ := bind1_inv e
    obtain ⟨a, b, h3, e⟩ := bind2_inv e
    cases e
    exact .inr ⟨x, y, a, b, h, by rw [asTup_inv h2, two_inv h3], rfl⟩

theorem assign_ok {P : Str → Prop} {t : PySem.Expr} {val : Value} {Q : Unit → Shared → Prop} (e : bindT t v m = some m') (hA : A.handled = none) (S : St hB os C env m ρ σ s) (r : RelV hB ρ s.heap v val) (ht : tOk env P t)
    (K : ∀ u s', StepS (tgtM env P) ρ s ρ s' → St hB os C env m' ρ σ s' → Q u s') : wpAny (model prog w) A (assign t env val) Q Fls s := by
  rcases bindT_inv e with ⟨x, hx, rfl⟩ | ⟨x, y, a, b, hx, rfl, rfl⟩
  · obtain ⟨hk, hP⟩ := ht.1 x hx
    obtain ⟨p, rfl⟩ := nameOf_inv hx
    exact wpAny_assign_Name (store_ok S r hk fun u s2 h2 S2 => K u s2 (h2.weak (fun b hb => hb.imp id fun ⟨y, e, a⟩ => ⟨y, e ▸ hP, a⟩) fun b hb => S2.f.frLies hb.fr) S2)
  · obtain ⟨⟨hk, hP⟩, hk2, hP2⟩ := ht.2 x y hx
    obtain ⟨hxy, px, py, k, pos, rfl⟩ := pairOf_inv hx
    obtain ⟨ad, vs, tt, rs, rfl⟩ := r.tupE
    obtain ⟨va, vb, r1, r2, rfl⟩ := rs.twoE
    refine wpAny_assign_Tuple hA tt rfl rfl fun h' hx => ?_
    have kp : ∀ b o, s.heap.get? b = some o → h'.get? b = some o := fun b o e => hx b o (Nat.ne_of_lt (Heap.lt_size e)) e
    have St1 : Step ρ s ρ { s with heap := h' } := Step.keeps S.g kp s.toks
    have S1 := S.step St1 (S.g.keeps kp s.toks)
    show wpAny _ _ (do holding [vb] (assign (.Name x px) env va); do holding [] (assign (.Name y py) env vb); pure ()) _ _ _
    refine wpAny_bind (wpAny_holding (wpAny_assign_Name (store_ok S1 (St1.rel S.g r1) hk fun u s2 Sa S2 => ?_)))
    have r2' : RelV hB ρ s2.heap b vb := (St1.rel S.g r2).mono Sa.keep (fun b hb => hb.elim S1.g.mut fun hb => S1.f.frMut hb.fr) .refl (n := s.heap)
    refine wpAny_bind (wpAny_holding (wpAny_assign_Name (store_ok S2 r2' hk2 fun u s3 h3 S3 => wpAny_pure (K _ s3 ?_ S3))))
    exact ((St1.toS S.f).trans (Sa.weak (fun b hb => hb.imp id fun ⟨y, e, a⟩ => ⟨y, e ▸ hP, a⟩) fun b hb => S2.f.frLies hb.fr)).trans
        (h3.weak (fun b hb => hb.imp id fun ⟨y, e, a⟩ => ⟨y, e ▸ hP2, a⟩) fun b hb => S3.f.frLies hb.fr)

/-- the iterator of a loop -/
noncomputable def ItAt (ρ : Rho) (h : Heap) (src : AV) (i : Nat) (I : Addr) : Prop :=
  match src with
  | .ref r => ∃ p, ρ[r]? = some p ∧ h.IsListIter I p.1 i
  | .str l => ∃ t, h.IsStrIter I (strIterType ⟨l.toArray⟩) ⟨l.toArray⟩ t i
  | .rng a b c => (c = 1 ∧ IsRangeIter h I (a + i) ((if a < b then b - a else 0) - i) 1) ∨ (c = -1 ∧ IsRangeIter h I (a - i) ((if b < a then a - b else 0) - i) (-1))
  | _ => False
theorem ItAt.keep {h h' : Heap} {src : AV} {i : Nat} {I : Addr} (x : ItAt ρ h src i I) (k : ∀ o, h.get? I = some o → h'.get? I = some o) {n : Heap} (g : Grow n ρ ρ') : ItAt ρ' h' src i I := by
  cases src with
  | ref r => obtain ⟨p, hp, o, ho, hr⟩ := x; exact ⟨p, g.get hp, o, k o ho, hr⟩
  | str l => obtain ⟨t, o, ho, hr⟩ := x; exact ⟨t, o, k o ho, hr⟩
  | rng a b c => exact x.imp (fun h => ⟨h.1, k _ h.2⟩) fun h => ⟨h.1, k _ h.2⟩
  | _ => exact x.elim
theorem ItAt.lies {h : Heap} {src : AV} {i : Nat} {I : Addr} (x : ItAt ρ h src i I) : ∃ o fs, h.get? I = some o ∧ o.data = .fields fs ∧ o.cls ≠ .type "tuple" ∧ o.cls ≠ .type "range" := by
  cases src with
  | ref r => obtain ⟨p, hp, o, ho, hc, hd⟩ := x; exact ⟨o, _, ho, hd, by rw [hc]; simp, by rw [hc]; simp⟩
  | str l =>
    obtain ⟨t, o, ho, hc, hd⟩ := x
    refine ⟨o, _, ho, hd, ?_, ?_⟩ <;> (rw [hc]; unfold strIterType; split <;> simp)
  | rng a b c => rcases x with ⟨_, h⟩ | ⟨_, h⟩ <;> exact ⟨_, _, h, rfl, by simp, by simp⟩
  | _ => exact x.elim

theorem small_down {a b : Int} (ha : a.natAbs ≤ 1000000000000) (hb : b.natAbs ≤ 1000000000000) : Builtin.Range.small a b (-1) = true ∧ Builtin.Range.rangeSize a b (-1) = if b < a then a - b else 0 := by
  have e : Builtin.Range.rangeSize a b (-1) = if b < a then a - b else 0 := by
    unfold Builtin.Range.rangeSize
    simp only [show ¬ ((-1 : Int) > 0) by decide, if_false, show (-(-1) : Int) = 1 by decide, Int.ediv_one]
    split <;> omega
  refine ⟨?_, e⟩
  unfold Builtin.Range.small
  rw [e]
  simp only [Builtin.Range.rangeFitsLong, Bool.and_eq_true, Bool.or_eq_true, decide_eq_true_eq, beq_iff_eq, show ¬ ((-1 : Int) > 0) by decide, if_false]
  split <;> omega

theorem iter_ok {t : PySem.Expr} {src : AV} {val : Value} (e : srcOk t src σ = true) (G : StG hB os C ρ σ s) (r : RelV hB ρ s.heap src val) {Q : Value → Shared → Prop}
    (h : ∀ h' I, (∀ b o, s.heap.get? b = some o → h'.get? b = some o) → s.heap.get? I = none → ItAt ρ h' src 0 I → Q (.ref I) { s with heap := h' }) : wpAny (model prog w) A (pyIter val) Q Fls s := by
  have go : ∀ {o : Obj}, ItAt ρ (s.heap.push o) src 0 s.heap.objs.size → Q (.ref s.heap.objs.size) { s with heap := s.heap.push o } := fun x => h _ _ (fun _ _ e => Heap.get?_push_of_some _ e) (get_size _) x
  cases src with
  | ref i =>
    obtain ⟨xs, h1⟩ := Option.isSome_iff_exists.mp (show (listAt σ i).isSome = true from e)
    obtain ⟨p, hp, rfl⟩ := r.refE
    obtain ⟨vs, hl, rs⟩ := G.listE h1 hp
    exact wpAny_pyIter_list hl.isList (go ⟨p, hp, _, Heap.get?_push_size _ rfl, rfl, rfl⟩)
  | str l =>
    obtain ⟨_, rfl⟩ := r.strE
    exact wpAny_pyIter_strU (go ⟨_, _, Heap.get?_push_size _ rfl, rfl, rfl⟩)
  | rng a b c =>
    have e : ((nameOf t).isSome && intOk a && intOk b && (decide (c = 1) || decide (c = -1))) = true := e
    simp only [Bool.and_eq_true, Bool.or_eq_true, decide_eq_true_eq] at e
    have ha := intOk_le e.1.1.2
    have hb := intOk_le e.1.2
    obtain ⟨_, t', u', v', hr, rfl⟩ := r.rngE
    rcases e.2 with rfl | rfl
    · refine wpAny_pyIter_range hr (small_one (by omega) (by omega) (by omega) (by omega)) (go (.inl ⟨rfl, ?_⟩))
      have := Heap.get?_push_size s.heap (o := { cls := .type "range_iterator", data := .fields #[rawInt a, rawInt (Builtin.Range.rangeSize a b 1), rawInt 1] }) rfl
      show Heap.get? _ _ = _
      rw [rangeSize_one] at this ⊢
      simp only [Int.natCast_zero, Int.add_zero, Int.sub_zero] at this ⊢
      exact this
    · obtain ⟨s1, s2⟩ := small_down ha hb
      refine wpAny_pyIter_range hr s1 (go (.inr ⟨rfl, ?_⟩))
      have := Heap.get?_push_size s.heap (o := { cls := .type "range_iterator", data := .fields #[rawInt a, rawInt (Builtin.Range.rangeSize a b (-1)), rawInt (-1)] }) rfl
      show Heap.get? _ _ = _
      rw [s2] at this ⊢
      simp only [Int.natCast_zero, Int.sub_zero] at this ⊢
      exact this
  | _ => cases e

/-- the next item, or the end: what is told behind it -/
noncomputable def NextK (hB : Heap) (ρ : Rho) (s : Shared) (src : AV) (i : Nat) (I : Addr) (r : Option AV) (Q : Option Value → Shared → Prop) : Prop :=
  ∀ h' t, Heap.ExtBut I s.heap h' → match r with
    | none => Q none { s with heap := h', toks := t }
    | some v => ∀ val, RelV hB ρ s.heap v val → ItAt ρ h' src (i + 1) I → Q (some val) { s with heap := h', toks := t }

theorem next_list {q i : Nat} {I : Addr} {xs : List AV} {Q : Option Value → Shared → Prop} (h1 : listAt σ q = some xs) (hA : A.handled = none) (G : StG hB os C ρ σ s) (hI : ItAt ρ s.heap (.ref q) i I) (K : NextK hB ρ s (.ref q) i I xs[i]? Q) :
    wpAny (model prog w) A (pyNext (.ref I)) Q Fls s := by
  obtain ⟨p, hp, hit⟩ := hI
  obtain ⟨vs, hl, rs⟩ := G.listE h1 hp
  cases h2 : xs[i]? with
  | none =>
    rw [h2] at K
    exact wpAny_pyNext_list_end hA hit hl.isList (by simpa using rs.none h2) fun h' hx => K h' s.toks hx
  | some x =>
    rw [h2] at K
    obtain ⟨val, e1, rv⟩ := rs.get h2
    exact wpAny_pyNext_list_item hit hl.isList (by simpa using e1) fun h' hi hs => K h' s.toks hs.extBut val rv ⟨p, hp, hi⟩
theorem next_str {l : List Nat} {i : Nat} {I : Addr} {Q : Option Value → Shared → Prop} (hA : A.handled = none) (hI : ItAt ρ s.heap (.str l) i I) (K : NextK hB ρ s (.str l) i I ((l[i]?).map fun c => .str [c]) Q) :
    wpAny (model prog w) A (pyNext (.ref I)) Q Fls s := by
  obtain ⟨t, hit⟩ := hI
  unfold strIterType at hit
  cases h2 : l[i]? with
  | none =>
    rw [h2] at K
    have hx : (⟨l.toArray⟩ : Str).cps[i]? = none := by simpa using h2
    split at hit
    · exact wpAny_pyNext_ascii_end hA hit hx fun h' hx => K h' s.toks hx
    · exact wpAny_pyNext_wide_end hA hit hx fun h' hx => K h' s.toks hx
  | some c =>
    rw [h2] at K
    have hx : (⟨l.toArray⟩ : Str).cps[i]? = some c := by simpa using h2
    split at hit
    · rename_i hty
      exact wpAny_pyNext_ascii_item hit hx fun h' hi hs => K h' (s.toks + 1) hs.extBut _ (.str [c] _) ⟨t, by unfold strIterType; rw [if_pos hty]; exact hi⟩
    · rename_i hty
      exact wpAny_pyNext_wide_item hit hx fun h' hi hs => K h' (s.toks + 1) hs.extBut _ (.str [c] _) ⟨t, by unfold strIterType; rw [if_neg hty]; exact hi⟩
theorem next_up {a b : Int} {i : Nat} {I : Addr} {Q : Option Value → Shared → Prop} (hA : A.handled = none) (hit : IsRangeIter s.heap I (a + i) ((if a < b then b - a else 0) - i) 1) (K : NextK hB ρ s (.rng a b 1) i I (if a + (i : Int) < b then some (.int (a + (i : Int))) else none) Q) :
    wpAny (model prog w) A (pyNext (.ref I)) Q Fls s := by
  by_cases hlt : a + (i : Int) < b
  · rw [if_pos hlt] at K
    have hab : a < b := by omega
    rw [if_pos hab] at hit
    refine wpAny_pyNext_range_item hit (by omega) fun h' hi hs => K h' (s.toks + 1) hs.extBut _ (.int _ _) (.inl ⟨rfl, ?_⟩)
    rw [if_pos hab, show a + ((i + 1 : Nat) : Int) = a + i + 1 by omega, show b - a - ((i + 1 : Nat) : Int) = b - a - i - 1 by omega]
    exact hi
  · rw [if_neg hlt] at K
    exact wpAny_pyNext_range_end hA hit (by split <;> omega) fun h' hx => K h' s.toks hx
theorem next_down {a b : Int} {i : Nat} {I : Addr} {Q : Option Value → Shared → Prop} (hA : A.handled = none) (hit : IsRangeIter s.heap I (a - i) ((if b < a then a - b else 0) - i) (-1)) (K : NextK hB ρ s (.rng a b (-1)) i I (if b < a - (i : Int) then some (.int (a - (i : Int))) else none) Q) :
    wpAny (model prog w) A (pyNext (.ref I)) Q Fls s := by
  by_cases hlt : b < a - (i : Int)
  · rw [if_pos hlt] at K
    have hab : b < a := by omega
    rw [if_pos hab] at hit
    refine wpAny_pyNext_range_item hit (by omega) fun h' hi hs => K h' (s.toks + 1) hs.extBut _ (.int _ _) (.inr ⟨rfl, ?_⟩)
    rw [if_pos hab, show a - ((i + 1 : Nat) : Int) = a - i + -1 by omega, show a - b - ((i + 1 : Nat) : Int) = a - b - i - 1 by omega]
    exact hi
  · rw [if_neg hlt] at K
    exact wpAny_pyNext_range_end hA hit (by split <;> omega) fun h' hx => K h' s.toks hx

theorem next_ok {src : AV} {i : Nat} {I : Addr} {r : Option AV} {Q : Option Value → Shared → Prop} (e : nextOf src i σ = some r) (hA : A.handled = none) (G : StG hB os C ρ σ s) (hI : ItAt ρ s.heap src i I) (K : NextK hB ρ s src i I r Q) :
    wpAny (model prog w) A (pyNext (.ref I)) Q Fls s := by
  cases src with
  | ref q =>
    obtain ⟨xs, h, e1⟩ := bind1_inv e
    cases e1
    exact next_list h hA G hI K
  | str l =>
    cases e
    exact next_str hA hI K
  | rng a b c =>
    rcases hI with ⟨rfl, hit⟩ | ⟨rfl, hit⟩
    · cases (show some (if a + (i : Int) < b then some (AV.int (a + (i : Int))) else none) = some r from e)
      exact next_up hA hit K
    · cases (show some (if b < a - (i : Int) then some (AV.int (a - (i : Int))) else none) = some r from e)
      exact next_down hA hit K
  | _ => cases e
end
end Mine
end

section
open PySem PySem.W PyProof.Rows PySem.Calls PySem.SeqAt
set_option maxRecDepth 100000
set_option linter.unusedSimpArgs false
namespace Mine

noncomputable def relabelS (scope outer : Scope) : Scope :=
  { scope with names := scope.names.map fun (n, k) => if (k == .free && outer.kind == .function && outer.names.lookup n == some .cell) then (n, .cell) else (n, k) }
noncomputable def isCall : PySem.Expr → Bool
  | .Call .. => true
  | _ => false
noncomputable def ownN (sc : Scope) (x : Str) : Bool := sc.names.lookup x == some .local || sc.names.lookup x == some .cell
noncomputable def tgtIn (sc : Scope) (t : PySem.Expr) : Bool := match nameOf t with
  | some x => ownN sc x
  | none => match pairOf t with
    | some (x, y) => ownN sc x && ownN sc y
    | none => false
noncomputable def freeB (scope sc : Scope) : Bool := scope.names.all fun x => x.2 != .free || (sc.names.lookup x.1 == some .cell || sc.names.lookup x.1 == some .free)
noncomputable def compB (scope sc : Scope) : Bool :=
  scope.kind == .function && scope.names.all (fun x => x.2 != .local || scope.names.lookup x.1 == some .local) && freeB scope sc && decide (scope.names.map (·.1)).Nodup

mutual
/-- what the walk asks of a text -/
noncomputable def okE (kn : Str → Bool) : Scope → PySem.Expr → Bool
  | _, .Constant _ _ _ => true
  | _, .Name x _ => x != ("__debug__" : Str) && x != ("__classdict__" : Str)
  | sc, .BoolOp _ vs _ => okEs kn sc vs
  | sc, .BinOp l _ r _ => okE kn sc l && okE kn sc r
  | sc, .UnaryOp _ x _ => okE kn sc x
  | sc, .IfExp t b o _ => okE kn sc t && okE kn sc b && okE kn sc o
  | sc, .List es _ => okEs kn sc es
  | sc, .Tuple es _ _ => okEs kn sc es
  | sc, .ListComp elt gens scope _ => match gens with
    | [⟨t, iter, ifs, _⟩] => compB scope sc && tgtIn scope t && okE kn sc iter && okEs kn (relabelS scope sc) ifs && okE kn (relabelS scope sc) elt
    | _ => false
  | sc, .Compare l ops rs _ => okE kn sc l && okEs kn sc rs && ops.length == rs.length
  | sc, .Call f args ks pos => match ks with
    | [] => match f with
      | .Attribute o _ apos => !isCall o && apos.endLine == pos.line && decide (args.length < 20) && okE kn sc o && okEs kn sc args
      | .Name g _ => sc.names.lookup g == some .globalImplicit && g != ("__debug__" : Str) && decide (args.length < 20) && okEs kn sc args && (kn g || (bifOf g).isSome || g == qname)
      | _ => false
    | _ => false
  | sc, .Subscript v i _ => okE kn sc v && (if isSl i then okSl kn sc i else okE kn sc i)
  | _, _ => false
noncomputable def okSl (kn : Str → Bool) : Scope → PySem.Expr → Bool
  | sc, .Slice lo hi st _ => okO kn sc lo && okO kn sc hi && okO kn sc st
  | _, _ => false
noncomputable def okEs (kn : Str → Bool) : Scope → List PySem.Expr → Bool
  | _, [] => true
  | sc, e :: r => okE kn sc e && okEs kn sc r
noncomputable def okO (kn : Str → Bool) : Scope → Option PySem.Expr → Bool
  | _, none => true
  | sc, some e => okE kn sc e
end

theorem and2 {a b : Bool} (h : (a && b) = true) : a = true ∧ b = true := Bool.and_eq_true_iff.mp h
theorem and3 {a b c : Bool} (h : (a && b && c) = true) : a = true ∧ b = true ∧ c = true := ⟨(and2 (and2 h).1).1, (and2 (and2 h).1).2, (and2 h).2⟩
theorem okE_noStar {kn : Str → Bool} {sc : Scope} {e : PySem.Expr} (h : okE kn sc e = true) (rest : List PySem.Expr) (env : Env) : starEach (e :: rest) env = (false, eval e env) :: starEach rest env := by
  cases e <;> first | rfl | cases h
theorem okE_noSet {kn : Str → Bool} {sc : Scope} {e : PySem.Expr} (h : okE kn sc e = true) (env : Env) (x : Value) : foldedSetIterable e env x = pure x := by
  cases e <;> first | rfl | cases h
theorem okE_noMarks {kn : Str → Bool} {sc : Scope} {e : PySem.Expr} (h : okE kn sc e = true) (op : CmpOp) : behindInMarks op e = false := by
  cases e <;> first | rfl | cases h

/-- what stands fixed in a walk -/
structure Cx where
  prog : Program
  w : World
  hB : Heap
  os : OsState
  N : Nm
  qn : Addr
  d : Nat
  O : Oracle
  kn : Str → Bool

noncomputable def isAcc : Mth → Bool
  | .push | .pop | .partCount => true
  | _ => false

/-- what the text's names mean, and how they are called -/
structure Wld (prog : Program) (w : World) (hB : Heap) (N : Nm) (qn : Addr) (kn : Str → Bool) : Prop where
  bi : ∀ g b, bifOf g = some b → ∀ env : Env, env.globals = mainGlobals → env.builtins = builtinsNs → Looks (model prog w) hB (loadGlobal env g) (bifVal N b)
  fn : ∀ g, kn g = true → ∀ env : Env, env.globals = mainGlobals → env.builtins = builtinsNs → Looks (model prog w) hB (loadGlobal env g) (N.val g)
  q : ∀ env : Env, env.globals = mainGlobals → env.builtins = builtinsNs → Looks (model prog w) hB (loadGlobal env qname) (.ref qn)
  keepFn : ∀ g, kn g = true → ∃ k, (k = Keeper.frame ∨ k = Keeper.machine ∨ k = Keeper.boundFrame) ∧ Looks (model prog w) hB (keeperOf (N.val g)) k
  keepAcc : ∃ k, (k = Keeper.frame ∨ k = Keeper.machine ∨ k = Keeper.boundFrame) ∧ Looks (model prog w) hB (keeperOf (.ref N.acc)) k
  keepQ : ∃ k, (k = Keeper.frame ∨ k = Keeper.machine ∨ k = Keeper.boundFrame) ∧ Looks (model prog w) hB (keeperOf (.ref qn)) k
  keepM : ∀ m, isAcc m = true → ∃ k, (k = Keeper.frame ∨ k = Keeper.machine ∨ k = Keeper.boundFrame) ∧ Looks (model prog w) hB (keeperOf (mthVal N m)) k
  meth : ∀ name m, mthOf name = some m → isAcc m = true → ∀ h a dd size vs, (∀ b o, hB.get? b = some o → h.get? b = some o) → AccAt N.acc h a dd size vs → ∀ pl, Looks (model prog w) h (getMethod (.ref a) name pl) (mthVal N m, [.ref a])

/-- two names from texts, and their order -/
noncomputable def QOk (prog : Program) (w : World) (hB : Heap) (os : OsState) (N : Nm) (qn : Addr) (d : Nat) : Prop :=
  ∀ (op : CmpOp) (a b : List Nat) (c : Bool), cmpQ op (.str a) (.str b) = some c → ∀ (A : Around) (ρ : Rho) (σ : Sto) (s : Shared) (t : Tok), AOk d A → StG hB os N.acc ρ σ s →
    wpAny (model prog w) A (call (.ref qn) [.str ⟨a.toArray⟩ t]) (fun q1 s1 => (Step ρ s ρ s1 ∧ StG hB os N.acc ρ σ s1) ∧
      ∀ ρ' σ' s2 u, Step ρ s1 ρ' s2 → StG hB os N.acc ρ' σ' s2 → wpAny (model prog w) A (call (.ref qn) [.str ⟨b.toArray⟩ u]) (fun q2 s3 =>
        wpAny (model prog w) A (compareOp op q1 q2) (PostV hB os N.acc ρ' s2 (.bool c) σ') Fls s3) Fls s2) Fls s

structure Cx.Ok (X : Cx) : Prop where
  call : OCall X.prog X.w X.hB X.os X.N X.d X.O
  q : QOk X.prog X.w X.hB X.os X.N X.qn X.d
  wld : Wld X.prog X.w X.hB X.N X.qn X.kn
  noq : ∀ vs σ, X.O qname vs σ = none

noncomputable abbrev Cx.Kont (X : Cx) (ρ : Rho) (s : Shared) (v : AV) (σ' : Sto) (Q : Value → Shared → Prop) : Prop := KontG X.hB X.os X.N.acc ρ s v σ' Q
/-- what is told behind a list of expressions -/
noncomputable def KontsG (hB : Heap) (os : OsState) (C : Addr) (ρ : Rho) (s : Shared) (vs : List AV) (σ' : Sto) (Q : List Value → Shared → Prop) : Prop :=
  ∀ x s1 ρ1, Step ρ s ρ1 s1 → StG hB os C ρ1 σ' s1 → RelVs hB ρ1 s1.heap vs x → Q x s1
noncomputable def KontB (hB : Heap) (os : OsState) (C : Addr) (ρ : Rho) (s : Shared) (b : Bool) (σ' : Sto) (Q : Bool → Shared → Prop) : Prop :=
  ∀ s1 ρ1, Step ρ s ρ1 s1 → StG hB os C ρ1 σ' s1 → Q b s1
noncomputable def SndE (X : Cx) (e : PySem.Expr) : Prop :=
  ∀ m σ v σ' A env ρ s Q, okE X.kn env.scope e = true → ev X.O m e σ = some (v, σ') → AOk X.d A → St X.hB X.os X.N.acc env m ρ σ s → X.Kont ρ s v σ' Q →
    wpAny (model X.prog X.w) A (eval e env) Q Fls s
noncomputable def SndT (X : Cx) (e : PySem.Expr) : Prop :=
  ∀ m σ b σ' A env ρ s Q, okE X.kn env.scope e = true → tr X.O m e σ (ev X.O m e σ) = some (b, σ') → AOk X.d A → St X.hB X.os X.N.acc env m ρ σ s → KontB X.hB X.os X.N.acc ρ s b σ' Q →
    wpAny (model X.prog X.w) A (isTrue e env (eval e env)) Q Fls s

section
variable {X : Cx}

theorem snd_const {c : Const} {k : Nat} {p : Pos} : SndE X (.Constant c k p) := by
  intro m σ v σ' A env ρ s Q _ e hA S K
  obtain ⟨u, h, e1⟩ := bind1_inv e
  have K := K.of e1
  cases c with
  | none => exact wpAny_Constant_none ((K.of1 h).now S.g .none _)
  | bool b => exact wpAny_Constant_bool ((K.of1 h).now S.g (.bool b) _)
  | int i => exact wpAny_Constant_int ((K.of1 h).now S.g (.int i _) _)
  | str x => exact wpAny_Constant_str ((K.of1 h).post (.str S.g rfl _ _))
  | _ => cases h

theorem snd_name {x : Str} {p : Pos} : SndE X (.Name x p) := by
  intro m σ v σ' A env ρ s Q ok e hA S K
  have ok := and2 ok
  obtain ⟨u, h, e1⟩ := bind1_inv e
  have K := K.of e1
  obtain ⟨val, n, r⟩ := S.v x _ h
  refine wpAny_Name ?_ (by simpa using ok.1)
  rcases n with ⟨hk, mm, hn, hv⟩ | ⟨hk, c, hc, hv⟩
  · exact wpAny_loadName_local S.f.kind hk hn hv (K.now S.g r _)
  · rcases hk with hk | hk
    · exact wpAny_loadName_cell S.f.kind hk hc hv (K.now S.g r _)
    · exact wpAny_loadName_free S.f.kind hk hc hv (K.now S.g r _) (by simpa using ok.2)

theorem snd_bin {l r : PySem.Expr} {op : Operator} {p : Pos} (hl : SndE X l) (hr : SndE X r) : SndE X (.BinOp l op r p) := by
  intro m σ v σ' A env ρ s Q ok e hA S K
  have ok := and2 ok
  obtain ⟨a, σ1, h1, e1⟩ := bind2_inv e
  obtain ⟨b, σ2, h2, e2⟩ := bind2_inv e1
  refine wpAny_BinOp (hl m σ a σ1 A env ρ s _ ok.1 h1 hA S fun x s1 ρ1 T1 G1 r1 => ?_)
  refine hr m σ1 b σ2 A env ρ1 s1 _ ok.2 h2 hA (S.step T1 G1) fun y s2 ρ2 T2 G2 r2 => ?_
  exact binop_ok e2 G2 (T2.rel G1 r1) r2 (K.step (T1.trans T2))

theorem snd_neg {x : PySem.Expr} {op : UnaryOp} {p : Pos} (hx : SndE X x) : SndE X (.UnaryOp op x p) := by
  intro m σ v σ' A env ρ s Q ok e hA S K
  refine wpAny_UnaryOp ?_
  cases op with
  | USub =>
    obtain ⟨a, σ1, h1, e1⟩ := bind2_inv e
    obtain ⟨i, h2, e2⟩ := bind1_inv e1
    have K := K.of e2
    rw [asInt_inv h2] at h1
    refine hx m σ _ _ A env ρ s _ ok h1 hA S fun y s1 ρ1 T1 G1 r1 => ?_
    obtain ⟨_, rfl⟩ := r1.intE
    exact neg_int ((K.step T1).now G1 (.int _ _) _)
  | Not =>
    obtain ⟨a, σ1, h1, e1⟩ := bind2_inv e
    obtain ⟨i, h2, e2⟩ := bind1_inv e1
    have K := K.of e2
    rw [asBool_inv h2] at h1
    refine hx m σ _ _ A env ρ s _ ok h1 hA S fun y s1 ρ1 T1 G1 r1 => ?_
    rw [r1.boolE]
    exact not_value (wpAny_truthy_bool ((K.step T1).now G1 (.bool _) _))
  | _ => cases e

theorem KontB.step {hB : Heap} {os : OsState} {C : Addr} {ρ ρ1 : Rho} {s s1 : Shared} {b : Bool} {σ' : Sto} {Q : Bool → Shared → Prop} (K : KontB hB os C ρ s b σ' Q) (T : Step ρ s ρ1 s1) : KontB hB os C ρ1 s1 b σ' Q :=
  fun s2 ρ2 T2 G2 => K s2 ρ2 (T.trans T2) G2

theorem KontB.of {hB : Heap} {os : OsState} {C : Addr} {ρ : Rho} {s : Shared} {b b0 : Bool} {σ' σ0 : Sto} {Q : Bool → Shared → Prop} (K : KontB hB os C ρ s b σ' Q) (e : some (b0, σ0) = some (b, σ')) : KontB hB os C ρ s b0 σ0 Q := by cases e; exact K
theorem KontsG.of {hB : Heap} {os : OsState} {C : Addr} {ρ : Rho} {s : Shared} {vs vs0 : List AV} {σ' σ0 : Sto} {Q : List Value → Shared → Prop} (K : KontsG hB os C ρ s vs σ' Q) (e : some (vs0, σ0) = some (vs, σ')) : KontsG hB os C ρ s vs0 σ0 Q := by cases e; exact K

theorem snd_if {t b o : PySem.Expr} {p : Pos} (ht : SndT X t) (hb : SndE X b) (ho : SndE X o) : SndE X (.IfExp t b o p) := by
  intro m σ v σ' A env ρ s Q ok e hA S K
  have ok := and3 ok
  obtain ⟨c, σ1, h1, e1⟩ := bind2_inv e
  refine wpAny_IfExp (ht m σ c σ1 A env ρ s _ ok.1 h1 hA S fun s1 ρ1 T1 G1 => ?_)
  cases c with
  | true => exact hb m σ1 v σ' A env ρ1 s1 _ ok.2.1 e1 hA (S.step T1 G1) (K.step T1)
  | false => exact ho m σ1 v σ' A env ρ1 s1 _ ok.2.2 e1 hA (S.step T1 G1) (K.step T1)

theorem snd_each : ∀ {es : List PySem.Expr}, (∀ e ∈ es, SndE X e) → ∀ m σ vs σ' A env ρ s pos Q, okEs X.kn env.scope es = true → evs X.O m es σ = some (vs, σ') → AOk X.d A →
    St X.hB X.os X.N.acc env m ρ σ s → KontsG X.hB X.os X.N.acc ρ s vs σ' Q → wpAny (model X.prog X.w) A (spliced (backTo pos (starEach es env))) Q Fls s
  | [], _, m, σ, vs, σ', A, env, ρ, s, pos, Q, _, e, _, S, K => by
    exact wpAny_items_nil (K.of e _ _ ρ (.refl S.g) S.g .nil)
  | a :: r, hs, m, σ, vs, σ', A, env, ρ, s, pos, Q, ok, e, hA, S, K => by
    have ok := and2 (a := okE X.kn env.scope a) ok
    obtain ⟨v, σ1, h1, e1⟩ := bind2_inv e
    obtain ⟨ws, σ2, h2, e2⟩ := bind2_inv e1
    have K := K.of e2
    refine wpAny_items_cons (hs a List.mem_cons_self m σ v σ1 A env ρ s _ ok.1 h1 hA S fun x s1 ρ1 T1 G1 r1 => ?_) (okE_noStar ok.1 r env)
    refine snd_each (fun e he => hs e (List.mem_cons_of_mem _ he)) m σ1 ws σ2 A env ρ1 s1 pos _ ok.2 h2 hA (S.step T1 G1) fun ys s2 ρ2 T2 G2 r2 => ?_
    exact K _ _ ρ2 (T1.trans T2) G2 (.cons (T2.rel G1 r1) r2)

theorem snd_list {es : List PySem.Expr} {p : Pos} (hs : ∀ e ∈ es, SndE X e) : SndE X (.List es p) := by
  intro m σ v σ' A env ρ s Q ok e hA S K
  obtain ⟨vs, σ1, h1, e1⟩ := bind2_inv e
  obtain ⟨hk, e2⟩ := guard_inv e1
  have K := K.of e2
  have := sizeOk_le hk
  refine wpAny_List (snd_each hs m σ vs σ1 A env ρ s p _ ok h1 hA S fun ys s1 ρ1 T1 G1 r1 => ?_)
  have hl := r1.length
  exact ⟨by rw [sizeLine_eq']; omega, (K.step T1).newList G1 r1 _⟩
theorem snd_tuple {es : List PySem.Expr} {k : Nat} {p : Pos} (hs : ∀ e ∈ es, SndE X e) : SndE X (.Tuple es k p) := by
  intro m σ v σ' A env ρ s Q ok e hA S K
  obtain ⟨vs, σ1, h1, e1⟩ := bind2_inv e
  obtain ⟨hk, e2⟩ := guard_inv e1
  have K := K.of e2
  have := sizeOk_le hk
  refine wpAny_Tuple (snd_each hs m σ vs σ1 A env ρ s p _ ok h1 hA S fun ys s1 ρ1 T1 G1 r1 => ?_)
  have hl := r1.length
  exact ⟨by rw [sizeLine_eq']; omega, (K.step T1).post (.tuple G1 r1 _)⟩

theorem snd_bool {op : BoolOp} {p : Pos} : ∀ {es : List PySem.Expr}, (∀ e ∈ es, SndE X e) → ∀ m σ v σ' A env ρ s Q, okEs X.kn env.scope es = true → evBool X.O m op es σ = some (v, σ') → AOk X.d A →
    St X.hB X.os X.N.acc env m ρ σ s → X.Kont ρ s v σ' Q → wpAny (model X.prog X.w) A (boolOp p op (evalEach es env)) Q Fls s
  | [], _, m, σ, v, σ', A, env, ρ, s, Q, _, e, _, S, _ => by cases e
  | [a], hs, m, σ, v, σ', A, env, ρ, s, Q, ok, e, hA, S, K => hs a List.mem_cons_self m σ v σ' A env ρ s Q (and2 (a := okE X.kn env.scope a) ok).1 e hA S K
  | a :: b :: r, hs, m, σ, v, σ', A, env, ρ, s, Q, ok, e, hA, S, K => by
    have ok := and2 (a := okE X.kn env.scope a) ok
    obtain ⟨u, σ1, h1, e1⟩ := bind2_inv e
    obtain ⟨c, h2, e2⟩ := bind1_inv e1
    rw [asBool_inv h2] at h1
    show wpAny _ A (do
      let v ← eval a env
      standAt p
      let t ← holding [v] (truthy v)
      match op, t with
      | .And, false | .Or, true => pure v
      | _, _ => boolOp p op (evalEach (b :: r) env)) _ _ s
    refine wpAny_bind (hs a List.mem_cons_self m σ _ σ1 A env ρ s _ ok.1 h1 hA S fun x s1 ρ1 T1 G1 r1 => wpAny_bind (wpAny_standAt ?_))
    rw [r1.boolE]
    refine wpAny_bind (wpAny_holding (wpAny_truthy_bool ?_))
    have rec' : evBool X.O m op (b :: r) σ1 = some (v, σ') → wpAny (model X.prog X.w) A (boolOp p op (evalEach (b :: r) env)) Q Fls s1 := fun e =>
      snd_bool (fun e he => hs e (List.mem_cons_of_mem _ he)) m σ1 v σ' A env ρ1 s1 Q ok.2 e hA (S.step T1 G1) (K.step T1)
    cases op with
    | And =>
      cases c with
      | false => exact wpAny_pure (((K.of e2).step T1).now G1 (.bool _) _)
      | true => exact rec' e2
    | Or =>
      cases c with
      | false => exact rec' e2
      | true => exact wpAny_pure (((K.of e2).step T1).now G1 (.bool _) _)

theorem snd_all {op : BoolOp} : ∀ {es : List PySem.Expr}, (∀ e ∈ es, SndT X e) → ∀ m σ b σ' A env ρ s Q, okEs X.kn env.scope es = true → trAll X.O m op es σ = some (b, σ') → AOk X.d A →
    St X.hB X.os X.N.acc env m ρ σ s → KontB X.hB X.os X.N.acc ρ s b σ' Q → wpAny (model X.prog X.w) A (allTrue op es env) Q Fls s
  | [], _, m, σ, v, σ', A, env, ρ, s, Q, _, e, _, S, K => by
    cases op
    · exact wpAny_allTrue_And_nil (K.of e _ ρ (.refl S.g) S.g)
    · exact wpAny_allTrue_Or_nil (K.of e _ ρ (.refl S.g) S.g)
  | a :: r, hs, m, σ, v, σ', A, env, ρ, s, Q, ok, e, hA, S, K => by
    have ok := and2 (a := okE X.kn env.scope a) ok
    obtain ⟨c, σ1, h1, e1⟩ := bind2_inv e
    have go : ∀ {ρ1 s1}, Step ρ s ρ1 s1 → StG X.hB X.os X.N.acc ρ1 σ1 s1 → trAll X.O m op r σ1 = some (v, σ') → wpAny (model X.prog X.w) A (allTrue op r env) Q Fls s1 := fun T1 G1 e =>
      snd_all (fun e he => hs e (List.mem_cons_of_mem _ he)) m σ1 v σ' A env _ _ Q ok.2 e hA (S.step T1 G1) (K.step T1)
    cases op with
    | And =>
      refine wpAny_allTrue_And_cons (hs a List.mem_cons_self m σ c σ1 A env ρ s _ ok.1 h1 hA S fun s1 ρ1 T1 G1 => ?_)
      cases c with
      | false => exact K.of e1 _ ρ1 T1 G1
      | true => exact go T1 G1 e1
    | Or =>
      refine wpAny_allTrue_Or_cons (hs a List.mem_cons_self m σ c σ1 A env ρ s _ ok.1 h1 hA S fun s1 ρ1 T1 G1 => ?_)
      cases c with
      | false => exact go T1 G1 e1
      | true => exact K.of e1 _ ρ1 T1 G1
end
end Mine
end

section
open PySem PySem.W PyProof.Rows PySem.Calls PySem.SeqAt
set_option maxRecDepth 100000
set_option linter.unusedSimpArgs false
namespace Mine

section
variable {X : Cx}

theorem okEs_plain {kn : Str → Bool} {sc : Scope} {env : Env} {pos : Pos} : ∀ {es : List PySem.Expr}, okEs kn sc es = true → (backTo pos (starEach es env)).any (·.1) = false
  | [], _ => rfl
  | a :: r, ok => by
    have ok := and2 (a := okE kn sc a) ok
    rw [okE_noStar ok.1 r env]
    show (false || (backTo pos (starEach r env)).any (·.1)) = false
    rw [okEs_plain ok.2]; rfl
theorem okEs_len {kn : Str → Bool} {sc : Scope} {env : Env} {pos : Pos} : ∀ {es : List PySem.Expr}, okEs kn sc es = true → (backTo pos (starEach es env)).all (!·.1) = true
  | [], _ => rfl
  | a :: r, ok => by
    have ok := and2 (a := okE kn sc a) ok
    rw [okE_noStar ok.1 r env]
    show (true && (backTo pos (starEach r env)).all (!·.1)) = true
    rw [okEs_len ok.2]; rfl

theorem evalArgs_all {M : Model} {A : Around} {E : Value → Shared → Prop} {s : Shared} {kn : Str → Bool} {sc : Scope} {env : Env} {pos : Pos} {f : Value} {es : List PySem.Expr} {Q : Args → Shared → Prop} (ok : okEs kn sc es = true)
    (h : wpAny M A (spliced (backTo pos (starEach es env))) (fun vs s' => Q ⟨vs, []⟩ s') E s) : wpAny M A (evalArgs f true (backTo pos (starEach es env)) []) Q E s := by
  cases es with
  | nil =>
    unfold evalArgs
    show wpAny M A (spliced [] >>= _) Q E s
    refine wpAny_bind (wpAny_mono h (fun vs s' h' => ?_) fun _ _ x => x)
    refine wpAny_holding ?_
    exact wpAny_bind (wpAny_pure (wpAny_bind (wpAny_pure (wpAny_pure h'))))
  | cons a r =>
    have ok := and2 (a := okE kn sc a) ok
    rw [okE_noStar ok.1 r env] at h ⊢
    exact evalArgs_plain h

noncomputable abbrev Kp (X : Cx) (f : Value) : Prop := ∃ k, (k = Keeper.frame ∨ k = Keeper.machine ∨ k = Keeper.boundFrame) ∧ Looks (model X.prog X.w) X.hB (keeperOf f) k

theorem callWith_all {A : Around} {s : Shared} {sc : Scope} {env : Env} {pos : Pos} {f : Value} {first : List Value} {es : List PySem.Expr} {Q : Value → Shared → Prop} {E : Value → Shared → Prop} (K : Kp X f) (ok : okEs X.kn sc es = true)
    (h : wpAny (model X.prog X.w) A (spliced (backTo pos (starEach es env))) (fun vs s' => (∀ b o, X.hB.get? b = some o → s'.heap.get? b = some o) ∧ wpAny (model X.prog X.w) A (call f (first ++ vs)) Q E s') E s) :
    wpAny (model X.prog X.w) A (callWith pos f first (backTo pos (starEach es env)) []) Q E s := by
  refine callWith_of (P := fun h => ∀ b o, X.hB.get? b = some o → h.get? b = some o) (by rw [okEs_plain ok]; rfl) (fun h hp => ?_) (evalArgs_all ok h)
  obtain ⟨k, a, b⟩ := K
  exact ⟨k, a, b.keeps hp⟩

theorem call_name {A : Around} {s : Shared} {env : Env} {pos np : Pos} {g : Str} {f : Value} {es : List PySem.Expr} {Q : Value → Shared → Prop} {E : Value → Shared → Prop} (K : Kp X f) (ok : okEs X.kn env.scope es = true)
    (hkind : env.scope.kind = .function) (hk : env.kindOf g = some .globalImplicit) (hd : (g == ("__debug__" : Str)) = false) (hp : ∀ b o, X.hB.get? b = some o → s.heap.get? b = some o)
    (L : Looks (model X.prog X.w) X.hB (loadGlobal env g) f)
    (h : wpAny (model X.prog X.w) A (spliced (backTo pos (starEach es env))) (fun vs s' => (∀ b o, X.hB.get? b = some o → s'.heap.get? b = some o) ∧ wpAny (model X.prog X.w) A (call f vs) Q E s') E s) :
    wpAny (model X.prog X.w) A (eval (.Call (.Name g np) es [] pos) env) Q E s := by
  show wpAny _ _ (eval (.Name g np) env >>= fun f => callWith pos f [] (backTo pos (starEach es env)) []) _ _ _
  refine wpAny_bind (Name_function_global hkind hk ?_ hd)
  exact (L.keeps hp).here (callWith_all K ok h)

theorem kp_builtin {id : String} : Kp X (.builtin id) := ⟨.machine, .inr (.inl rfl), .of_pure rfl⟩
theorem kp_type {id : String} : Kp X (.type id) := ⟨.machine, .inr (.inl rfl), .of_pure rfl⟩

theorem snd_call {g : Str} {np pos : Pos} {es : List PySem.Expr} (W : X.Ok) (hs : ∀ e ∈ es, SndE X e) : SndE X (.Call (.Name g np) es [] pos) := by
  intro m σ v σ' A env ρ s Q ok e hA S K
  obtain ⟨ok, hg⟩ := and2 (b := (X.kn g || (bifOf g).isSome || g == qname)) ok
  obtain ⟨ok, oks⟩ := and2 ok
  obtain ⟨hk, hd, _⟩ := and3 ok
  have hk := beq_iff_eq.mp hk
  have hd' : (g == ("__debug__" : Str)) = false := by simpa using hd
  obtain ⟨hm, e1⟩ : ¬ (m.lookup g).isSome = true ∧ (bind2 (evs X.O m es σ) fun vs σ1 => match bifOf g with | some b => builtin X.O b vs σ1 | none => X.O g vs σ1) = some (v, σ') := by
    by_cases q : (m.lookup g).isSome = true
    · have e : (if (m.lookup g).isSome = true then none else _) = some (v, σ') := e
      rw [if_pos q] at e; cases e
    · have e : (if (m.lookup g).isSome = true then none else _) = some (v, σ') := e
      rw [if_neg q] at e
      exact ⟨q, e⟩
  obtain ⟨vs, σ1, h1, e2⟩ := bind2_inv e1
  clear e e1 hm
  cases hb : bifOf g with
  | some b =>
    rw [hb] at e2
    have KK : Kp X (bifVal X.N b) := by
      cases b <;> first | exact kp_builtin | exact kp_type | exact W.wld.keepAcc
    refine call_name KK oks S.f.kind hk hd' S.g.base (W.wld.bi g b hb env S.f.glob S.f.bui) ?_
    exact snd_each hs m σ vs σ1 A env ρ s pos _ oks h1 hA S fun ys s1 ρ1 T1 G1 r1 => ⟨G1.base, builtin_ok W.call hA e2 G1 r1 (K.step T1)⟩
  | none =>
    rw [hb] at e2
    have hkn : X.kn g = true := by
      rw [Bool.or_eq_true, Bool.or_eq_true, hb] at hg
      rcases hg with (h | h) | h
      · exact h
      · cases h
      · rw [beq_iff_eq.mp h] at e2
        have e2 : X.O qname vs σ1 = some (v, σ') := e2
        rw [W.noq] at e2; cases e2
    refine call_name (W.wld.keepFn g hkn) oks S.f.kind hk hd' S.g.base (W.wld.fn g hkn env S.f.glob S.f.bui) ?_
    exact snd_each hs m σ vs σ1 A env ρ s pos _ oks h1 hA S fun ys s1 ρ1 T1 G1 r1 => ⟨G1.base, W.call.kont hA e2 G1 r1 (K.step T1)⟩

theorem base_plain {o : PySem.Expr} (h : isCall o = false) (name : Str) (env : Env) (whole : Sem Value) : attributeBase o name env whole = whole := by
  cases o <;> first | rfl | cases h

noncomputable def nameM : Mth → Str
  | .join => "join"
  | .split => "split"
  | .append => "append"
  | .extend => "extend"
  | .count => "count"
  | .push => "push"
  | .pop => "pop"
  | .partCount => "part_count"
theorem pick_name {name x : Str} {a b : Mth} {o : Option Mth} (ha : nameM a = x) (e : (if name = x then some a else o) = some b) (h : o = some b → name = nameM b) : name = nameM b := by
  by_cases q : name = x
  · rw [if_pos q] at e; cases e; rw [q, ha]
  · rw [if_neg q] at e; exact h e
theorem mth_name {name : Str} {mt : Mth} (e : mthOf name = some mt) : name = nameM mt := by
  unfold mthOf at e
  refine pick_name (a := .join) rfl e fun e => ?_
  refine pick_name (a := .split) rfl e fun e => ?_
  refine pick_name (a := .append) rfl e fun e => ?_
  refine pick_name (a := .extend) rfl e fun e => ?_
  refine pick_name (a := .count) rfl e fun e => ?_
  refine pick_name (a := .push) rfl e fun e => ?_
  refine pick_name (a := .pop) rfl e fun e => ?_
  refine pick_name (a := .partCount) rfl e fun e => ?_
  cases e

section
variable {name : Str} {mt : Mth} {o : AV} {ov : Value} {A : Around} {ρ : Rho} {σ : Sto} {s : Shared} {pl : Sem Bool} {Q : Value × List Value → Shared → Prop} {E : Value → Shared → Prop}
theorem on_list {id : String} (hs : Slot "list" name id) (hty : typeOf (.builtin id) = pure (.type "method_descriptor")) (hr : recv .append o σ = true) (G : StG X.hB X.os X.N.acc ρ σ s) (r : RelV X.hB ρ s.heap o ov) (h : Q (.builtin id, [ov]) s) :
    wpAny (model X.prog X.w) A (getMethod ov name pl) Q E s := by
  have hr : (match asRef o with | some r => (listAt σ r).isSome | none => false) = true := hr
  cases ho : asRef o with
  | none => rw [ho] at hr; cases hr
  | some i =>
    rw [ho] at hr
    cases asRef_inv ho
    obtain ⟨xs, hx⟩ := Option.isSome_iff_exists.mp hr
    obtain ⟨p, hp, rfl⟩ := r.refE
    obtain ⟨us, ⟨n, hl⟩, rs⟩ := G.listE hx hp
    exact getMethod_list_of hs hty (Heap.PlainList.isList ⟨n, hl⟩) ⟨_, hl, rfl⟩ h
theorem on_acc (W : X.Ok) (e : mthOf name = some mt) (ha : isAcc mt = true) (hr : recv .push o σ = true) (G : StG X.hB X.os X.N.acc ρ σ s) (r : RelV X.hB ρ s.heap o ov) (h : Q (mthVal X.N mt, [ov]) s) :
    wpAny (model X.prog X.w) A (getMethod ov name pl) Q E s := by
  have hr : (match asRef o with | some r => isAccAt σ r | none => false) = true := hr
  cases ho : asRef o with
  | none => rw [ho] at hr; cases hr
  | some i =>
    rw [ho] at hr
    cases asRef_inv ho
    obtain ⟨sz, xs, hx⟩ := isAccAt_inv hr
    obtain ⟨p, hp, rfl⟩ := r.refE
    obtain ⟨us, ha', _⟩ := G.cell _ _ _ hx hp
    exact (W.wld.meth name mt e ha s.heap p.1 p.2 sz _ G.base ha' pl).here h
theorem on_str {l : Option (List Nat)} (hl : asStr o = l) (hr : l.isSome = true) (r : RelV X.hB ρ s.heap o ov) : ∃ x t, ov = .str x t := by
  cases l with
  | none => cases hr
  | some l =>
    cases asStr_inv hl
    obtain ⟨t, rfl⟩ := r.strE
    exact ⟨_, t, rfl⟩
theorem mth_ok (W : X.Ok) (e : mthOf name = some mt) (hr : recv mt o σ = true) (G : StG X.hB X.os X.N.acc ρ σ s) (r : RelV X.hB ρ s.heap o ov) (h : Q (mthVal X.N mt, [ov]) s) : wpAny (model X.prog X.w) A (getMethod ov name pl) Q E s := by
  cases mt with
  | join =>
    have hn : name = ("join" : Str) := mth_name e
    subst hn
    obtain ⟨_, _, rfl⟩ := on_str rfl hr r
    exact GM.join h
  | split =>
    have hn : name = ("split" : Str) := mth_name e
    subst hn
    obtain ⟨_, _, rfl⟩ := on_str rfl hr r
    exact GM.split h
  | append =>
    have hn : name = ("append" : Str) := mth_name e
    subst hn
    exact on_list PySem.F.slot_list_append PySem.F.type_list_append hr G r h
  | extend =>
    have hn : name = ("extend" : Str) := mth_name e
    subst hn
    exact on_list PySem.F.slot_list_extend PySem.F.type_list_extend hr G r h
  | count =>
    have hn : name = ("count" : Str) := mth_name e
    subst hn
    exact on_list PySem.F.slot_list_count PySem.F.type_list_count hr G r h
  | push => exact on_acc W e rfl hr G r h
  | pop => exact on_acc W e rfl hr G r h
  | partCount => exact on_acc W e rfl hr G r h
end

theorem snd_mth {o : PySem.Expr} {name : Str} {apos pos : Pos} {es : List PySem.Expr} (W : X.Ok) (ho : SndE X o) (hs : ∀ e ∈ es, SndE X e) : SndE X (.Call (.Attribute o name apos) es [] pos) := by
  intro m σ v σ' A env ρ s Q ok e hA S K
  obtain ⟨ok, oks⟩ := and2 (b := okEs X.kn env.scope es) ok
  obtain ⟨ok, oko⟩ := and2 ok
  obtain ⟨hc, hline, hlen⟩ := and3 ok
  have hlen := of_decide_eq_true hlen
  have hc := Bool.not_eq_true' _ ▸ hc
  obtain ⟨mt, hm, e1⟩ := bind1_inv e
  obtain ⟨ov, σ1, h1, e2⟩ := bind2_inv e1
  obtain ⟨hr, e3⟩ := guard_inv e2
  obtain ⟨vs, σ2, h2, e4⟩ := bind2_inv e3
  clear e e1 e2 e3
  rw [arm_eval_Call, base_plain hc]
  refine wpAny_bind (ho m σ ov σ1 A env ρ s _ oko h1 hA S fun x s1 ρ1 T1 G1 r1 => wpAny_bind (wpAny_standAt ?_))
  have hform : methodCallForm (es.length + ([] : List Keyword).length) (backTo pos (starEach es env)) (backToKw pos (keywordEach [] env)) = true := by
    unfold methodCallForm
    rw [okEs_len oks]
    show (true && true && decide (es.length + 0 + 0 < 30)) = true
    simp; omega
  have hpos : methodCallPos true o env apos pos = pure pos := by unfold methodCallPos; simp [hline]
  unfold methodCall
  rw [hform]
  refine wpAny_bind (wpAny_holding (mth_ok W hm hr G1 r1 ?_))
  refine wpAny_bind (wpAny_of_eq hpos ?_)
  have KK : Kp X (mthVal X.N mt) := by
    cases mt <;> first | exact kp_builtin | exact W.wld.keepM _ rfl
  refine callWith_all KK oks (snd_each hs m σ1 vs σ2 A env ρ1 s1 pos _ oks h2 hA (S.step T1 G1) fun ys s2 ρ2 T2 G2 r2 => ?_)
  exact ⟨G2.base, methCall_ok W.call hA e4 G2 (T2.rel G1 r1) r2 (K.step (T1.trans T2))⟩
end
end Mine
end

section
open PySem PySem.W PyProof.Rows PySem.Calls PySem.SeqAt
set_option maxRecDepth 100000
set_option linter.unusedSimpArgs false
namespace Mine
section
variable {X : Cx}

theorem evs_one {O : Oracle} {m : Loc} {x : PySem.Expr} {σ σ' : Sto} {a : AV} (h : ev O m x σ = some (a, σ')) : evs O m [x] σ = some ([a], σ') := by
  show (bind2 (ev O m x σ) fun v σ1 => bind2 (some (([] : List AV), σ1)) fun vs σ2 => some (v :: vs, σ2)) = _
  rw [h]; rfl
theorem RelVs.one {n₀ : Heap} {ρ : Rho} {h : Heap} {a : AV} {vs : List Value} (r : RelVs n₀ ρ h [a] vs) : ∃ va, vs = [va] ∧ RelV n₀ ρ h a va :=
  let ⟨v, r1, e⟩ := r.oneE
  ⟨v, e, r1⟩

theorem cmpQ_str {op : CmpOp} {a b : AV} {c : Bool} (e : cmpQ op a b = some c) : ∃ x y, a = .str x ∧ b = .str y := by
  obtain ⟨x, h1, e⟩ := bind1_inv e
  obtain ⟨y, h2, _⟩ := bind1_inv e
  exact ⟨x, y, asStr_inv h1, asStr_inv h2⟩
theorem cmpQ_op {op : CmpOp} {x y : List Nat} {c : Bool} (e : cmpQ op (.str x) (.str y) = some c) : (op = .GtE ∧ (!ltL x y) = c) ∨ (op = .LtE ∧ (!ltL y x) = c) := by
  refine Classical.byContradiction fun hn => ?_
  cases op with
  | GtE => exact hn (.inl ⟨rfl, Option.some.inj e⟩)
  | LtE => exact hn (.inr ⟨rfl, Option.some.inj e⟩)
  | _ => exact nn e
theorem ff {P : Prop} (h : false = true) : P := Bool.noConfusion h
theorem isQN_inv {f : PySem.Expr} (h : isQN f = true) : ∃ p, f = .Name qname p := by
  refine Classical.byContradiction fun hn => ?_
  cases f with
  | Name x p => exact hn ⟨p, by rw [beq_iff_eq.mp h]⟩
  | _ => exact ff h
theorem isQ_inv {l : PySem.Expr} (h : isQ l = true) : ∃ pf x pc, l = .Call (.Name qname pf) [x] [] pc := by
  refine Classical.byContradiction fun hn => ?_
  cases l with
  | Call f args ks pc =>
    obtain ⟨h1, h2, h3⟩ := and3 h
    obtain ⟨pf, rfl⟩ := isQN_inv h1
    match args, ks, h2, h3 with
    | [x], [], _, _ => exact hn ⟨pf, x, pc, rfl⟩
  | _ => exact ff h

/-- a call of QName by a text's expression -/
theorem q_call {x : PySem.Expr} {pf pc : Pos} (W : X.Ok) (hx : SndE X x) {m : Loc} {σ σ' : Sto} {v : AV} {A : Around} {env : Env} {ρ : Rho} {s : Shared} {Q : Value → Shared → Prop}
    (ok : okE X.kn env.scope (.Call (.Name qname pf) [x] [] pc) = true) (e : evQ X.O m (.Call (.Name qname pf) [x] [] pc) σ = some (v, σ')) (hA : AOk X.d A) (S : St X.hB X.os X.N.acc env m ρ σ s)
    (K : X.Kont ρ s v σ' fun val s1 => (∀ b o, X.hB.get? b = some o → s1.heap.get? b = some o) → wpAny (model X.prog X.w) A (call (.ref X.qn) [val]) Q Fls s1) :
    wpAny (model X.prog X.w) A (eval (.Call (.Name qname pf) [x] [] pc) env) Q Fls s := by
  obtain ⟨vs, σ1, h1, e1⟩ := bind2_inv e
  obtain ⟨u, h2, e2⟩ := bind1_inv e1
  rw [one_inv h2] at h1
  obtain ⟨ok, _⟩ := and2 (b := (X.kn qname || (bifOf qname).isSome || qname == qname)) ok
  obtain ⟨ok, oks⟩ := and2 ok
  obtain ⟨hk, hd, _⟩ := and3 ok
  have hk := beq_iff_eq.mp hk
  have hd' : (qname == ("__debug__" : Str)) = false := by simpa using hd
  refine call_name W.wld.keepQ oks S.f.kind hk hd' S.g.base (W.wld.q env S.f.glob S.f.bui) ?_
  refine snd_each (fun z hz => by rw [List.mem_singleton.mp hz]; exact hx) m σ _ σ1 A env ρ s pc _ oks h1 hA S fun ys s1 ρ1 T1 G1 rs => ⟨G1.base, ?_⟩
  obtain ⟨val, r, rfl⟩ := rs.oneE
  exact K.of e2 val s1 ρ1 T1 G1 r G1.base

/-- how a comparison runs -/
theorem ev_cmp_inv {O : Oracle} {m : Loc} {l : PySem.Expr} {ops : List CmpOp} {rs : List PySem.Expr} {p : Pos} {σ : Sto} {q : AV × Sto} (e : ev O m (.Compare l ops rs p) σ = some q) : ∃ op r, ops = [op] ∧ rs = [r] ∧
    (if isQ l then (if isQ r then bind2 (evQ O m l σ) fun a σ1 => bind2 (evQ O m r σ1) fun b σ2 => bind1 (cmpQ op a b) fun c => some (.bool c, σ2) else none)
      else bind2 (ev O m l σ) fun a σ1 => bind2 (ev O m r σ1) fun b σ2 => bind1 (cmpop op a b σ2) fun c => some (.bool c, σ2)) = some q := by
  rcases ops with _ | ⟨op, _ | ⟨_, _⟩⟩
  · cases e
  · rcases rs with _ | ⟨r, _ | ⟨_, _⟩⟩
    · cases e
    · exact ⟨op, r, rfl, rfl, e⟩
    · cases e
  · cases e
theorem cmp_q {l r : PySem.Expr} {op : CmpOp} (W : X.Ok) (hx : ∀ f x q, l = .Call f [x] [] q → SndE X x) (hy : ∀ f x q, r = .Call f [x] [] q → SndE X x)
    {m : Loc} {σ σ1 σ' : Sto} {a b : AV} {c : Bool} {A : Around} {env : Env} {ρ : Rho} {s : Shared} (okl : okE X.kn env.scope l = true) (okr : okE X.kn env.scope r = true) (q : isQ l = true) (q2 : isQ r = true) (h1 : evQ X.O m l σ = some (a, σ1)) (h2 : evQ X.O m r σ1 = some (b, σ')) (h3 : cmpQ op a b = some c) (hA : AOk X.d A)
    (S : St X.hB X.os X.N.acc env m ρ σ s) {Q : Value → Shared → Prop} (K : X.Kont ρ s (.bool c) σ' Q) : wpAny (model X.prog X.w) A (eval l env) (fun a s₁ => wpAny (model X.prog X.w) A (eval r env) (fun b s₂ =>
      wpAny (model X.prog X.w) A (compareOp op a b) Q Fls s₂) Fls s₁) Fls s := by
  obtain ⟨pf, x, pc, rfl⟩ := isQ_inv q
  obtain ⟨pg, y, pd, rfl⟩ := isQ_inv q2
  obtain ⟨a', b', rfl, rfl⟩ := cmpQ_str h3
  refine q_call W (hx _ _ _ rfl) okl h1 hA S fun va s1 ρ1 T1 G1 r1 _ => ?_
  obtain ⟨_, rfl⟩ := r1.strE
  refine wpAny_mono (W.q op _ _ c h3 A ρ1 σ1 s1 _ hA G1) (fun q1 s2 ⟨⟨T2, G2⟩, hq⟩ => ?_) fun _ _ x => x
  refine q_call W (hy _ _ _ rfl) okr h2 hA (S.step (T1.trans T2) G2) fun vb s3 ρ3 T3 G3 r3 _ => ?_
  obtain ⟨_, rfl⟩ := r3.strE
  exact wpAny_mono (hq ρ3 _ s3 _ T3 G3) (fun q2 s4 h => wpAny_mono h (fun _ _ h => (K.step ((T1.trans T2).trans T3)).post h) fun _ _ x => x) fun _ _ x => x
theorem cmp_inv2 {O : Oracle} {m : Loc} {l r : PySem.Expr} {op : CmpOp} {σ σ' : Sto} {v : AV} (e : (if isQ l then (if isQ r then bind2 (evQ O m l σ) fun a σ1 => bind2 (evQ O m r σ1) fun b σ2 => bind1 (cmpQ op a b) fun c => some (.bool c, σ2) else none)
      else bind2 (ev O m l σ) fun a σ1 => bind2 (ev O m r σ1) fun b σ2 => bind1 (cmpop op a b σ2) fun c => some (.bool c, σ2)) = some (v, σ')) : ∃ a σ1 b c, v = .bool c ∧
      ((isQ l = true ∧ isQ r = true ∧ evQ O m l σ = some (a, σ1) ∧ evQ O m r σ1 = some (b, σ') ∧ cmpQ op a b = some c) ∨ (ev O m l σ = some (a, σ1) ∧ ev O m r σ1 = some (b, σ') ∧ cmpop op a b σ' = some c)) := by
  by_cases q : isQ l = true
  · rw [if_pos q] at e
    obtain ⟨q2, e⟩ := guard_inv e
    obtain ⟨a, σ1, h1, e1⟩ := bind2_inv e
    obtain ⟨b, σ2, h2, e2⟩ := bind2_inv e1
    obtain ⟨c, h3, e3⟩ := bind1_inv e2
    have hv := Prod.mk.inj (Option.some.inj e3)
    exact ⟨a, σ1, b, c, hv.1.symm, .inl ⟨q, q2, h1, hv.2 ▸ h2, h3⟩⟩
  · rw [if_neg q] at e
    obtain ⟨a, σ1, h1, e1⟩ := bind2_inv e
    obtain ⟨b, σ2, h2, e2⟩ := bind2_inv e1
    obtain ⟨c, h3, e3⟩ := bind1_inv e2
    have hv := Prod.mk.inj (Option.some.inj e3)
    exact ⟨a, σ1, b, c, hv.1.symm, .inr ⟨h1, hv.2 ▸ h2, hv.2 ▸ h3⟩⟩
theorem cmp_core {l r : PySem.Expr} {op : CmpOp} {p : Pos} (W : X.Ok) (hl : SndE X l) (hr : SndE X r) (hx : ∀ f x q, l = .Call f [x] [] q → SndE X x) (hy : ∀ f x q, r = .Call f [x] [] q → SndE X x)
    {m : Loc} {σ σ' : Sto} {v : AV} {A : Around} {env : Env} {ρ : Rho} {s : Shared} (okl : okE X.kn env.scope l = true) (okr : okE X.kn env.scope r = true) (e : ev X.O m (.Compare l [op] [r] p) σ = some (v, σ')) (hA : AOk X.d A)
    (S : St X.hB X.os X.N.acc env m ρ σ s) : ∃ c, v = .bool c ∧ ∀ Q, X.Kont ρ s (.bool c) σ' Q → wpAny (model X.prog X.w) A (eval l env) (fun a s₁ => wpAny (model X.prog X.w) A (eval r env) (fun b s₂ =>
      wpAny (model X.prog X.w) A (compareOp op a b) Q Fls s₂) Fls s₁) Fls s := by
  obtain ⟨a, σ1, b, c, hv, h⟩ := cmp_inv2 (op := op) (r := r) e
  refine ⟨c, hv, fun Q K => ?_⟩
  rcases h with ⟨q, q2, h1, h2, h3⟩ | ⟨h1, h2, h3⟩
  · exact cmp_q W hx hy okl okr q q2 h1 h2 h3 hA S K
  · refine hl m σ a σ1 A env ρ s _ okl h1 hA S fun x s1 ρ1 T1 G1 r1 => ?_
    refine hr m σ1 b _ A env ρ1 s1 _ okr h2 hA (S.step T1 G1) fun y s2 ρ2 T2 G2 r2 => ?_
    exact cmpop_ok h3 G2 (T2.rel G1 r1) r2 (by have := hA.line; omega) ((K.step (T1.trans T2)).now G2 (.bool c) s2.toks)

theorem snd_cmp {l : PySem.Expr} {ops : List CmpOp} {rs : List PySem.Expr} {p : Pos} (W : X.Ok) (hl : SndE X l) (hr : ∀ r ∈ rs, SndE X r) (hx : ∀ f x q, l = .Call f [x] [] q → SndE X x) (hy : ∀ r ∈ rs, ∀ f x q, r = .Call f [x] [] q → SndE X x) :
    SndE X (.Compare l ops rs p) := by
  intro m σ v σ' A env ρ s Q ok e hA S K
  obtain ⟨op, r, rfl, rfl, _⟩ := ev_cmp_inv e
  have ok := (and2 ok).1
  obtain ⟨okl, okr⟩ := and2 ok
  have okr := (and2 (a := okE X.kn env.scope r) okr).1
  obtain ⟨c, rfl, h⟩ := cmp_core W hl (hr r (by simp)) hx (hy r (by simp)) okl okr e hA S
  exact wpAny_Compare1 (h Q K) (okE_noMarks okr op)
theorem snt_cmp {l : PySem.Expr} {ops : List CmpOp} {rs : List PySem.Expr} {p : Pos} (W : X.Ok) (hl : SndE X l) (hr : ∀ r ∈ rs, SndE X r) (hx : ∀ f x q, l = .Call f [x] [] q → SndE X x) (hy : ∀ r ∈ rs, ∀ f x q, r = .Call f [x] [] q → SndE X x) :
    SndT X (.Compare l ops rs p) := by
  intro m σ b σ' A env ρ s Q ok e hA S K
  have e := byV_inv e
  obtain ⟨op, r, rfl, rfl, _⟩ := ev_cmp_inv e
  have ok := (and2 ok).1
  obtain ⟨okl, okr⟩ := and2 ok
  have okr := (and2 (a := okE X.kn env.scope r) okr).1
  obtain ⟨c, hc, h⟩ := cmp_core W hl (hr r (by simp)) hx (hy r (by simp)) okl okr e hA S
  cases hc
  exact wpAny_isTrue_Compare1 (h _ fun x s1 ρ1 T1 G1 r1 => by rw [r1.boolE]; exact wpAny_truthy_bool (K s1 ρ1 T1 G1)) (okE_noMarks okr op)

/-- a test by its value -/
theorem snt_value {e : PySem.Expr} (he : SndE X e) (hi : ∀ env whole, isTrue e env whole = (do let v ← whole; standAt e.pos; holding [v] (truthy v)))
    (ht : ∀ O m σ whole, tr O m e σ whole = byV whole) : SndT X e := by
  intro m σ b σ' A env ρ s Q ok e' hA S K
  have h := byV_inv ((ht _ _ _ _).symm.trans e')
  exact wpAny_isTrue_value (he m σ _ σ' A env ρ s _ ok h hA S fun x s1 ρ1 T1 G1 r1 => by rw [r1.boolE]; exact wpAny_truthy_bool (K s1 ρ1 T1 G1)) (hi _ _)

theorem snt_not {x : PySem.Expr} {p : Pos} (hx : SndT X x) : SndT X (.UnaryOp .Not x p) := by
  intro m σ b σ' A env ρ s Q ok e hA S K
  obtain ⟨c, σ1, h, e1⟩ := bind2_inv e
  exact wpAny_isTrue_Not (hx m σ c σ1 A env ρ s _ ok h hA S fun s1 ρ1 T1 G1 => K.of e1 s1 ρ1 T1 G1)
theorem snt_bool {op : BoolOp} {es : List PySem.Expr} {p : Pos} (hs : ∀ e ∈ es, SndT X e) : SndT X (.BoolOp op es p) := fun m σ b σ' A env ρ s Q ok e hA S K =>
  wpAny_isTrue_BoolOp (snd_all hs m σ b σ' A env ρ s Q ok e hA S K)

/-- a slice's bound -/
noncomputable def OptR (n₀ : Heap) (ρ : Rho) (h : Heap) : Option AV → Value → Prop
  | none, y => y = .none
  | some a, y => RelV n₀ ρ h a y
theorem part_ok' {n₀ : Heap} {ρ : Rho} {h : Heap} {b : Option AV} {b' : Option Int} {y : Value} (e : bound b = some b') (r : OptR n₀ ρ h b y) : ∃ t, y = partValue (b'.map fun i => (i, t)) := by
  cases b with
  | none => cases e; exact ⟨0, r⟩
  | some a =>
    obtain ⟨i, h1, e1⟩ := bind1_inv e
    obtain ⟨_, e2⟩ := guard_inv e1
    cases e2
    cases asInt_inv h1
    obtain ⟨t, rfl⟩ := RelV.intE r
    exact ⟨t, rfl⟩

theorem snd_part {o : Option PySem.Expr} (ho : ∀ e, o = some e → SndE X e) {m : Loc} {σ σ' : Sto} {x : Option AV} {A : Around} {env : Env} {ρ : Rho} {s : Shared} {Q : Value → Shared → Prop} (ok : okO X.kn env.scope o = true) (e : evOpt X.O m o σ = some (x, σ'))
    (hA : AOk X.d A) (S : St X.hB X.os X.N.acc env m ρ σ s) (K : ∀ y s1 ρ1, Step ρ s ρ1 s1 → StG X.hB X.os X.N.acc ρ1 σ' s1 → OptR X.hB ρ1 s1.heap x y → Q y s1) : wpAny (model X.prog X.w) A (evalPart o env) Q Fls s := by
  cases o with
  | none =>
    cases e
    exact wpAny_evalPart_none (K _ _ ρ (.refl S.g) S.g rfl)
  | some a =>
    obtain ⟨u, σ1, h, e1⟩ := bind2_inv e
    cases e1
    exact wpAny_evalPart_some (ho a rfl m σ u _ A env ρ s _ ok h hA S K)

theorem isSl_inv {i : PySem.Expr} (h : isSl i = true) : ∃ lo hi st q, i = .Slice lo hi st q := by
  refine Classical.byContradiction fun hn => ?_
  cases i with
  | Slice lo hi st q => exact hn ⟨lo, hi, st, q, rfl⟩
  | _ => exact ff h
theorem snd_slice {v : PySem.Expr} {lo hi st : Option PySem.Expr} {q p : Pos} (hv : SndE X v) (h1 : ∀ e, lo = some e → SndE X e) (h2 : ∀ e, hi = some e → SndE X e) (h3 : ∀ e, st = some e → SndE X e) :
    SndE X (.Subscript v (.Slice lo hi st q) p) := by
  intro m σ w σ' A env ρ s Q ok e hA S K
  obtain ⟨okv, oks⟩ := and2 ok
  obtain ⟨ok1, ok2, ok3⟩ := and3 (a := okO X.kn env.scope lo) (b := okO X.kn env.scope hi) (c := okO X.kn env.scope st) oks
  obtain ⟨a, σ1, e1, f1⟩ := bind2_inv e
  obtain ⟨z, σ4, e0, f2⟩ := bind2_inv (o := evSl X.O m (.Slice lo hi st q) σ1) f1
  obtain ⟨x, σ2, e2, f3⟩ := bind2_inv e0
  obtain ⟨y, σ3, e3, f4⟩ := bind2_inv f3
  obtain ⟨z', σ5, e4, f5⟩ := bind2_inv f4
  obtain ⟨x', b1, f6⟩ := bind1_inv f5
  obtain ⟨y', b2, f7⟩ := bind1_inv f6
  obtain ⟨z'', b3, f8⟩ := bind1_inv f7
  cases f8
  clear e f1 e0 f3 f4 f5 f6 f7
  rw [eval_Subscript]
  refine wpAny_bind (hv m σ a σ1 A env ρ s _ okv e1 hA S fun va s1 ρ1 T1 G1 r1 => ?_)
  have S1 := S.step T1 G1
  refine wpAny_bind (wpAny_holding (wpAny_Slice (snd_part h1 ok1 e2 hA S1 fun vl s2 ρ2 T2 G2 r2 => ?_)))
  have S2 := S1.step T2 G2
  refine snd_part h2 ok2 e3 hA S2 fun vh s3 ρ3 T3 G3 r3 => ?_
  refine snd_part h3 ok3 e4 hA (S2.step T3 G3) fun vs s4 ρ4 T4 G4 r4 => ?_
  obtain ⟨t1, rfl⟩ := part_ok' b1 r2
  obtain ⟨t2, rfl⟩ := part_ok' b2 r3
  obtain ⟨t3, rfl⟩ := part_ok' b3 r4
  refine wpAny_bind (wpAny_standAt ?_)
  have Gp := G4.push { cls := .type "slice", data := .fields #[partValue (x'.map fun i => (i, t1)), partValue (y'.map fun i => (i, t2)), partValue (z''.map fun i => (i, t3))] } s4.toks
  have Tp := Step.push G4 { cls := .type "slice", data := .fields #[partValue (x'.map fun i => (i, t1)), partValue (y'.map fun i => (i, t2)), partValue (z''.map fun i => (i, t3))] } s4.toks
  have T24 := (T2.trans T3).trans T4
  exact slc_ok (value := v) (slice := .Slice lo hi st q) f2 Gp (Tp.rel G4 (T24.rel G1 r1)) ⟨_, Heap.get?_push_size _ rfl, rfl, rfl⟩ (K.step ((T1.trans T24).trans Tp))
theorem snd_sub {v i : PySem.Expr} {p : Pos} (hn : isSl i = false) (hv : SndE X v) (hi : SndE X i) : SndE X (.Subscript v i p) := by
  intro m σ w σ' A env ρ s Q ok e hA S K
  obtain ⟨okv, oki⟩ := and2 ok
  rw [hn] at oki
  obtain ⟨a, σ1, h1, e1⟩ := bind2_inv e
  rw [hn] at e1
  obtain ⟨b, σ2, h2, e2⟩ := bind2_inv (o := ev X.O m i σ1) e1
  obtain ⟨u, h3, e3⟩ := bind1_inv e2
  have K := K.of e3
  rw [eval_Subscript]
  refine wpAny_bind (hv m σ a σ1 A env ρ s _ okv h1 hA S fun x s1 ρ1 T1 G1 r1 => ?_)
  refine wpAny_bind (wpAny_holding (hi m σ1 b σ2 A env ρ1 s1 _ oki h2 hA (S.step T1 G1) fun y s2 ρ2 T2 G2 r2 => ?_))
  exact wpAny_bind (wpAny_standAt (subs_ok (slice := i) (value := v) h3 G2 (T2.rel G1 r1) r2 (K.step (T1.trans T2))))
end
end Mine
end

section
open PySem PySem.W PyProof.Rows PySem.Calls PySem.SeqAt
set_option maxRecDepth 100000
set_option linter.unusedSimpArgs false
namespace Mine

theorem cellsFrom_app : ∀ (names : List (Str × NameKind)) (n : Nat) (acc : List (Str × Addr)), cellsFrom n names acc = cellsFrom n names [] ++ acc
  | [], n, acc => rfl
  | (x, k) :: r, n, acc => by
    unfold cellsFrom
    split
    · rw [cellsFrom_app r (n + 1) ((x, n) :: acc), cellsFrom_app r (n + 1) [(x, n)]]; simp
    · exact cellsFrom_app r n acc
theorem cellsFrom_kind : ∀ (names : List (Str × NameKind)) (n : Nat) (x : Str) (c : Addr), (x, c) ∈ cellsFrom n names [] → (x, NameKind.cell) ∈ names
  | [], n, x, c, h => by cases h
  | (y, k) :: r, n, x, c, h => by
    unfold cellsFrom at h
    split at h
    · rename_i hk
      rw [cellsFrom_app] at h
      rcases List.mem_append.mp h with q | q
      · exact List.mem_cons_of_mem _ (cellsFrom_kind r _ x c q)
      · simp at q
        obtain ⟨rfl, rfl⟩ := q
        rw [beq_iff_eq.mp hk]; exact List.mem_cons_self
    · exact List.mem_cons_of_mem _ (cellsFrom_kind r _ x c h)
theorem cellsFrom_has : ∀ (names : List (Str × NameKind)) (n : Nat) (x : Str), (x, NameKind.cell) ∈ names → ∃ c, (x, c) ∈ cellsFrom n names []
  | [], n, x, h => by cases h
  | (y, k) :: r, n, x, h => by
    unfold cellsFrom
    rcases List.mem_cons.mp h with q | q
    · cases q
      rw [if_pos (by rfl), cellsFrom_app]
      exact ⟨n, List.mem_append_right _ (by simp)⟩
    · split
      · rw [cellsFrom_app]
        obtain ⟨c, hc⟩ := cellsFrom_has r (n + 1) x q
        exact ⟨c, List.mem_append_left _ hc⟩
      · exact cellsFrom_has r n x q
theorem lookup_of_mem {α : Type} : ∀ {l : List (Str × α)} {n : Str} {c : α}, (n, c) ∈ l → ∃ c', l.lookup n = some c'
  | (k, v) :: r, n, c, h => by
    rw [List.lookup_cons]
    cases hb : n == k with
    | true => exact ⟨v, rfl⟩
    | false =>
      rcases List.mem_cons.mp h with e | e
      · cases e; simp at hb
      · exact lookup_of_mem e
theorem lookup_none_of {α : Type} {l : List (Str × α)} {n : Str} (h : l.lookup n = none) (c : α) : (n, c) ∉ l := fun m => by
  obtain ⟨c', e⟩ := lookup_of_mem m
  rw [h] at e; cases e
theorem nodup_lookup {α : Type} : ∀ {l : List (Str × α)}, (l.map (·.1)).Nodup → ∀ {n : Str} {c : α}, (n, c) ∈ l → l.lookup n = some c
  | (k, v) :: r, hn, n, c, h => by
    rw [List.map_cons, List.nodup_cons] at hn
    rw [List.lookup_cons]
    rcases List.mem_cons.mp h with e | e
    · cases e; simp
    · have : n ≠ k := fun q => hn.1 (q ▸ List.mem_map.mpr ⟨_, e, rfl⟩)
      have hb : (n == k) = false := by simpa using this
      rw [hb]
      exact nodup_lookup hn.2 e

theorem lookup_map_kind (f : Str → NameKind → NameKind) : ∀ (l : List (Str × NameKind)) (x : Str), (l.map fun (n, k) => (n, f n k)).lookup x = (l.lookup x).map (f x)
  | [], x => rfl
  | (n, k) :: r, x => by
    rw [List.map_cons, List.lookup_cons, List.lookup_cons]
    cases hb : x == n with
    | true => rw [← beq_iff_eq.mp hb]; rfl
    | false => exact lookup_map_kind f r x

noncomputable def reK (outer : Scope) (n : Str) (k : NameKind) : NameKind := if (k == .free && outer.kind == .function && outer.names.lookup n == some .cell) then .cell else k
theorem relabelS_lookup (scope outer : Scope) (x : Str) : (relabelS scope outer).names.lookup x = (scope.names.lookup x).map (reK outer x) := by
  rw [← lookup_map_kind (reK outer)]
  show List.lookup x (scope.names.map _) = _
  congr 1
  refine List.map_congr_left fun p _ => ?_
  obtain ⟨n, k⟩ := p
  show (if (k == NameKind.free && outer.kind == .function && outer.names.lookup n == some .cell) = true then (n, NameKind.cell) else (n, k)) = (n, reK outer n k)
  unfold reK
  by_cases h : (k == NameKind.free && outer.kind == .function && outer.names.lookup n == some .cell) = true
  · rw [if_pos h, if_pos h]
  · rw [if_neg h, if_neg h]

section
variable {M : Model} {A : Around} {E : Value → Shared → Prop} {s : Shared} {env : Env}

theorem closure_ok (f : Str × NameKind → List (Str × Addr) → Sem (ForInStep (List (Str × Addr))))
    (hf : ∀ n k cs, f (n, k) cs = if k == .free then (cellOf env n >>= fun c => pure (.yield ((n, c) :: cs))) else pure (.yield cs)) :
    ∀ (names : List (Str × NameKind)) (cs : List (Str × Addr)), (∀ x ∈ names, x.2 = .free → ∃ c, env.cells.lookup x.1 = some c) →
      ∃ cl, forIn names cs f = pure cl ∧ (∀ x c, (x, c) ∈ cl → (x, c) ∈ cs ∨ ((x, NameKind.free) ∈ names ∧ env.cells.lookup x = some c)) ∧ (∀ x, (x, NameKind.free) ∈ names → ∃ c, (x, c) ∈ cl) ∧ (∀ q ∈ cs, q ∈ cl)
  | [], cs, _ => ⟨cs, rfl, fun _ _ h => .inl h, fun _ h => (by cases h), fun _ h => h⟩
  | (n, k) :: r, cs, h => by
    have hr : ∀ x ∈ r, x.2 = .free → ∃ c, env.cells.lookup x.1 = some c := fun x hx => h x (List.mem_cons_of_mem _ hx)
    by_cases hk : k = .free
    · subst hk
      obtain ⟨c, hc⟩ := h (n, .free) List.mem_cons_self rfl
      obtain ⟨cl, e, a, b, d⟩ := closure_ok f hf r ((n, c) :: cs) hr
      refine ⟨cl, ?_, fun x c' hx => ?_, fun x hx => ?_, fun q hq => d q (List.mem_cons_of_mem _ hq)⟩
      · rw [List.forIn_cons, hf, if_pos (by rfl)]
        unfold cellOf
        rw [hc]
        simp only [pure_bind]
        exact e
      · rcases a x c' hx with q | q
        · rcases List.mem_cons.mp q with z | z
          · cases z; exact .inr ⟨List.mem_cons_self, hc⟩
          · exact .inl z
        · exact .inr ⟨List.mem_cons_of_mem _ q.1, q.2⟩
      · rcases List.mem_cons.mp hx with z | z
        · cases z; exact ⟨c, d _ List.mem_cons_self⟩
        · exact b x z
    · have hb : (k == NameKind.free) = false := by simpa using hk
      obtain ⟨cl, e, a, b, d⟩ := closure_ok f hf r cs hr
      refine ⟨cl, ?_, fun x c' hx => ?_, fun x hx => ?_, d⟩
      · rw [List.forIn_cons, hf, hb, if_neg Bool.false_ne_true]
        simp only [pure_bind]
        exact e
      · rcases a x c' hx with q | q
        · exact .inl q
        · exact .inr ⟨List.mem_cons_of_mem _ q.1, q.2⟩
      · rcases List.mem_cons.mp hx with z | z
        · cases z; exact absurd rfl hk
        · exact b x z

theorem closureFor_ok {scope : Scope} (h : ∀ x ∈ scope.names, x.2 = .free → ∃ c, env.cells.lookup x.1 = some c) :
    ∃ cl, closureFor scope env = pure cl ∧ (∀ x c, (x, c) ∈ cl → (x, NameKind.free) ∈ scope.names ∧ env.cells.lookup x = some c) ∧ (∀ x, (x, NameKind.free) ∈ scope.names → ∃ c, (x, c) ∈ cl) := by
  unfold closureFor
  obtain ⟨cl, e, a, b, _⟩ := closure_ok (env := env) (fun (p : Str × NameKind) (cs : List (Str × Addr)) => if p.2 == NameKind.free then (cellOf env p.1 >>= fun c => pure (.yield ((p.1, c) :: cs))) else pure (.yield cs)) (fun _ _ _ => rfl) scope.names [] h
  refine ⟨cl, ?_, fun x c hx => (a x c hx).resolve_left (by simp), b⟩
  have : (forIn scope.names [] fun (x : Str × NameKind) (r : List (Str × Addr)) => (if x.2 == NameKind.free then (cellOf env x.1 >>= fun c => pure (ForInStep.yield ((x.1, c) :: r))) else pure (ForInStep.yield r) : Sem _)) = pure cl := e
  simp only [bind_pure]
  exact this

theorem newEnv_comp {scope : Scope} {globals : Addr} {cl : List (Str × Addr)} {qual : Str} {Q : Env → Shared → Prop}
    (h : Q (newEnv scope s.heap.objs.size globals (cellsFrom (s.heap.objs.size + 1) scope.names cl) qual none .none (some env) builtinsNs) { s with heap := pushCells (s.heap.push { cls := .type "dict", data := .dict #[] }) scope.names }) :
    wpAny M A (newFunctionEnv scope globals cl [] qual none .none (some env)) Q E s := by
  simp only [newFunctionEnv, Option.isSome_some, if_true]
  refine wpAny_bind (wpAny_alloc ?_)
  refine wpAny_bind (wpAny_layCells _ (fun name kind cells => by cases hkc : kind == NameKind.cell <;> simp []) _ _ _ _ ?_)
  rw [show ({ s with heap := s.heap.push { cls := .type "dict", data := .dict #[] } } : Shared).heap.objs.size = s.heap.objs.size + 1 from Heap.size_push ..]
  refine wpAny_bind ?_
  rw [List.forIn_nil]
  exact wpAny_pure (wpAny_pure h)
end

section
variable {prog : Program} {w : World} {A : Around} {R : Result → Shared → Prop} {s : Shared}

/-- the turns of a comprehension -/
theorem comp_loop {elt target iter : PySem.Expr} {ifs : List PySem.Expr} {scope : Scope} {pos : Pos} {it acc : Value} {env : Env} (I : Nat → Shared → Prop)
    (turn : ∀ n s, I n s → wpAny (model prog w) A (pyNext it) (fun r s₁ => match r with
      | none => R (.ok .next) s₁
      | some v => wpAny (model prog w) A (letOwnedTupleGo target it v) (fun _ s₁' => wpAny (model prog w) A (assign target env v) (fun _ s₂ =>
          wpAny (model prog w) A (forIn ifs true fun c r => if r = true then do let ok ← isTrue c env (eval c env); pure (ForInStep.yield ok) else pure (ForInStep.yield r)) (fun ok s₃ =>
            if ok = true then wpAny (model prog w) A (eval elt env) (fun x s₄ =>
              wpAny (model prog w) A (call (.builtin "list.append") [acc, x]) (fun _ s₅ => ∃ m, m < n ∧ I m s₅) Fls s₄) Fls s₃
            else ∃ m, m < n ∧ I m s₃) Fls s₂) Fls s₁') Fls s₁) Fls s)
    (n : Nat) (h : I n s) : codeAny (model prog w) A (.compLoop (.ListComp elt [⟨target, iter, ifs, 0⟩] scope pos) 0 it acc env) R s := by
  refine codeAny_loop rfl I (fun n s hI => ?_) n h
  show wpAny _ A ((compTurn (.ListComp elt [⟨target, iter, ifs, 0⟩] scope pos) 0 it acc env).onRaise (fun x => do noteFrame x env; theTreesLotGoes x)) _ _ s
  refine wpAny_noted ?_
  rw [compTurn_list]
  refine wpAny_bind (wpAny_standAt (wpAny_bind (wpAny_mono (turn n s hI) (fun r s₁ h₁ => ?_) fun _ _ f => f.elim)))
  cases r with
  | none => exact wpAny_pure h₁
  | some v =>
    refine wpAny_bind (wpAny_mono h₁ (fun _ s₁' h₁' => ?_) fun _ _ f => f.elim)
    refine wpAny_bind (wpAny_mono h₁' (fun _ s₂ h₂ => wpAny_bind (wpAny_mono h₂ (fun ok s₃ h₃ => ?_) fun _ _ f => f.elim)) fun _ _ f => f.elim)
    cases ok with
    | false => exact wpAny_pure ⟨rfl, h₃⟩
    | true =>
      exact wpAny_bind (wpAny_bind (wpAny_mono h₃ (fun x s₄ h₄ => wpAny_bind (wpAny_mono h₄ (fun _ s₅ h₅ => wpAny_pure (wpAny_pure ⟨rfl, h₅⟩)) fun _ _ f => f.elim)) fun _ _ f => f.elim))
end

section
variable {X : Cx}

/-- the tests of a comprehension -/
theorem tests_false {M : Model} {A : Around} {E : Value → Shared → Prop} {s : Shared} {env : Env} {Q : Bool → Shared → Prop} (h : Q false s) : ∀ ifs : List PySem.Expr,
    wpAny M A (forIn ifs false fun c r => if r = true then do let ok ← isTrue c env (eval c env); pure (ForInStep.yield ok) else pure (ForInStep.yield r)) Q E s
  | [] => by rw [List.forIn_nil]; exact wpAny_pure h
  | c :: r => by
    rw [List.forIn_cons, if_neg Bool.false_ne_true]
    exact wpAny_bind (wpAny_pure (tests_false h r))
theorem snd_tests : ∀ {es : List PySem.Expr}, (∀ e ∈ es, SndT X e) → ∀ m σ b σ' A env ρ s Q, okEs X.kn env.scope es = true → trs X.O m es σ = some (b, σ') → AOk X.d A →
    St X.hB X.os X.N.acc env m ρ σ s → KontB X.hB X.os X.N.acc ρ s b σ' Q →
    wpAny (model X.prog X.w) A (forIn es true fun c r => if r = true then do let ok ← isTrue c env (eval c env); pure (ForInStep.yield ok) else pure (ForInStep.yield r)) Q Fls s
  | [], _, m, σ, v, σ', A, env, ρ, s, Q, _, e, _, S, K => by
    rw [List.forIn_nil]
    exact wpAny_pure (K.of e _ ρ (.refl S.g) S.g)
  | a :: r, hs, m, σ, v, σ', A, env, ρ, s, Q, ok, e, hA, S, K => by
    have ok := and2 (a := okE X.kn env.scope a) ok
    obtain ⟨c, σ1, h1, e1⟩ := bind2_inv e
    rw [List.forIn_cons, if_pos rfl]
    refine wpAny_bind (wpAny_bind (hs a List.mem_cons_self m σ c σ1 A env ρ s _ ok.1 h1 hA S fun s1 ρ1 T1 G1 => wpAny_pure ?_))
    cases c with
    | true => exact snd_tests (fun e he => hs e (List.mem_cons_of_mem _ he)) m σ1 v σ' A env ρ1 s1 Q ok.2 e1 hA (S.step T1 G1) (K.step T1)
    | false => exact tests_false (K.of e1 s1 ρ1 T1 G1) r
end

section
variable {hB : Heap} {os : OsState} {C : Addr} {ρ ρ' : Rho} {σ σ' : Sto} {s s' : Shared} {env : Env} {m m' : Loc}

theorem NameAt.keepAt {h h' : Heap} {y : Str} {val : Value} (n : NameAt env h y val) (kl : ∀ o, h.get? env.locals = some o → h'.get? env.locals = some o)
    (kc : ∀ c, env.cells.lookup y = some c → ∀ o, h.get? c = some o → h'.get? c = some o) : NameAt env h' y val := by
  rcases n with ⟨hk, mm, hn, e⟩ | ⟨hk, c, hc, hv⟩
  · exact .inl ⟨hk, mm, Ns.keepAt hn kl, e⟩
  · exact .inr ⟨hk, c, hc, IsCell.keepAt hv (kc c hc)⟩

/-- places that are no cells and not of the frame turn -/
theorem St.side {M : Addr → Prop} (S : St hB os C env m ρ σ s) {h' : Heap} (k : KeepH M s.heap h') (hm : ∀ b, M b → Mut s.heap b ∧ hB.get? b = none) (h1 : ∀ p ∈ ρ, ¬ M p.1 ∧ ¬ M p.2)
    (h2 : ¬ M env.locals) (h3 : ∀ x c, env.cells.lookup x = some c → ¬ M c) (t : Nat) : St hB os C env m ρ σ { s with heap := h', toks := t } := by
  have F := S.f
  refine ⟨S.g.side k hm h1 t, ⟨F.kind, F.glob, F.bui, (let ⟨mm, h⟩ := F.ns; ⟨mm, Ns.keepAt h fun o e => k _ o e h2⟩), F.loL, F.cells, fun y c hy => let ⟨a, v, hv⟩ := F.cellAt y c hy; ⟨a, v, IsCell.keepAt hv fun o e => k _ o e (h3 y c hy)⟩, F.cinj, F.sepL, F.sepC⟩, fun y v e => ?_⟩
  obtain ⟨val, n, r⟩ := S.v y v e
  exact ⟨val, n.keepAt (fun o e => k _ o e h2) (fun c hc o e => k _ o e (h3 y c hc)), r.mono k hm (n := s.heap) .refl⟩

/-- a list that was no cell becomes one -/
theorem StG.adopt (G : StG hB os C ρ σ s) {D : Addr} {xs : List AV} {vs : List Value} (hd : s.heap.PlainList D vs.toArray) (R : RelVs hB ρ s.heap xs vs) (hD : hB.get? D = none) (sep : ∀ p ∈ ρ, p.1 ≠ D ∧ p.2 ≠ D) :
    StG hB os C (ρ ++ [(D, D)]) (σ ++ [.list xs]) s := by
  have gr : Grow hB ρ (ρ ++ [(D, D)]) := ⟨[(D, D)], rfl, fun p hp => by simp at hp; subst hp; exact ⟨hD, hD⟩⟩
  refine ⟨G.base, by simp [G.len], fun r c p e1 e2 => ?_, fun p hp => ?_, ?_, G.gens, G.os, fun p hp => ?_⟩
  · by_cases hr : r < σ.length
    · rw [List.getElem?_append_left hr] at e1
      rw [List.getElem?_append_left (by rw [G.len]; exact hr)] at e2
      exact (G.cell r c p e1 e2).mono (M := fun _ => False) .refl (fun _ h => h.elim) gr id (fun _ _ _ => id)
    · rw [List.getElem?_append_right (Nat.le_of_not_lt hr)] at e1
      rw [List.getElem?_append_right (by rw [G.len]; exact Nat.le_of_not_lt hr)] at e2
      rw [G.len] at e2
      generalize r - σ.length = k at e1 e2
      cases k with
      | succ k => simp at e1
      | zero =>
        simp at e1 e2
        subst e1; subst e2
        exact ⟨vs, hd, R.mono (M := fun _ => False) .refl (fun _ h => h.elim) gr⟩
  · rcases List.mem_append.mp hp with q | q
    · exact G.lo p q
    · simp at q; subst q
      exact hD
  · rw [List.map_append, List.nodup_append]
    refine ⟨G.apart, by simp, fun a ha b hb => ?_⟩
    simp at hb; subst hb
    obtain ⟨p, hp, rfl⟩ := List.mem_map.mp ha
    exact (sep p hp).1
  · rcases List.mem_append.mp hp with q | q
    · exact G.two p q
    · simp at q; subst q
      obtain ⟨k, ho⟩ := hd
      show (s.heap.get? D).isSome = true
      rw [ho]; rfl

/-- a step by places that are new since s₁ -/
theorem Step.more {M : Addr → Prop} {ρ₁ : Rho} {s₁ : Shared} (T : Step ρ₁ s₁ ρ s) (x : StepS M ρ s ρ' s') (hm : ∀ b, M b → s₁.heap.get? b = Option.none) : Step ρ₁ s₁ ρ' s' := by
  refine ⟨T.grow.trans x.grow T.none, fun b o e n => x.keep b o (T.keep b o e n) ?_, fun b h => ?_⟩
  · rintro (⟨p, hp, rfl⟩ | h)
    · rcases T.grow.mem hp with q | q
      · exact n ⟨p, q, rfl⟩
      · rw [q.1] at e; cases e
    · rw [hm b h] at e; cases e
  · obtain ⟨p, hp, rfl⟩ := h
    obtain ⟨t, rfl, _⟩ := T.grow
    exact x.lies p.1 (.inl ⟨p, List.mem_append_left _ hp, rfl⟩)
theorem Step.more' {M : Addr → Prop} {ρ₁ : Rho} {s₁ : Shared} (T : Step ρ₁ s₁ ρ s) {h' : Heap} (k : KeepH M s.heap h') (G : StG hB os C ρ σ { s with heap := h', toks := s'.toks }) (hm : ∀ b, M b → s₁.heap.get? b = Option.none) :
    Step ρ₁ s₁ ρ { s with heap := h', toks := s'.toks } := by
  refine ⟨T.grow, fun b o e n => k b o (T.keep b o e n) fun h => (by rw [hm b h] at e; cases e), fun b h => ?_⟩
  obtain ⟨p, hp, rfl⟩ := h
  obtain ⟨t, rfl, _⟩ := T.grow
  exact G.lies ⟨p, List.mem_append_left _ hp, rfl⟩
end
end Mine
end

section
open PySem PySem.W PyProof.Rows PySem.Calls PySem.SeqAt
set_option maxRecDepth 100000
set_option linter.unusedSimpArgs false
namespace Mine

section
variable {hB : Heap} {os : OsState} {C : Addr} {ρ ρ' : Rho} {σ σ' : Sto} {s s' : Shared} {env : Env} {m m' : Loc}

theorem sees_lookup {scope : Scope} {y : Str} {v : AV} : ∀ {m : Loc}, (sees scope m).lookup y = some v → scope.names.lookup y = some .free ∧ m.lookup y = some v
  | [], h => by simp [sees] at h
  | (x, u) :: r, h => by
    unfold sees at h
    rw [List.filter_cons] at h
    split at h
    · rename_i hx
      rw [List.lookup_cons] at h ⊢
      cases hb : y == x with
      | true =>
        rw [hb] at h; cases h
        rw [beq_iff_eq.mp hb]
        exact ⟨beq_iff_eq.mp hx, rfl⟩
      | false => rw [hb] at h; exact sees_lookup h
    · rename_i hx
      obtain ⟨a, b⟩ := sees_lookup (m := r) h
      refine ⟨a, ?_⟩
      rw [List.lookup_cons]
      cases hb : y == x with
      | true =>
        rw [beq_iff_eq.mp hb] at a
        exact absurd (beq_iff_eq.mpr a) hx
      | false => exact b

noncomputable def compEnv (scope : Scope) (cl : List (Str × Addr)) (L : Addr) (env : Env) : Env :=
  { newEnv scope L env.globals (cellsFrom (L + 1) scope.names cl) env.qual none .none (some env) builtinsNs with scope := relabelS scope env.scope }

noncomputable def ownP (scope : Scope) (x : Str) : Prop := scope.names.lookup x = some .local ∨ scope.names.lookup x = some .cell

theorem beqs {a b : Option NameKind} (h : (a == b) = true) : a = b := beq_iff_eq.mp h

theorem comp_frame {scope : Scope} {cl : List (Str × Addr)} (S : St hB os C env m ρ σ s) (cp : compB scope env.scope = true) (h1 : ∀ x c, (x, c) ∈ cl → (x, NameKind.free) ∈ scope.names ∧ env.cells.lookup x = some c)
    (h2 : ∀ x, (x, NameKind.free) ∈ scope.names → ∃ c, (x, c) ∈ cl) :
    St hB os C (compEnv scope cl s.heap.objs.size env) (sees scope m) ρ σ { s with heap := pushCells (s.heap.push { cls := .type "dict", data := .dict #[] }) scope.names } ∧
    (∀ b, tgtM (compEnv scope cl s.heap.objs.size env) (ownP scope) b → s.heap.get? b = none) ∧
    (∀ x c, (compEnv scope cl s.heap.objs.size env).cells.lookup x = some c → s.heap.get? c = none ∨ env.cells.lookup x = some c) ∧
    (∀ b o, s.heap.get? b = some o → (pushCells (s.heap.push { cls := .type "dict", data := .dict #[] }) scope.names).get? b = some o) := by
  simp only [compB, Bool.and_eq_true, beq_iff_eq, decide_eq_true_eq] at cp
  obtain ⟨⟨⟨hkind, hloc⟩, hfree⟩, hnd⟩ := cp
  have F := S.f
  have keep : ∀ b o, s.heap.get? b = some o → (pushCells (s.heap.push { cls := .type "dict", data := .dict #[] }) scope.names).get? b = some o := fun b o e => pushCells_keeps _ _ b o (Heap.get?_push_of_some _ e)
  have ok := cellsFrom_ok scope.names (s.heap.push { cls := .type "dict", data := .dict #[] }) (s.heap.objs.size + 1) [] ⟨fun _ _ hm => (nomatch hm), List.Pairwise.nil⟩ (by rw [Heap.size_push]; exact Nat.le_refl _)
  rw [Heap.size_push] at ok
  have ecells : (compEnv scope cl s.heap.objs.size env).cells = cellsFrom (s.heap.objs.size + 1) scope.names [] ++ cl := cellsFrom_app _ _ _
  have new : ∀ x c, (x, c) ∈ cellsFrom (s.heap.objs.size + 1) scope.names [] → s.heap.get? c = none := fun x c h => by
    have q1 := (ok.empty x c h).2
    cases e : s.heap.get? c with
    | none => rfl
    | some o => exact absurd (Nat.lt_trans (Nat.lt_of_lt_of_le (Nat.lt_succ_self _) q1) (Heap.lt_size e)) (Nat.lt_irrefl _)
  have look : ∀ x c, (compEnv scope cl s.heap.objs.size env).cells.lookup x = some c → (x, c) ∈ cellsFrom (s.heap.objs.size + 1) scope.names [] ∨ ((cellsFrom (s.heap.objs.size + 1) scope.names []).lookup x = none ∧ (x, c) ∈ cl) := fun x c h => by
    rw [ecells, List.lookup_append] at h
    cases e : (cellsFrom (s.heap.objs.size + 1) scope.names []).lookup x with
    | none => rw [e] at h; exact .inr ⟨rfl, mem_of_lookup h⟩
    | some c' => rw [e] at h; cases h; exact .inl (mem_of_lookup e)
  have kind : ∀ x, (compEnv scope cl s.heap.objs.size env).kindOf x = (scope.names.lookup x).map (reK env.scope x) := fun x => relabelS_lookup scope env.scope x
  have lieC : ∀ x c, env.cells.lookup x = some c → (s.heap.get? c).isSome = true := fun x c h => by
    obtain ⟨_, v, o, ho, _⟩ := F.cellAt x c h; rw [ho]; rfl
  have sz : s.heap.get? s.heap.objs.size = none := get_size _
  refine ⟨⟨S.g.keeps keep _, ?_, ?_⟩, ?_, ?_, keep⟩
  · refine ⟨hkind, F.glob, F.bui, ⟨_, (Heap.Ns.new s.heap (.type "dict")).keeps (pushCells_keeps _ _)⟩, S.g.noneB sz, fun x h => ?_, fun x c h => ?_, fun x y c hx hy => ?_, fun p hp => ?_, fun p hp x c h => ?_⟩
    · have : (x, NameKind.cell) ∈ scope.names ∨ (x, NameKind.free) ∈ scope.names := by
        rw [kind] at h
        cases e : scope.names.lookup x with
        | none => rw [e] at h; rcases h with h | h <;> cases h
        | some k =>
          rw [e] at h
          have hm := mem_of_lookup e
          cases k <;> first | exact .inl hm | exact .inr hm | (rcases h with h | h <;> simp [reK] at h)
      rw [ecells, List.lookup_append]
      cases e : (cellsFrom (s.heap.objs.size + 1) scope.names []).lookup x with
      | some c => exact ⟨c, rfl⟩
      | none =>
        rcases this with h | h
        · obtain ⟨c, hc⟩ := cellsFrom_has scope.names (s.heap.objs.size + 1) x h
          exact absurd hc (lookup_none_of e c)
        · obtain ⟨c, hc⟩ := h2 x h
          obtain ⟨c', hc'⟩ := lookup_of_mem hc
          exact ⟨c', hc'⟩
    · rcases look x c h with q | ⟨_, q⟩
      · exact ⟨S.g.noneB (new x c q), none, (ok.empty x c q).1⟩
      · obtain ⟨a, v, hv⟩ := F.cellAt x c (h1 x c q).2
        exact ⟨a, v, hv.keeps keep⟩
    · rcases look x c hx with q | ⟨_, q⟩ <;> rcases look y c hy with r | ⟨_, r⟩
      · exact name_of_addr ok.apart q r
      · have a := new x c q
        have b := lieC y c (h1 y c r).2
        rw [a] at b; cases b
      · have a := new y c r
        have b := lieC x c (h1 x c q).2
        rw [a] at b; cases b
      · exact F.cinj x y c (h1 x c q).2 (h1 y c r).2
    · have a := S.g.lies ⟨p, hp, rfl⟩
      have b := S.g.two p hp
      exact ⟨fun e => (by rw [e] at a; rw [show (compEnv scope cl s.heap.objs.size env).locals = s.heap.objs.size from rfl, sz] at a; cases a),
        fun e => (by rw [e] at b; rw [show (compEnv scope cl s.heap.objs.size env).locals = s.heap.objs.size from rfl, sz] at b; cases b)⟩
    · rcases look x c h with q | ⟨_, q⟩
      · have n := new x c q
        have a := S.g.lies ⟨p, hp, rfl⟩
        have b := S.g.two p hp
        exact ⟨fun e => (by rw [e, n] at a; cases a), fun e => (by rw [e, n] at b; cases b)⟩
      · exact F.sepC p hp x c (h1 x c q).2
  · intro y v e
    obtain ⟨hf, hv⟩ := sees_lookup e
    obtain ⟨val, n, r⟩ := S.v y v hv
    refine ⟨val, ?_, r.mono (M := fun _ => False) (fun b o e _ => keep b o e) (fun _ h => h.elim) .refl (n := s.heap)⟩
    have hm := mem_of_lookup hf
    have hk := List.all_eq_true.mp hfree _ hm
    simp only [bne_self_eq_false, Bool.false_or, Bool.or_eq_true, beq_iff_eq] at hk
    rcases n with ⟨k1, _⟩ | ⟨k1, c, hc, hcell⟩
    · have : env.kindOf y = env.scope.names.lookup y := rfl
      rw [this] at k1
      rw [k1] at hk
      rcases hk with h | h <;> cases h
    · refine .inr ⟨?_, c, ?_, hcell.keeps keep⟩
      · rw [kind, hf]
        show some (reK env.scope y .free) = _ ∨ some (reK env.scope y .free) = _
        unfold reK
        split
        · exact .inl rfl
        · exact .inr rfl
      · rw [ecells, List.lookup_append]
        have e1 : (cellsFrom (s.heap.objs.size + 1) scope.names []).lookup y = none := by
          cases e1 : (cellsFrom (s.heap.objs.size + 1) scope.names []).lookup y with
          | none => rfl
          | some c' =>
            have := nodup_lookup hnd (cellsFrom_kind _ _ _ _ (mem_of_lookup e1))
            rw [hf] at this; cases this
        rw [e1]
        obtain ⟨c', hc'⟩ := h2 y hm
        obtain ⟨c'', hl⟩ := lookup_of_mem hc'
        have := (h1 y c'' (mem_of_lookup hl)).2
        rw [hc] at this; cases this
        exact hl
  · rintro b (rfl | ⟨x, hx, hk, hc⟩)
    · exact sz
    · rw [kind] at hk
      rcases hx with hx | hx
      · rw [hx] at hk; simp [reK] at hk
      · rcases look x b hc with q | ⟨q, _⟩
        · exact new x b q
        · obtain ⟨c, hc⟩ := cellsFrom_has scope.names (s.heap.objs.size + 1) x (mem_of_lookup hx)
          exact absurd hc (lookup_none_of q c)
  · intro x c h
    rcases look x c h with q | ⟨_, q⟩
    · exact .inl (new x c q)
    · exact .inr (h1 x c q).2

/-- where a comprehension stands -/
structure LoopAt (hB : Heap) (os : OsState) (C : Addr) (cenv : Env) (m0 : Loc) (s₁ : Shared) (ρ₁ : Rho) (D I : Addr) (src : AV) (i : Nat) (acc : List AV) (ρ : Rho) (σ : Sto) (s : Shared) : Prop where
  t : Step ρ₁ s₁ ρ s
  S : St hB os C cenv m0 ρ σ s
  d : ∃ vs : List Value, s.heap.PlainList D vs.toArray ∧ RelVs hB ρ s.heap acc vs
  it : ItAt ρ s.heap src i I
  sep : ∀ p ∈ ρ, (p.1 ≠ D ∧ p.2 ≠ D) ∧ (p.1 ≠ I ∧ p.2 ≠ I)

structure Apart (hB : Heap) (cenv : Env) (P : Str → Prop) (s₁ : Shared) (D I : Addr) : Prop where
  d1 : s₁.heap.get? D = none
  i1 : s₁.heap.get? I = none
  d0 : hB.get? D = none
  i0 : hB.get? I = none
  di : D ≠ I
  l : cenv.locals ≠ D ∧ cenv.locals ≠ I
  c : ∀ x c, cenv.cells.lookup x = some c → c ≠ D ∧ c ≠ I
  tg : ∀ b, tgtM cenv P b → s₁.heap.get? b = none

theorem LoopAt.go {cenv : Env} {m0 : Loc} {s₁ : Shared} {ρ₁ : Rho} {D I : Addr} {src : AV} {i : Nat} {acc : List AV} {P : Str → Prop} (L : LoopAt hB os C cenv m0 s₁ ρ₁ D I src i acc ρ σ s) (a : Apart hB cenv P s₁ D I)
    (x : StepS (tgtM cenv P) ρ s ρ' s') (S' : St hB os C cenv m0 ρ' σ' s') : LoopAt hB os C cenv m0 s₁ ρ₁ D I src i acc ρ' σ' s' := by
  have nD : ¬ (inρ ρ D ∨ tgtM cenv P D) := by
    rintro (⟨p, hp, q⟩ | q | ⟨y, _, _, q⟩)
    · exact (L.sep p hp).1.1 q
    · exact a.l.1 q.symm
    · exact (a.c y D q).1 rfl
  have nI : ¬ (inρ ρ I ∨ tgtM cenv P I) := by
    rintro (⟨p, hp, q⟩ | q | ⟨y, _, _, q⟩)
    · exact (L.sep p hp).2.1 q
    · exact a.l.2 q.symm
    · exact (a.c y I q).2 rfl
  have hm : ∀ b, inρ ρ b ∨ tgtM cenv P b → Mut s.heap b ∧ hB.get? b = none := fun b h => h.elim L.S.g.mut fun h => L.S.f.frMut h.fr
  obtain ⟨vs, ⟨k, hd⟩, rs⟩ := L.d
  obtain ⟨oI, _, hI, _⟩ := L.it.lies
  refine ⟨L.t.more x a.tg, S', ⟨vs, ⟨k, x.keep _ _ hd nD⟩, rs.mono x.keep hm x.grow⟩, L.it.keep (fun o e => x.keep _ _ e nI) x.grow, fun p hp => ?_⟩
  rcases x.grow.mem hp with q | q
  · exact L.sep p q
  · exact ⟨⟨fun e => (by rw [e, hd] at q; cases q.1), fun e => (by rw [e, hd] at q; cases q.2)⟩, ⟨fun e => (by rw [e, hI] at q; cases q.1), fun e => (by rw [e, hI] at q; cases q.2)⟩⟩

theorem ownN_free {scope : Scope} {x y : Str} (h : ownN scope x = true) (hy : scope.names.lookup y = some .free) : y ≠ x := fun q => by
  subst q
  unfold ownN at h
  rw [hy] at h
  exact absurd h (by decide)
theorem tgtIn_name {scope : Scope} {t : PySem.Expr} {x : Str} (ht : tgtIn scope t = true) (h : nameOf t = some x) : ownN scope x = true := by
  unfold tgtIn at ht
  rw [h] at ht
  exact ht
theorem pair_noname {t : PySem.Expr} {x y : Str} (h : pairOf t = some (x, y)) : nameOf t = none := by
  obtain ⟨_, p, q, k, r, rfl⟩ := pairOf_inv h
  rfl
theorem tgtIn_pair {scope : Scope} {t : PySem.Expr} {x y : Str} (ht : tgtIn scope t = true) (h : pairOf t = some (x, y)) : ownN scope x = true ∧ ownN scope y = true := by
  unfold tgtIn at ht
  rw [pair_noname h, h] at ht
  exact and2 ht
theorem bindT_keeps {scope : Scope} {t : PySem.Expr} {v : AV} {m0 m' : Loc} (e : bindT t v m0 = some m') (ht : tgtIn scope t = true) {y : Str} (hy : scope.names.lookup y = some .free) : m'.lookup y = m0.lookup y := by
  rcases bindT_inv e with ⟨x, hx, rfl⟩ | ⟨x, z, a, b, hx, rfl, rfl⟩
  · rw [lookup_setL, if_neg (ownN_free (tgtIn_name ht hx) hy)]
  · obtain ⟨h1, h2⟩ := tgtIn_pair ht hx
    rw [lookup_setL, if_neg (ownN_free h2 hy), lookup_setL, if_neg (ownN_free h1 hy)]

theorem St.forget {scope : Scope} {t : PySem.Expr} {v : AV} {m1 : Loc} (S : St hB os C env m' ρ σ s) (e : bindT t v (sees scope m1) = some m') (ht : tgtIn scope t = true) : St hB os C env (sees scope m1) ρ σ s :=
  ⟨S.g, S.f, fun y u h => S.v y u (by rw [bindT_keeps e ht (sees_lookup h).1]; exact h)⟩

theorem own_ok {scope : Scope} {cl : List (Str × Addr)} {L : Addr} {x : Str} (h : ownN scope x = true) : kOk (compEnv scope cl L env) x ∧ ownP scope x := by
  have kind : (compEnv scope cl L env).kindOf x = (scope.names.lookup x).map (reK env.scope x) := relabelS_lookup scope env.scope x
  rcases Bool.or_eq_true _ _ ▸ h with h | h
  · have h := beqs h
    refine ⟨.inl ?_, .inl h⟩
    rw [kind, h]; rfl
  · have h := beqs h
    refine ⟨.inr ?_, .inr h⟩
    rw [kind, h]; rfl
theorem tgt_ok {scope : Scope} {t : PySem.Expr} {cl : List (Str × Addr)} {L : Addr} (ht : tgtIn scope t = true) : tOk (compEnv scope cl L env) (ownP scope) t :=
  ⟨fun _ h => own_ok (tgtIn_name ht h), fun _ _ h => ⟨own_ok (tgtIn_pair ht h).1, own_ok (tgtIn_pair ht h).2⟩⟩
end

section
variable {X : Cx}

theorem PlainList.mut {h : Heap} {D : Addr} {vs : Array Value} (x : h.PlainList D vs) : Mut h D := by
  obtain ⟨k, hd⟩ := x
  intro o ho
  rw [hd] at ho; cases ho
  exact .inl ⟨by simp, by simp⟩

theorem bind_tup {t : PySem.Expr} {v : AV} {m m' : Loc} (e : bindT t v m = some m') : (∃ x p, t = .Name x p) ∨ ∃ es k p xs, (t = .Tuple es k p ∧ nameOf t = none) ∧ v = .tup xs := by
  rcases bindT_inv e with ⟨x, hx, rfl⟩ | ⟨x, z, a, b, hx, rfl, rfl⟩
  · obtain ⟨p, rfl⟩ := nameOf_inv hx
    exact .inl ⟨x, p, rfl⟩
  · obtain ⟨_, p, q, k, r, rfl⟩ := pairOf_inv hx
    exact .inr ⟨_, _, _, _, ⟨rfl, rfl⟩, rfl⟩

theorem Step.adopt {ρ₁ ρ : Rho} {s₁ s : Shared} {D : Addr} (x : Step ρ₁ s₁ ρ s) (h : s₁.heap.get? D = Option.none) : Step ρ₁ s₁ (ρ ++ [(D, D)]) s := by
  obtain ⟨⟨t, rfl, ht⟩, k, l⟩ := x
  refine ⟨⟨t ++ [(D, D)], by simp, fun p hp => ?_⟩, k, l⟩
  rcases List.mem_append.mp hp with q | q
  · exact ht p q
  · simp at q; subst q; exact ⟨h, h⟩

/-- before an item is bound -/
theorem go_ok {t : PySem.Expr} {src v : AV} {val : Value} {m m' : Loc} {σ₁ : Sto} {ρ : Rho} {I : Addr} {i : Nat} {A : Around} {s : Shared} {Q : Unit → Shared → Prop} {E : Value → Shared → Prop} (e : bindT t v m = some m') (hs : srcOk t src σ₁ = true)
    (r : RelV X.hB ρ s.heap v val) (hI : ItAt ρ s.heap src i I) (h : Q () s) : wpAny (model X.prog X.w) A (letOwnedTupleGo t (.ref I) val) Q E s := by
  rcases bind_tup e with ⟨x, p, rfl⟩ | ⟨es, k, p, xs, ⟨rfl, hn⟩, rfl⟩
  · exact wpAny_of_eq rfl h
  · cases src with
    | ref q =>
      obtain ⟨pp, _, hit⟩ := hI
      obtain ⟨_, _, _, _, rfl⟩ := r.tupE
      exact wpAny_letOwnedTupleGo_listiter hit h
    | str l => cases hs
    | rng a b c => cases hs
    | _ => cases hs

noncomputable def turnF (O : Oracle) (m0 : Loc) (t : PySem.Expr) (ifs : List PySem.Expr) (elt : PySem.Expr) : AV → Sto → Option (Option AV × Sto) := fun v σ2 => bind1 (bindT t v m0) fun m' =>
  bind2 (trs O m' ifs σ2) fun c σ3 => if c then bind2 (ev O m' elt σ3) fun y σ4 => some (some y, σ4) else some (none, σ3)
theorem turnF_spec {O : Oracle} {m0 : Loc} {t : PySem.Expr} {ifs : List PySem.Expr} {elt : PySem.Expr} {v : AV} {σ : Sto} {r : Option AV} {σ' : Sto} (e : turnF O m0 t ifs elt v σ = some (r, σ')) :
    ∃ m' c σ3, bindT t v m0 = some m' ∧ trs O m' ifs σ = some (c, σ3) ∧ (if c then bind2 (ev O m' elt σ3) fun y σ4 => some (some y, σ4) else some (none, σ3)) = some (r, σ') := by
  obtain ⟨m', h1, e1⟩ := bind1_inv e
  obtain ⟨c, σ3, h2, e2⟩ := bind2_inv e1
  exact ⟨m', c, σ3, h1, h2, e2⟩
theorem compN_inv {next : Nat → Sto → Option (Option AV)} {elt : AV → Sto → Option (Option AV × Sto)} {n i : Nat} {acc : List AV} {σ : Sto} {r : List AV × Sto} (e : compN next elt (n + 1) i acc σ = some r) :
    (next i σ = some none ∧ r = (acc, σ)) ∨ ∃ v y σ', next i σ = some (some v) ∧ elt v σ = some (y, σ') ∧ (y.isSome = true → sizeOk acc.length = true) ∧ compN next elt n (i + 1) (acc ++ y.toList) σ' = some r := by
  have e : (match next i σ with
    | none => none
    | some none => some (acc, σ)
    | some (some v) => match elt v σ with
      | some (some y, σ') => if sizeOk acc.length then compN next elt n (i + 1) (acc ++ [y]) σ' else none
      | some (none, σ') => compN next elt n (i + 1) acc σ'
      | none => none) = some r := e
  cases h : next i σ with
  | none => rw [h] at e; cases e
  | some u =>
    rw [h] at e
    cases u with
    | none => cases e; exact .inl ⟨rfl, rfl⟩
    | some v =>
      refine .inr ⟨v, ?_⟩
      dsimp only at e
      cases h2 : elt v σ with
      | none => rw [h2] at e; cases e
      | some p =>
        obtain ⟨y, σ'⟩ := p
        rw [h2] at e
        cases y with
        | none => exact ⟨none, σ', rfl, rfl, (fun h => by cases h), by simpa using e⟩
        | some y =>
          obtain ⟨hk, e⟩ := guard_inv e
          exact ⟨some y, σ', rfl, rfl, fun _ => hk, e⟩

section
variable {hB : Heap} {os : OsState} {C : Addr} {ρ ρ' : Rho} {σ σ' : Sto} {s s' : Shared}
/-- the iterator moves on -/
theorem LoopAt.side {cenv : Env} {m0 : Loc} {s₁ : Shared} {ρ₁ : Rho} {D I : Addr} {src : AV} {i : Nat} {acc : List AV} {P : Str → Prop} (la : LoopAt hB os C cenv m0 s₁ ρ₁ D I src i acc ρ σ s) (ap : Apart hB cenv P s₁ D I) {h' : Heap} (hx : Heap.ExtBut I s.heap h') (tk : Nat)
    {src' : AV} {i' : Nat} (hit : ItAt ρ h' src' i' I) : LoopAt hB os C cenv m0 s₁ ρ₁ D I src' i' acc ρ σ { s with heap := h', toks := tk } ∧ ∀ {v val}, RelV hB ρ s.heap v val → RelV hB ρ h' v val := by
  have k : KeepH (· = I) s.heap h' := fun b o e n => hx b o n e
  have hm : ∀ b, b = I → Mut s.heap b ∧ hB.get? b = none := fun b e => by
    subst e
    refine ⟨fun o ho => ?_, ap.i0⟩
    obtain ⟨o', fs, h1, h2, h3, h4⟩ := la.it.lies
    rw [h1] at ho; cases ho
    exact .inl ⟨h3, h4⟩
  have S' := la.S.side k hm (fun p hp => (la.sep p hp).2) ap.l.2 (fun x c h => (ap.c x c h).2) tk
  obtain ⟨vs, ⟨kk, hd⟩, rs⟩ := la.d
  exact ⟨⟨la.t.more' (s' := { s with toks := tk }) k S'.g fun b e => e ▸ ap.i1, S', ⟨vs, ⟨kk, k _ _ hd ap.di⟩, rs.mono k hm (n := s.heap) .refl⟩, hit, la.sep⟩, fun r => r.mono k hm (n := s.heap) .refl⟩
/-- the iterator's end -/
theorem LoopAt.endOf {cenv : Env} {m0 : Loc} {s₁ : Shared} {ρ₁ : Rho} {D I : Addr} {src : AV} {i : Nat} {acc : List AV} {P : Str → Prop} (la : LoopAt hB os C cenv m0 s₁ ρ₁ D I src i acc ρ σ s) (ap : Apart hB cenv P s₁ D I) {h' : Heap} (hx : Heap.ExtBut I s.heap h') (tk : Nat) :
    St hB os C cenv m0 ρ σ { s with heap := h', toks := tk } ∧ Step ρ₁ s₁ ρ { s with heap := h', toks := tk } ∧ ∃ vs : List Value, h'.PlainList D vs.toArray ∧ RelVs hB ρ h' acc vs := by
  have k : KeepH (· = I) s.heap h' := fun b o e n => hx b o n e
  have hm : ∀ b, b = I → Mut s.heap b ∧ hB.get? b = none := fun b e => by
    subst e
    refine ⟨fun o ho => ?_, ap.i0⟩
    obtain ⟨o', fs, h1, h2, h3, h4⟩ := la.it.lies
    rw [h1] at ho; cases ho
    exact .inl ⟨h3, h4⟩
  have S' := la.S.side k hm (fun p hp => (la.sep p hp).2) ap.l.2 (fun x c h => (ap.c x c h).2) tk
  obtain ⟨vs, ⟨kk, hd⟩, rs⟩ := la.d
  exact ⟨S', la.t.more' (s' := { s with toks := tk }) k S'.g fun b e => e ▸ ap.i1, vs, ⟨kk, k _ _ hd ap.di⟩, rs.mono k hm (n := s.heap) .refl⟩
/-- an item is laid behind the others -/
theorem LoopAt.app {cenv : Env} {m0 : Loc} {s₁ : Shared} {ρ₁ : Rho} {D I : Addr} {src : AV} {i : Nat} {acc : List AV} {P : Str → Prop} (la : LoopAt hB os C cenv m0 s₁ ρ₁ D I src i acc ρ σ s) (ap : Apart hB cenv P s₁ D I) {y : AV} {yv : Value} (r : RelV hB ρ s.heap y yv)
    {prog : Program} {w : World} {A : Around} {Q : Value → Shared → Prop} (hk : sizeOk acc.length = true) (K : ∀ s', LoopAt hB os C cenv m0 s₁ ρ₁ D I src i (acc ++ [y]) ρ σ s' → ∀ u, Q u s') : wpAny (model prog w) A (call (.builtin "list.append") [.ref D, yv]) Q Fls s := by
  have hk' := sizeOk_le hk
  obtain ⟨vs, hl, rs⟩ := la.d
  have hlen := rs.length
  refine wpAny_list_append_plain hl (fun h6 hl6 hs6 => ?_) (by simp [sizeLine_eq']; omega)
  have k6 : KeepH (· = D) s.heap h6 := fun b o e n => (hs6.2 b n).trans e
  have hm6 : ∀ b, b = D → Mut s.heap b ∧ hB.get? b = none := fun b e => by subst e; exact ⟨PlainList.mut hl, ap.d0⟩
  have S6 := la.S.side k6 hm6 (fun p hp => (la.sep p hp).1) ap.l.1 (fun x c h => (ap.c x c h).1) s.toks
  exact K _ ⟨la.t.more' (s' := s) k6 S6.g (fun b e => e ▸ ap.d1), S6, ⟨vs ++ [yv], by simpa using hl6, (rs.mono k6 hm6 (n := s.heap) .refl).append (.cons (r.mono k6 hm6 (n := s.heap) .refl) .nil)⟩,
    la.it.keep (fun o e => k6 _ _ e fun q => ap.di q.symm) (.refl (n := s.heap)), la.sep⟩ _
end

/-- a turn -/
theorem comp_turn {elt t : PySem.Expr} {ifs : List PySem.Expr} {scope : Scope} (hf : ∀ e ∈ ifs, SndT X e) (he : SndE X elt) {m : Loc} {env : Env} {cl : List (Str × Addr)} {L : Addr} {A : Around} (hA : AOk X.d A)
    (ht : tgtIn scope t = true) (okf : okEs X.kn (relabelS scope env.scope) ifs = true) (oke : okE X.kn (relabelS scope env.scope) elt = true) {src : AV} {σ₁ : Sto} (hsrc : srcOk t src σ₁ = true)
    {s₁ : Shared} {ρ₁ : Rho} {D I : Addr} (ap : Apart X.hB (compEnv scope cl L env) (ownP scope) s₁ D I) {i : Nat} {acc : List AV} {ρ : Rho} {σ σ4 : Sto} {s : Shared} {v : AV} {y : Option AV} {val : Value}
    (la : LoopAt X.hB X.os X.N.acc (compEnv scope cl L env) (sees scope m) s₁ ρ₁ D I src i acc ρ σ s) (rv : RelV X.hB ρ s.heap v val) (hF : turnF X.O (sees scope m) t ifs elt v σ = some (y, σ4)) (hk : y.isSome = true → sizeOk acc.length = true)
    {P : Shared → Prop} (K : ∀ ρ s, LoopAt X.hB X.os X.N.acc (compEnv scope cl L env) (sees scope m) s₁ ρ₁ D I src i (acc ++ y.toList) ρ σ4 s → P s) :
    wpAny (model X.prog X.w) A (letOwnedTupleGo t (.ref I) val) (fun _ s₁' => wpAny (model X.prog X.w) A (assign t (compEnv scope cl L env) val) (fun _ s₂ =>
          wpAny (model X.prog X.w) A (forIn ifs true fun c r => if r = true then do let ok ← isTrue c (compEnv scope cl L env) (eval c (compEnv scope cl L env)); pure (ForInStep.yield ok) else pure (ForInStep.yield r)) (fun ok s₃ =>
            if ok = true then wpAny (model X.prog X.w) A (eval elt (compEnv scope cl L env)) (fun x s₄ =>
              wpAny (model X.prog X.w) A (call (.builtin "list.append") [.ref D, x]) (fun _ s₅ => P s₅) Fls s₄) Fls s₃
            else P s₃) Fls s₂) Fls s₁') Fls s := by
  obtain ⟨m', c, σ3, hb, h3, hF⟩ := turnF_spec hF
  refine go_ok hb hsrc rv la.it ?_
  refine assign_ok hb hA.handled la.S rv (tgt_ok ht) fun _ s3 x3 S3 => ?_
  have la3 := la.go ap x3 (S3.forget hb ht)
  refine snd_tests hf m' σ c σ3 A _ ρ s3 _ okf h3 hA S3 fun s4 ρ4 T4 G4 => ?_
  have S4 := S3.step T4 G4
  have la4 := la3.go ap (T4.toS S3.f) (S4.forget hb ht)
  cases c with
  | false =>
    rw [if_neg Bool.false_ne_true] at hF
    cases hF
    rw [if_neg Bool.false_ne_true]
    refine K ρ4 s4 ?_
    rw [show acc ++ (none : Option AV).toList = acc from List.append_nil acc]
    exact la4
  | true =>
    rw [if_pos rfl] at hF
    obtain ⟨y', σ5, h4, hF⟩ := bind2_inv hF
    cases hF
    rw [if_pos rfl]
    refine he m' σ3 y' _ A _ ρ4 s4 _ oke h4 hA S4 fun yv s5 ρ5 T5 G5 r5 => ?_
    have la5 := la4.go ap (T5.toS S4.f) ((S4.step T5 G5).forget hb ht)
    exact la5.app ap r5 (hk rfl) fun s6 la6 _ => K ρ5 s6 la6

/-- where a comprehension's loop stands -/
inductive CompI (X : Cx) (scope : Scope) (cl : List (Str × Addr)) (L : Addr) (env : Env) (m : Loc) (t : PySem.Expr) (ifs : List PySem.Expr) (elt : PySem.Expr) (s₁ : Shared) (ρ₁ : Rho) (D I : Addr) (src : AV) (q : List AV × Sto) (n : Nat) (s : Shared) : Prop
  | mk (i : Nat) (acc : List AV) (ρ : Rho) (σ : Sto) (e : compN (nextOf src) (turnF X.O (sees scope m) t ifs elt) n i acc σ = some q) (la : LoopAt X.hB X.os X.N.acc (compEnv scope cl L env) (sees scope m) s₁ ρ₁ D I src i acc ρ σ s)
theorem comp_next {elt t : PySem.Expr} {ifs : List PySem.Expr} {scope : Scope} (hf : ∀ e ∈ ifs, SndT X e) (he : SndE X elt) {m : Loc} {env : Env} {cl : List (Str × Addr)} {L : Addr} {A : Around} (hA : AOk X.d A)
    (ht : tgtIn scope t = true) (okf : okEs X.kn (relabelS scope env.scope) ifs = true) (oke : okE X.kn (relabelS scope env.scope) elt = true) {src : AV} {σ₁ : Sto} (hsrc : srcOk t src σ₁ = true)
    {s₁ : Shared} {ρ₁ : Rho} {D I : Addr} (ap : Apart X.hB (compEnv scope cl L env) (ownP scope) s₁ D I) {R : Shared → Prop} {ys : List AV} {σ' : Sto}
    (hR : ∀ ρ s, (∃ vs : List Value, s.heap.PlainList D vs.toArray ∧ RelVs X.hB ρ s.heap ys vs) → Step ρ₁ s₁ ρ s → St X.hB X.os X.N.acc (compEnv scope cl L env) (sees scope m) ρ σ' s → (∀ p ∈ ρ, p.1 ≠ D ∧ p.2 ≠ D) → R s)
    {n : Nat} {s : Shared} (h : CompI X scope cl L env m t ifs elt s₁ ρ₁ D I src (ys, σ') n s) {P : Option Value → Shared → Prop} (K0 : ∀ s2, R s2 → P none s2)
    (K1 : ∀ v s2, wpAny (model X.prog X.w) A (letOwnedTupleGo t (.ref I) v) (fun _ s₁' => wpAny (model X.prog X.w) A (assign t (compEnv scope cl L env) v) (fun _ s₂ =>
          wpAny (model X.prog X.w) A (forIn ifs true fun c r => if r = true then do let ok ← isTrue c (compEnv scope cl L env) (eval c (compEnv scope cl L env)); pure (ForInStep.yield ok) else pure (ForInStep.yield r)) (fun ok s₃ =>
            if ok = true then wpAny (model X.prog X.w) A (eval elt (compEnv scope cl L env)) (fun x s₄ =>
              wpAny (model X.prog X.w) A (call (.builtin "list.append") [.ref D, x]) (fun _ s₅ => ∃ k, k < n ∧ CompI X scope cl L env m t ifs elt s₁ ρ₁ D I src (ys, σ') k s₅) Fls s₄) Fls s₃
            else ∃ k, k < n ∧ CompI X scope cl L env m t ifs elt s₁ ρ₁ D I src (ys, σ') k s₃) Fls s₂) Fls s₁') Fls s2 → P (some v) s2) : wpAny (model X.prog X.w) A (pyNext (.ref I)) P Fls s := by
  obtain ⟨i, acc, ρ, σ, ec, la⟩ := h
  cases n with
  | zero => cases ec
  | succ n =>
    rcases compN_inv ec with ⟨hn, hy⟩ | ⟨v, y, σ4, hn, hF, hk, ec⟩
    · refine next_ok hn hA.handled la.S.g la.it fun h' tk hx => K0 _ ?_
      obtain ⟨S', T', hd⟩ := la.endOf ap hx tk
      have hy := Prod.mk.inj hy
      exact hR ρ _ (hy.1 ▸ hd) T' (hy.2 ▸ S') (fun p hp => (la.sep p hp).1)
    · refine next_ok hn hA.handled la.S.g la.it fun h' tk hx val rv hit => K1 _ _ ?_
      obtain ⟨la', rel⟩ := la.side ap hx tk hit
      exact comp_turn hf he hA ht okf oke hsrc ap la' (rel rv) hF hk fun ρ s la => ⟨n, Nat.lt_succ_self n, i + 1, _, ρ, σ4, ec, la⟩
theorem comp_walk {elt t iter : PySem.Expr} {ifs : List PySem.Expr} {scope : Scope} {p : Pos} (hf : ∀ e ∈ ifs, SndT X e) (he : SndE X elt) {m : Loc} {env : Env} {cl : List (Str × Addr)} {L : Addr} {A : Around} (hA : AOk X.d A)
    (ht : tgtIn scope t = true) (okf : okEs X.kn (relabelS scope env.scope) ifs = true) (oke : okE X.kn (relabelS scope env.scope) elt = true) {src : AV} {σ₁ : Sto} (hsrc : srcOk t src σ₁ = true)
    {s₁ : Shared} {ρ₁ : Rho} {D I : Addr} (ap : Apart X.hB (compEnv scope cl L env) (ownP scope) s₁ D I) {R : Result → Shared → Prop} {ys : List AV} {σ' : Sto}
    (hR : ∀ ρ s, (∃ vs : List Value, s.heap.PlainList D vs.toArray ∧ RelVs X.hB ρ s.heap ys vs) → Step ρ₁ s₁ ρ s → St X.hB X.os X.N.acc (compEnv scope cl L env) (sees scope m) ρ σ' s → (∀ p ∈ ρ, p.1 ≠ D ∧ p.2 ≠ D) → R (.ok .next) s)
    (n i : Nat) (acc : List AV) (ρ : Rho) (σ : Sto) (s : Shared) (ec : compN (nextOf src) (turnF X.O (sees scope m) t ifs elt) n i acc σ = some (ys, σ')) (la : LoopAt X.hB X.os X.N.acc (compEnv scope cl L env) (sees scope m) s₁ ρ₁ D I src i acc ρ σ s) :
    codeAny (model X.prog X.w) A (.compLoop (.ListComp elt [⟨t, iter, ifs, 0⟩] scope p) 0 (.ref I) (.ref D) (compEnv scope cl L env)) R s :=
  comp_loop (CompI X scope cl L env m t ifs elt s₁ ρ₁ D I src (ys, σ')) (fun n s h => comp_next hf he hA ht okf oke hsrc ap (R := fun s => R (.ok .next) s) hR h (fun _ h => h) fun v s2 h => h) n ⟨i, acc, ρ, σ, ec, la⟩

theorem iter_again {src : AV} {i : Nat} {I : Addr} {A : Around} {ρ : Rho} {s : Shared} {Q : Value → Shared → Prop} {E : Value → Shared → Prop} (hI : ItAt ρ s.heap src i I) (h : Q (.ref I) s) : wpAny (model X.prog X.w) A (pyIter (.ref I)) Q E s := by
  cases src with
  | ref q => obtain ⟨p, _, hit⟩ := hI; exact wpAny_pyIter_listiter hit h
  | str l =>
    obtain ⟨t, hit⟩ := hI
    unfold strIterType at hit
    split at hit
    · exact wpAny_pyIter_striter_ascii hit h
    · exact wpAny_pyIter_striter_wide hit h
  | rng a b c => rcases hI with ⟨_, hit⟩ | ⟨_, hit⟩ <;> exact wpAny_pyIter_rangeiter hit h
  | _ => exact hI.elim

/-- what the end of a comprehension gives -/
noncomputable def CompEnd (X : Cx) (A : Around) (env : Env) (m : Loc) (ρ : Rho) (s : Shared) (σ1 : Sto) (ys : List AV) (σ2 : Sto) (use : Option (Value → Sem Unit)) (Q : Value → Shared → Prop) : Prop :=
  ∀ ρ1 s1 D L ρ2 s2 mm, Step ρ s ρ1 s1 → St X.hB X.os X.N.acc env m ρ1 σ1 s1 → Step ρ1 s1 (ρ2 ++ [(D, D)]) s2 → StG X.hB X.os X.N.acc (ρ2 ++ [(D, D)]) (σ2 ++ [.list ys]) s2 → s2.heap.Ns L mm → s1.heap.get? L = none → X.hB.get? L = none →
    (∀ p ∈ ρ2 ++ [(D, D)], p.1 ≠ L ∧ p.2 ≠ L) → ρ2.length = σ2.length → compPost (model X.prog X.w) A Fls use Q (.ref D) L (.ok .next) s2

theorem comp_core {elt t iter : PySem.Expr} {ifs : List PySem.Expr} {scope : Scope} {p pos : Pos} (hi : SndE X iter) (hf : ∀ e ∈ ifs, SndT X e) (he : SndE X elt) {use : Option (Value → Sem Unit)} {Q : Value → Shared → Prop}
    {m : Loc} {σ σ1 σ2 : Sto} {src : AV} {ys : List AV} {A : Around} {env : Env} {ρ : Rho} {s : Shared} (cp : compB scope env.scope = true) (ht : tgtIn scope t = true) (oki : okE X.kn env.scope iter = true)
    (okf : okEs X.kn (relabelS scope env.scope) ifs = true) (oke : okE X.kn (relabelS scope env.scope) elt = true) (hA : AOk X.d A) (S : St X.hB X.os X.N.acc env m ρ σ s) (e1 : ev X.O m iter σ = some (src, σ1)) (hsrc : srcOk t src σ1 = true)
    (ec : compN (nextOf src) (turnF X.O (sees scope m) t ifs elt) (fuelOf src σ1) 0 [] σ1 = some (ys, σ2)) (hQ : CompEnd X A env m ρ s σ1 ys σ2 use Q) :
    wpAny (model X.prog X.w) A (comprehension (.ListComp elt [⟨t, iter, ifs, 0⟩] scope p) scope env pos (newList []) false (eval iter env) use) Q Fls s := by
  have cp' := cp
  simp only [compB, Bool.and_eq_true, beq_iff_eq, decide_eq_true_eq] at cp'
  obtain ⟨⟨⟨hkind, hloc⟩, hfree⟩, hnd⟩ := cp'
  obtain ⟨cl, hcl, h1, h2⟩ := closureFor_ok (env := env) (scope := scope) fun x hx hk => by
    have := List.all_eq_true.mp hfree x hx
    rw [hk] at this
    simp only [bne_self_eq_false, Bool.false_or, Bool.or_eq_true, beq_iff_eq] at this
    exact S.f.cells x.1 this
  refine wpAny_comprehension_free (cl := cl) rfl (okE_noSet oki env) hcl hkind (fun x hx hk => ?_) ?_
  · have := List.all_eq_true.mp hloc x hx
    rw [hk] at this
    simpa using this
  · refine hi m σ src σ1 A env ρ s _ oki e1 hA S fun xv s1 ρ1 T1 G1 r1 => ?_
    have S1 := S.step T1 G1
    refine iter_ok hsrc G1 r1 fun ha I ka nI hit => ?_
    have Sa : St X.hB X.os X.N.acc env m ρ1 σ1 { s1 with heap := ha } := S1.step (Step.keeps G1 ka s1.toks) (G1.keeps ka s1.toks)
    refine wpAny_newObj_type ?_
    generalize hb : ha.push { cls := .type "list", data := .seq ([] : List Value).toArray } = hb'
    have kb : ∀ b o, ha.get? b = some o → hb'.get? b = some o := fun b o e => hb ▸ Heap.get?_push_of_some _ e
    have Sb : St X.hB X.os X.N.acc env m ρ1 σ1 { s1 with heap := hb' } := Sa.step (Step.keeps Sa.g kb s1.toks) (Sa.g.keeps kb s1.toks)
    refine newEnv_comp ?_
    obtain ⟨Sc, htg, hcells, kc⟩ := comp_frame Sb cp h1 h2
    have hI : (ha.get? I).isSome = true := by obtain ⟨o, _, ho, _⟩ := hit.lies; rw [ho]; rfl
    have nD : ha.get? ha.objs.size = none := get_size _
    have hD : hb'.get? ha.objs.size = some { cls := .type "list", data := .seq ([] : List Value).toArray } := by rw [← hb]; exact Heap.get?_push_size _ rfl
    have n1 : ∀ b, ha.get? b = none → s1.heap.get? b = none := fun b h => by
      cases e : s1.heap.get? b with
      | none => rfl
      | some o => rw [ka b o e] at h; cases h
    have n2 : ∀ b, hb'.get? b = none → ha.get? b = none := fun b h => by
      cases e : ha.get? b with
      | none => rfl
      | some o => rw [kb b o e] at h; cases h
    have nL : hb'.get? hb'.objs.size = none := get_size _
    have ap : Apart X.hB (compEnv scope cl hb'.objs.size env) (ownP scope) s1 ha.objs.size I := by
      refine ⟨n1 _ nD, nI, G1.noneB (n1 _ nD), G1.noneB nI, fun e => ?_, ⟨fun e => ?_, fun e => ?_⟩, fun x c h => ⟨fun e => ?_, fun e => ?_⟩, fun b h => n1 b (n2 b (htg b h))⟩
      · rw [← e, nD] at hI; cases hI
      · change hb'.objs.size = _ at e
        rw [← e, nL] at hD; cases hD
      · change hb'.objs.size = _ at e
        obtain ⟨o, ho⟩ := Option.isSome_iff_exists.mp hI
        have := kb _ _ ho
        rw [← e, nL] at this; cases this
      · rcases hcells x c h with q | q
        · change hb'.get? c = none at q
          rw [e, hD] at q; cases q
        · obtain ⟨_, u, o, ho, _⟩ := S1.f.cellAt x c q
          rw [e, n1 _ nD] at ho; cases ho
      · rcases hcells x c h with q | q
        · change hb'.get? c = none at q
          have q := n2 _ q
          rw [e] at q
          rw [q] at hI; cases hI
        · obtain ⟨_, u, o, ho, _⟩ := S1.f.cellAt x c q
          rw [e, nI] at ho; cases ho
    have la : LoopAt X.hB X.os X.N.acc (compEnv scope cl hb'.objs.size env) (sees scope m) s1 ρ1 ha.objs.size I src 0 [] ρ1 σ1 { s1 with heap := pushCells (hb'.push { cls := .type "dict", data := .dict #[] }) scope.names } := by
      refine ⟨Step.keeps G1 (fun b o e => kc b o (kb b o (ka b o e))) s1.toks, Sc, ⟨[], ⟨_, kc _ _ hD⟩, .nil⟩, (hit.keep (fun o e => kb _ o e) (.refl (n := s1.heap))).keep (fun o e => kc _ o e) (.refl (n := s1.heap)), fun p hp => ?_⟩
      have a := G1.lies ⟨p, hp, rfl⟩
      have b := G1.two p hp
      have n := n1 _ nD
      exact ⟨⟨fun e => (by rw [e, n] at a; cases a), fun e => (by rw [e, n] at b; cases b)⟩, ⟨fun e => (by rw [e, nI] at a; cases a), fun e => (by rw [e, nI] at b; cases b)⟩⟩
    show codeAny _ _ (.compStart _ 0 (.ref I) (.ref ha.objs.size) (compEnv scope cl hb'.objs.size env)) _ _
    have fin : codeAny (model X.prog X.w) A (.compLoop (.ListComp elt [⟨t, iter, ifs, 0⟩] scope p) 0 (.ref I) (.ref ha.objs.size) (compEnv scope cl hb'.objs.size env))
        (compPost (model X.prog X.w) A Fls use Q (.ref ha.objs.size) hb'.objs.size) { s1 with heap := pushCells (hb'.push { cls := .type "dict", data := .dict #[] }) scope.names } := by
      refine comp_walk hf he hA ht okf oke hsrc ap (fun ρ2 s2 hd T2 S2 sep => ?_) _ 0 [] ρ1 σ1 _ ec la
      obtain ⟨mm, hns⟩ := S2.f.ns
      obtain ⟨vs, hd, rs⟩ := hd
      refine hQ ρ1 s1 ha.objs.size hb'.objs.size ρ2 s2 mm T1 S1 (T2.adopt ap.d1) (S2.g.adopt hd rs ap.d0 sep) hns (n1 _ (n2 _ nL)) (G1.noneB (n1 _ (n2 _ nL))) (fun p hp => ?_) S2.g.len
      rcases List.mem_append.mp hp with q | q
      · exact S2.f.sepL p q
      · simp at q; subst q
        exact ⟨ap.l.1.symm, ap.l.1.symm⟩
    refine codeAny_compStart_list fin ?_
    exact iter_again la.it fin

theorem comp_parts {O : Oracle} {m : Loc} {t iter elt : PySem.Expr} {ifs : List PySem.Expr} {is : Int} {scope : Scope} {p : Pos} {σ σ' : Sto} {v : AV} (e : ev O m (.ListComp elt [⟨t, iter, ifs, is⟩] scope p) σ = some (v, σ')) :
    is = 0 ∧ ∃ src σ1 ys σ2, ev O m iter σ = some (src, σ1) ∧ srcOk t src σ1 = true ∧ compN (nextOf src) (turnF O (sees scope m) t ifs elt) (fuelOf src σ1) 0 [] σ1 = some (ys, σ2) ∧ v = .ref σ2.length ∧ σ' = σ2 ++ [.list ys] := by
  have e : (if is != 0 then none else bind2 (ev O m iter σ) fun src σ1 => if srcOk t src σ1 then bind2 (compN (nextOf src) (turnF O (sees scope m) t ifs elt) (fuelOf src σ1) 0 [] σ1) fun ys σ2 => some (AV.ref σ2.length, σ2 ++ [Cell.list ys]) else none) = some (v, σ') := e
  by_cases h0 : is = 0
  · subst h0
    rw [if_neg (by decide)] at e
    obtain ⟨src, σ1, h1, e1⟩ := bind2_inv e
    obtain ⟨h2, e2⟩ := guard_inv e1
    obtain ⟨ys, σ2, h3, e3⟩ := bind2_inv e2
    cases e3
    exact ⟨rfl, src, σ1, ys, σ2, h1, h2, h3, rfl, rfl⟩
  · rw [if_pos (bne_iff_ne.mpr h0)] at e; cases e
theorem and5 {a b c d e : Bool} (h : (a && b && c && d && e) = true) : a = true ∧ b = true ∧ c = true ∧ d = true ∧ e = true :=
  ⟨(and3 (and2 (and2 h).1).1).1, (and3 (and2 (and2 h).1).1).2.1, (and3 (and2 (and2 h).1).1).2.2, (and2 (and2 h).1).2, (and2 h).2⟩

theorem snd_comp {elt t iter : PySem.Expr} {ifs : List PySem.Expr} {is : Int} {scope : Scope} {p : Pos} (hi : SndE X iter) (hf : ∀ e ∈ ifs, SndT X e) (he : SndE X elt) : SndE X (.ListComp elt [⟨t, iter, ifs, is⟩] scope p) := by
  intro m σ v σ' A env ρ s Q ok e hA S K
  obtain ⟨cp, ht, oki, okf, oke⟩ := and5 ok
  obtain ⟨rfl, src, σ1, ys, σ2, e1, hsrc, ec, rfl, rfl⟩ := comp_parts e
  rw [eval_ListComp]
  refine comp_core hi hf he cp ht oki okf oke hA S e1 hsrc ec ?_
  intro ρ1 s1 D L ρ2 s2 mm T1 S1 T2 G2 hns nL nB sepL hlen
  refine ⟨mm, hns, fun h' hs => ?_⟩
  have k : KeepH (· = L) s2.heap h' := fun b o e n => (hs.2 b n).trans e
  have hm : ∀ b, b = L → Mut s2.heap b ∧ X.hB.get? b = none := fun b e => by subst e; exact ⟨Ns.mut hns, nB⟩
  have G3 := G2.side k hm sepL s2.toks
  refine K _ _ _ (T1.trans (T2.more' (s' := s2) k G3 fun b e => e ▸ nL)) G3 ?_
  have : (ρ2 ++ [(D, D)])[σ2.length]? = some (D, D) := by
    rw [← hlen]; simp
  exact .ref (p := (D, D)) this
end
end Mine
end

section
open PySem PySem.W PyProof.Rows PySem.Calls PySem.SeqAt
set_option maxRecDepth 100000
set_option linter.unusedSimpArgs false
namespace Mine
section
variable {X : Cx}

theorem noE {e : PySem.Expr} (h : ∀ sc, okE X.kn sc e = false) : SndE X e ∧ SndT X e := by
  refine ⟨fun m σ v σ' A env ρ s Q ok => ?_, fun m σ v σ' A env ρ s Q ok => ?_⟩
  · rw [h] at ok; cases ok
  · rw [h] at ok; cases ok

theorem ev_sound (W : X.Ok) : ∀ (n : Nat) (e : PySem.Expr), sizeOf e < n → SndE X e ∧ SndT X e
  | 0, e, h => absurd h (Nat.not_lt_zero _)
  | n + 1, e, h => by
    have ih : ∀ e', sizeOf e' < sizeOf e → SndE X e' ∧ SndT X e' := fun e' h' => ev_sound W n e' (by omega)
    have ihl : ∀ (es : List PySem.Expr), sizeOf es < sizeOf e → ∀ e' ∈ es, SndE X e' ∧ SndT X e' := fun es h' e' he => ih e' (Nat.lt_trans (List.sizeOf_lt_of_mem he) h')
    have val : ∀ {e' : PySem.Expr}, SndE X e' → (∀ env whole, isTrue e' env whole = (do let v ← whole; standAt e'.pos; holding [v] (truthy v))) → (∀ O m σ whole, tr O m e' σ whole = byV whole) → SndE X e' ∧ SndT X e' :=
      fun a b c => ⟨a, snt_value a b c⟩
    cases e with
    | Constant c k p =>
      exact val snd_const (fun _ _ => rfl) (fun _ _ _ _ => rfl)
    | Name x p =>
      exact val snd_name (fun _ _ => rfl) (fun _ _ _ _ => rfl)
    | BoolOp op vs p =>
      have := ihl vs (by simp <;> omega)
      refine ⟨?_, snt_bool fun e he => (this e he).2⟩
      intro m σ v σ' A env ρ s Q ok e hA S K
      rw [arm_eval_BoolOp]
      exact snd_bool (fun e he => (this e he).1) m σ v σ' A env ρ s Q ok e hA S K
    | BinOp l op r p =>
      exact val (snd_bin (ih l (by simp <;> omega)).1 (ih r (by simp <;> omega)).1) (fun _ _ => rfl) (fun _ _ _ _ => rfl)
    | UnaryOp op x p =>
      have hx := ih x (by simp <;> omega)
      cases op with
      | Not => exact ⟨snd_neg hx.1, snt_not hx.2⟩
      | _ => exact val (snd_neg hx.1) (fun _ _ => rfl) (fun _ _ _ _ => rfl)
    | IfExp t b o p =>
      refine ⟨snd_if (ih t (by simp <;> omega)).2 (ih b (by simp <;> omega)).1 (ih o (by simp <;> omega)).1, ?_⟩
      intro m σ v σ' A env ρ s Q ok e
      cases e
    | List es p =>
      exact val (snd_list fun e he => (ihl es (by simp <;> omega) e he).1) (fun _ _ => rfl) (fun _ _ _ _ => rfl)
    | Tuple es k p =>
      exact val (snd_tuple fun e he => (ihl es (by simp <;> omega) e he).1) (fun _ _ => rfl) (fun _ _ _ _ => rfl)
    | ListComp elt gens scope p =>
      rcases gens with _ | ⟨⟨t, iter, ifs, is⟩, _ | ⟨g2, gs⟩⟩
      · exact noE fun sc => rfl
      · exact val (snd_comp (ih iter (by simp <;> omega)).1 (fun e he => (ihl ifs (by simp <;> omega) e he).2) (ih elt (by simp <;> omega)).1) (fun _ _ => rfl) (fun _ _ _ _ => rfl)
      · exact noE fun sc => rfl
    | Compare l ops rs p =>
      have hl := ih l (by simp <;> omega)
      have hr := ihl rs (by simp <;> omega)
      have hx : ∀ f x q, l = .Call f [x] [] q → SndE X x := fun f x q e => by subst e; exact (ih x (by simp <;> omega)).1
      have hy : ∀ r ∈ rs, ∀ f x q, r = .Call f [x] [] q → SndE X x := fun r hr f x q e => by
        have a := List.sizeOf_lt_of_mem hr
        refine (ih x ?_).1
        subst e
        simp at a ⊢
        omega
      exact ⟨snd_cmp W hl.1 (fun r h => (hr r h).1) hx hy, snt_cmp W hl.1 (fun r h => (hr r h).1) hx hy⟩
    | Call f args ks p =>
      have ha := ihl args (by simp <;> omega)
      cases ks with
      | cons k ks => exact noE fun sc => rfl
      | nil =>
        have tv : ∀ O m σ whole, tr O m (.Call f args [] p) σ whole = byV whole := fun _ _ _ _ => rfl
        have iv : ∀ env whole, isTrue (.Call f args [] p) env whole = (do let v ← whole; standAt (PySem.Expr.Call f args [] p).pos; holding [v] (truthy v)) := fun _ _ => rfl
        cases f with
        | Name g np => exact val (snd_call W fun e he => (ha e he).1) iv tv
        | Attribute o name apos => exact val (snd_mth W (ih o (by simp <;> omega)).1 fun e he => (ha e he).1) iv tv
        | _ => exact noE fun sc => rfl
    | Subscript v i p =>
      have hv := (ih v (by simp <;> omega)).1
      refine val ?_ (fun _ _ => rfl) (fun _ _ _ _ => rfl)
      by_cases hs : isSl i = true
      · obtain ⟨lo, hi, st, q, rfl⟩ := isSl_inv hs
        exact snd_slice hv (fun e h => by subst h; exact (ih e (by simp <;> omega)).1) (fun e h => by subst h; exact (ih e (by simp <;> omega)).1) (fun e h => by subst h; exact (ih e (by simp <;> omega)).1)
      · exact snd_sub (Bool.not_eq_true _ ▸ hs) hv (ih i (by simp <;> omega)).1
    | _ => exact noE fun sc => rfl
theorem sndE (W : X.Ok) (e : PySem.Expr) : SndE X e := (ev_sound W _ e (Nat.lt_succ_self _)).1
theorem sndT (W : X.Ok) (e : PySem.Expr) : SndT X e := (ev_sound W _ e (Nat.lt_succ_self _)).2
end
end Mine
end

section
open PySem PySem.W PyProof.Rows PySem.Calls PySem.SeqAt
set_option maxRecDepth 100000
set_option linter.unusedSimpArgs false
namespace Mine

noncomputable def isComp : PySem.Expr → Bool
  | .ListComp .. => true
  | _ => false

mutual
noncomputable def okS (kn : Str → Bool) : Scope → PySem.Stmt → Bool
  | sc, .Assign ts e _ => match ts with
    | [t] => (nameOf t).isSome && tgtIn sc t && okE kn sc e
    | _ => false
  | sc, .Expr e _ => okE kn sc e && !isComp e
  | sc, .Return v _ => match v with
    | some e => okE kn sc e
    | none => false
  | sc, .If t b o _ => okE kn sc t && okSs kn sc b && okSs kn sc o
  | sc, .While t b _ _ => okE kn sc t && okSs kn sc b
  | sc, .For t iter b _ _ => tgtIn sc t && okE kn sc iter && okSs kn sc b
  | _, .Break _ => true
  | _, _ => false
noncomputable def okSs (kn : Str → Bool) : Scope → List PySem.Stmt → Bool
  | _, [] => true
  | sc, s :: r => okS kn sc s && okSs kn sc r
end

inductive FlowR (n₀ : Heap) (ρ : Rho) (h : Heap) : AFlow → Flow → Prop
  | next : FlowR n₀ ρ h .next .next
  | brk : FlowR n₀ ρ h .brk .brk
  | ret {v : AV} {val : Value} : RelV n₀ ρ h v val → FlowR n₀ ρ h (.ret v) (.ret val)
theorem FlowR.nextE {n₀ : Heap} {ρ : Rho} {h : Heap} {f : Flow} (r : FlowR n₀ ρ h .next f) : f = .next := by cases r; rfl
theorem FlowR.brkE {n₀ : Heap} {ρ : Rho} {h : Heap} {f : Flow} (r : FlowR n₀ ρ h .brk f) : f = .brk := by cases r; rfl
theorem FlowR.retE {n₀ : Heap} {ρ : Rho} {h : Heap} {v : AV} {f : Flow} (r : FlowR n₀ ρ h (.ret v) f) : ∃ val, RelV n₀ ρ h v val ∧ f = .ret val := by
  cases r with
  | ret r => exact ⟨_, r, rfl⟩

/-- what is told behind a statement -/
noncomputable def KontS (X : Cx) (env : Env) (ρ : Rho) (s : Shared) (fl : AFlow) (m' : Loc) (σ' : Sto) (Q : Flow → Shared → Prop) : Prop :=
  ∀ f s' ρ', StepS (frM env) ρ s ρ' s' → St X.hB X.os X.N.acc env m' ρ' σ' s' → FlowR X.hB ρ' s'.heap fl f → Q f s'
noncomputable def SndS (X : Cx) (st : PySem.Stmt) : Prop :=
  ∀ m σ fl m' σ' A env ρ s Q, okS X.kn env.scope st = true → ex X.O m st σ = some (fl, m', σ') → AOk X.d A → St X.hB X.os X.N.acc env m ρ σ s → KontS X env ρ s fl m' σ' Q →
    wpAny (model X.prog X.w) A (exec st env) Q Fls s
noncomputable def SndSs (X : Cx) (ss : List PySem.Stmt) : Prop :=
  ∀ m σ fl m' σ' A env ρ s Q, okSs X.kn env.scope ss = true → exs X.O m ss σ = some (fl, m', σ') → AOk X.d A → St X.hB X.os X.N.acc env m ρ σ s → KontS X env ρ s fl m' σ' Q →
    wpAny (model X.prog X.w) A (execs ss env) Q Fls s

section
variable {X : Cx}

theorem KontS.step {env : Env} {ρ ρ1 : Rho} {s s1 : Shared} {fl : AFlow} {m' : Loc} {σ' : Sto} {Q : Flow → Shared → Prop} (K : KontS X env ρ s fl m' σ' Q) (x : StepS (frM env) ρ s ρ1 s1) : KontS X env ρ1 s1 fl m' σ' Q :=
  fun f s2 ρ2 T S r => K f s2 ρ2 (x.trans T) S r

theorem kOk_of {env : Env} {x : Str} (h : ownN env.scope x = true) : env.kindOf x = some .local ∨ env.kindOf x = some .cell := by
  rcases Bool.or_eq_true _ _ ▸ h with h | h
  · exact .inl (beqs h)
  · exact .inr (beqs h)
theorem tOk_of {env : Env} {t : PySem.Expr} (h : tgtIn env.scope t = true) : tOk env (fun _ => True) t :=
  ⟨fun _ e => ⟨kOk_of (tgtIn_name h e), trivial⟩, fun _ _ e => ⟨⟨kOk_of (tgtIn_pair h e).1, trivial⟩, kOk_of (tgtIn_pair h e).2, trivial⟩⟩

theorem isComp_inv {e : PySem.Expr} (h : isComp e = true) : ∃ elt gens scope p, e = .ListComp elt gens scope p := by
  refine Classical.byContradiction fun hn => ?_
  cases e with
  | ListComp elt gens scope p => exact hn ⟨_, _, _, _, rfl⟩
  | _ => exact ff h
theorem swaps_is {kn : Str → Bool} {env : Env} {e : PySem.Expr} {x : Str} {p : Pos} {line : Nat} (ok : okE kn env.scope e = true) : ∃ b, swapsWith e (some (.Name x p)) line env = pure b ∧ (b = true → isComp e = true) := by
  by_cases h : isComp e = true
  · obtain ⟨_, _, _, _, rfl⟩ := isComp_inv h
    exact ⟨_, rfl, fun _ => rfl⟩
  · refine ⟨false, ?_, fun h => by cases h⟩
    cases e <;> first | rfl | cases ok | exact absurd rfl h
theorem swaps_none {kn : Str → Bool} {env : Env} {e : PySem.Expr} {line : Nat} (ok : okE kn env.scope e = true) (h : isComp e = false) : swapsWith e none line env = pure false := by
  cases e <;> first | rfl | cases ok | cases h

theorem StepS.fr {P : Str → Prop} {env : Env} {ρ ρ' : Rho} {s s' : Shared} {hB : Heap} (x : StepS (tgtM env P) ρ s ρ' s') (F : FmOk hB env ρ' s'.heap) : StepS (frM env) ρ s ρ' s' :=
  x.weak (fun _ h => h.fr) fun _ h => F.frLies h

/-- a comprehension whose list is bound at once -/
theorem sns_comp {x : Str} {p' p : Pos} {elt : PySem.Expr} {gens : List Comprehension} {scope : Scope} {pos : Pos} (W : X.Ok) {m : Loc} {σ σ' : Sto} {v : AV} {A : Around} {env : Env} {ρ : Rho} {s : Shared} {Q : Flow → Shared → Prop}
    (hk : env.kindOf x = some .local ∨ env.kindOf x = some .cell) (ok : okE X.kn env.scope (.ListComp elt gens scope pos) = true) (e : ev X.O m (.ListComp elt gens scope pos) σ = some (v, σ')) (hA : AOk X.d A) (S : St X.hB X.os X.N.acc env m ρ σ s)
    (K : KontS X env ρ s .next (setL m x v) σ' Q) (hb : swapsWith (.ListComp elt gens scope pos) (some (.Name x p')) p.line env = pure true) : wpAny (model X.prog X.w) A (exec (.Assign [.Name x p'] (.ListComp elt gens scope pos) p) env) Q Fls s := by
  rw [exec_Assign_Name_used _ _ _ _ hb]
  rcases gens with _ | ⟨⟨t, iter, ifs, is⟩, _ | ⟨g2, gs⟩⟩
  · cases ok
  · obtain ⟨cp, ht, oki, okf, oke⟩ := and5 ok
    obtain ⟨rfl, src, σ1, ys, σ2, e2, hsrc, ec, rfl, rfl⟩ := comp_parts e
    refine wpAny_bind (wpAny_standAt (wpAny_bind ?_))
    rw [arm_evalThenUse_ListComp]
    refine wpAny_bind (Q := fun _ s' => wpAny (model X.prog X.w) A (pure Flow.next) Q Fls s') ?_
    refine comp_core (sndE W iter) (fun e _ => sndT W e) (sndE W elt) cp ht oki okf oke hA S e2 hsrc ec ?_
    intro ρ1 s1 D L ρ2 s2 mm T1 S1 T2 G2 hns nL nB sepL hlen
    have S2 := S1.step T2 G2
    have hr : RelV X.hB (ρ2 ++ [(D, D)]) s2.heap (.ref σ2.length) (.ref D) := by
      have : (ρ2 ++ [(D, D)])[σ2.length]? = some (D, D) := by
        rw [← hlen]; simp
      exact .ref (p := (D, D)) this
    refine wpAny_assign_Name (store_ok S2 hr hk fun _ s3 x3 S3 => ?_)
    have lL : env.locals ≠ L := fun e => by
      obtain ⟨mm1, o, es, ep, ho, _⟩ := S1.f.ns
      rw [e, nL] at ho; cases ho
    have cL : ∀ x c, env.cells.lookup x = some c → c ≠ L := fun x c hc e => by
      obtain ⟨_, u, o, ho, _⟩ := S1.f.cellAt x c hc
      rw [e, nL] at ho; cases ho
    have hn3 : s3.heap.Ns L mm := Ns.keepAt hns fun o e => x3.keep _ _ e fun h => by
      rcases h with ⟨q, hq, z⟩ | h | ⟨y, _, _, h⟩
      · exact (sepL q hq).1 z
      · exact lL h.symm
      · exact cL y L h rfl
    refine ⟨mm, hn3, fun h' hs => ?_⟩
    have k : KeepH (· = L) s3.heap h' := fun b o e n => (hs.2 b n).trans e
    have hm : ∀ b, b = L → Mut s3.heap b ∧ X.hB.get? b = none := fun b e => by subst e; exact ⟨Ns.mut hn3, nB⟩
    have S4 := S3.side k hm sepL lL cL s3.toks
    have a : StepS (frM env) ρ s (ρ2 ++ [(D, D)]) s3 := ((T1.trans T2).toS S.f).trans (x3.fr S3.f)
    refine wpAny_pure (wpAny_pure (K _ _ _ ⟨a.grow, fun b o e n => ?_, fun b h => ?_⟩ S4 .next))
    · refine k b o (a.keep b o e n) fun q => ?_
      subst q
      have e1 := T1.keep b o e fun z => n (.inl z)
      rw [nL] at e1; cases e1
    · rcases h with ⟨q, hq, rfl⟩ | h
      · obtain ⟨t', ht', _⟩ := a.grow
        exact S4.g.lies ⟨q, by rw [ht']; exact List.mem_append_left _ hq, rfl⟩
      · exact S4.f.frLies h
  · cases ok
theorem sns_assign {ts : List PySem.Expr} {p : Pos} {e : PySem.Expr} (W : X.Ok) : SndS X (.Assign ts e p) := by
  intro m σ fl m' σ' A env ρ s Q ok h hA S K
  rcases ts with _ | ⟨t, _ | ⟨_, _⟩⟩
  · cases ok
  · obtain ⟨_, ok1, ok2⟩ := and3 ok
    obtain ⟨x, hx, h1⟩ := bind1_inv h
    obtain ⟨v, σ1, e1, h2⟩ := bind2_inv h1
    cases h2
    have hk := kOk_of (tgtIn_name ok1 hx)
    obtain ⟨p', rfl⟩ := nameOf_inv hx
    obtain ⟨b, hb, hc⟩ := swaps_is (x := x) (p := p') (line := p.line) ok2
    cases b with
    | false =>
      refine wpAny_Assign_Name (sndE W e m σ v σ' A env ρ s _ ok2 e1 hA S fun val s1 ρ1 T1 G1 r1 => ?_) hb
      exact store_ok (S.step T1 G1) r1 hk fun _ s2 x2 S2 => K _ s2 ρ1 ((T1.toS S.f).trans (x2.fr S2.f)) S2 .next
    | true =>
      obtain ⟨elt, gens, scope, pos, rfl⟩ := isComp_inv (hc rfl)
      exact sns_comp W hk ok2 e1 hA S K hb
  · cases ok
end
end Mine
end

section
open PySem PySem.W PyProof.Rows PySem.Calls PySem.SeqAt
set_option maxRecDepth 100000
set_option linter.unusedSimpArgs false
namespace Mine
/-- what a turn's flow makes of a loop -/
noncomputable def loopEnd (go : Option (AFlow × Loc × Sto)) (m : Loc) (σ : Sto) : AFlow → Option (AFlow × Loc × Sto)
  | .next => go
  | .brk => some (.next, m, σ)
  | .ret r => some (.ret r, m, σ)
theorem loop_inv {go : Loc → Sto → Option (AFlow × Loc × Sto)} {o : Option (AFlow × Loc × Sto)} {r : AFlow × Loc × Sto} (e : (match o with
      | some (.next, m', σ'') => go m' σ''
      | some (.brk, m', σ'') => some (.next, m', σ'')
      | some (.ret r, m', σ'') => some (.ret r, m', σ'')
      | none => none) = some r) : ∃ fl m' σ', o = some (fl, m', σ') ∧ loopEnd (go m' σ') m' σ' fl = some r := by
  cases o with
  | none => cases e
  | some p =>
    obtain ⟨fl, m', σ'⟩ := p
    refine ⟨fl, m', σ', rfl, ?_⟩
    cases fl <;> exact e
theorem whileN_inv {test : Loc → Sto → Option (Bool × Sto)} {body : Loc → Sto → Option (AFlow × Loc × Sto)} {n : Nat} {m : Loc} {σ : Sto} {r : AFlow × Loc × Sto} (e : whileN test body (n + 1) m σ = some r) :
    ∃ c σ1, test m σ = some (c, σ1) ∧ if c then ∃ fl m' σ', body m σ1 = some (fl, m', σ') ∧ loopEnd (whileN test body n m' σ') m' σ' fl = some r else r = (.next, m, σ1) := by
  rw [whileN_eq] at e
  cases h : test m σ with
  | none => rw [h] at e; cases e
  | some p =>
    obtain ⟨c, σ1⟩ := p
    rw [h] at e
    refine ⟨c, σ1, rfl, ?_⟩
    cases c with
    | false => cases e; exact rfl
    | true => exact loop_inv (go := whileN test body n) e
theorem forN_inv {next : Nat → Sto → Option (Option AV)} {body : AV → Loc → Sto → Option (AFlow × Loc × Sto)} {n i : Nat} {m : Loc} {σ : Sto} {r : AFlow × Loc × Sto} (e : forN next body (n + 1) i m σ = some r) :
    (next i σ = some none ∧ r = (.next, m, σ)) ∨ ∃ v fl m' σ', next i σ = some (some v) ∧ body v m σ = some (fl, m', σ') ∧ loopEnd (forN next body n (i + 1) m' σ') m' σ' fl = some r := by
  rw [forN_eq] at e
  cases h : next i σ with
  | none => rw [h] at e; cases e
  | some u =>
    rw [h] at e
    cases u with
    | none => cases e; exact .inl ⟨rfl, rfl⟩
    | some v =>
      obtain ⟨fl, m', σ', h1, h2⟩ := loop_inv (go := forN next body n (i + 1)) e
      exact .inr ⟨v, fl, m', σ', rfl, h1, h2⟩
theorem exs_inv {O : Oracle} {m : Loc} {st : PySem.Stmt} {r : List PySem.Stmt} {σ : Sto} {q : AFlow × Loc × Sto} (e : exs O m (st :: r) σ = some q) : ∃ fl m' σ', ex O m st σ = some (fl, m', σ') ∧ (fl = .next → exs O m' r σ' = some q) ∧ (fl ≠ .next → q = (fl, m', σ')) := by
  have e : (match ex O m st σ with
    | some (.next, m', σ') => exs O m' r σ'
    | x => x) = some q := e
  cases h : ex O m st σ with
  | none => rw [h] at e; cases e
  | some p =>
    obtain ⟨fl, m', σ'⟩ := p
    rw [h] at e
    refine ⟨fl, m', σ', rfl, fun h => ?_, fun h => ?_⟩
    · subst h; exact e
    · cases fl with
      | next => exact absurd rfl h
      | brk => cases e; rfl
      | ret v => cases e; rfl

theorem up {α : Type} {M : Model} {A : Around} {c : Sem α} {Q : α → Shared → Prop} {E : Value → Shared → Prop} {s : Shared} (h : wpAny M A c Q Fls s) : wpAny M A c Q E s :=
  wpAny_mono h (fun _ _ x => x) fun _ _ f => f.elim
section
variable {X : Cx}

theorem sns_expr {e : PySem.Expr} {p : Pos} (W : X.Ok) : SndS X (.Expr e p) := by
  intro m σ fl m' σ' A env ρ s Q ok h hA S K
  obtain ⟨ok, hc⟩ := and2 ok
  obtain ⟨v, σ1, e1, h1⟩ := bind2_inv h
  cases h1
  exact wpAny_Expr_any (sndE W e m σ v σ' A env ρ s _ ok e1 hA S fun val s1 ρ1 T1 G1 r1 => K _ s1 ρ1 (T1.toS S.f) (S.step T1 G1) .next) (by unfold interactive; rw [S.f.kind]; rfl) (swaps_none ok (by simpa using hc))

theorem sns_return {v : Option PySem.Expr} {p : Pos} (W : X.Ok) : SndS X (.Return v p) := by
  intro m σ fl m' σ' A env ρ s Q ok h hA S K
  cases v with
  | none => cases ok
  | some e =>
    obtain ⟨v, σ1, e1, h1⟩ := bind2_inv h
    cases h1
    exact wpAny_Return_some (sndE W e m σ v σ' A env ρ s _ ok e1 hA S fun val s1 ρ1 T1 G1 r1 => K _ s1 ρ1 (T1.toS S.f) (S.step T1 G1) (.ret r1))

theorem sns_break {p : Pos} : SndS X (.Break p) := by
  intro m σ fl m' σ' A env ρ s Q ok h hA S K
  cases h
  exact wpAny_Break (K _ s ρ ((Step.refl S.g).toS S.f) S .brk)

theorem sns_if {t : PySem.Expr} {b o : List PySem.Stmt} {p : Pos} (W : X.Ok) (hb : SndSs X b) (ho : SndSs X o) : SndS X (.If t b o p) := by
  intro m σ fl m' σ' A env ρ s Q ok h hA S K
  obtain ⟨okt, okb, oko⟩ := and3 ok
  obtain ⟨c, σ1, h1, h2⟩ := bind2_inv h
  refine wpAny_If (sndT W t m σ c σ1 A env ρ s _ okt h1 hA S fun s1 ρ1 T1 G1 => ?_)
  cases c with
  | true => exact hb m σ1 fl m' σ' A env ρ1 s1 Q okb h2 hA (S.step T1 G1) (K.step (T1.toS S.f))
  | false => exact ho m σ1 fl m' σ' A env ρ1 s1 Q oko h2 hA (S.step T1 G1) (K.step (T1.toS S.f))

theorem sns_nil : SndSs X [] := by
  intro m σ fl m' σ' A env ρ s Q ok h hA S K
  cases h
  exact wpAny_execs_nil (K _ s ρ ((Step.refl S.g).toS S.f) S .next)
theorem sns_cons {st : PySem.Stmt} {r : List PySem.Stmt} (h1 : SndS X st) (h2 : SndSs X r) : SndSs X (st :: r) := by
  intro m σ fl m' σ' A env ρ s Q ok h hA S K
  have ok := and2 (a := okS X.kn env.scope st) ok
  obtain ⟨f1, m1, σ1, e1, hn, hs⟩ := exs_inv h
  refine wpAny_execs_cons (h1 m σ f1 m1 σ1 A env ρ s _ ok.1 e1 hA S fun f s1 ρ1 T1 S1 r1 => ?_)
  cases f1 with
  | next => rw [r1.nextE]; exact h2 m1 σ1 fl m' σ' A env ρ1 s1 Q ok.2 (hn rfl) hA S1 (K.step T1)
  | brk => cases hs (by intro h; cases h); rw [r1.brkE]; exact K _ s1 ρ1 T1 S1 .brk
  | ret v =>
    cases hs (by intro h; cases h)
    obtain ⟨val, r, rfl⟩ := r1.retE
    exact K _ s1 ρ1 T1 S1 (.ret r)


/-- the flow behind a turn of a loop -/
noncomputable def flowTo (P : Prop) (R : Flow → Prop) : Flow → Prop
  | .next | .cont => P
  | .brk => R .next
  | .ret v => R (.ret v)
theorem while_end {n₀ : Heap} {ρ : Rho} {h : Heap} {fl : AFlow} {f : Flow} {P : Prop} {R : Flow → Prop} (r : FlowR n₀ ρ h fl f) (h1 : fl = .next → P) (h2 : fl = .brk → R .next) (h3 : ∀ v val, fl = .ret v → RelV n₀ ρ h v val → R (.ret val)) :
    flowTo P R f := by
  cases fl with
  | next => rw [r.nextE]; exact h1 rfl
  | brk => rw [r.brkE]; exact h2 rfl
  | ret v =>
    obtain ⟨val, rv, rfl⟩ := r.retE
    exact h3 v val rfl rv
/-- where a while loop stands -/
inductive WhileAt (X : Cx) (t : PySem.Expr) (b : List PySem.Stmt) (env : Env) (ρ : Rho) (s : Shared) (q : AFlow × Loc × Sto) (n : Nat) (s' : Shared) : Prop
  | mk (m1 : Loc) (σ1 : Sto) (ρ1 : Rho) (e : whileN (fun m σ => tr X.O m t σ (ev X.O m t σ)) (fun m σ => exs X.O m b σ) n m1 σ1 = some q) (T : StepS (frM env) ρ s ρ1 s') (S : St X.hB X.os X.N.acc env m1 ρ1 σ1 s')
theorem while_turn {t : PySem.Expr} {b : List PySem.Stmt} (W : X.Ok) (hb : SndSs X b) {A : Around} {env : Env} {ρ : Rho} {s : Shared} {fl : AFlow} {m' : Loc} {σ' : Sto} (hA : AOk X.d A) (okt : okE X.kn env.scope t = true) (okb : okSs X.kn env.scope b = true)
    {R : Flow → Shared → Prop} (K : KontS X env ρ s fl m' σ' R) {n : Nat} {s1 : Shared} (h : WhileAt X t b env ρ s (fl, m', σ') n s1) {P : Bool → Shared → Prop}
    (K0 : ∀ s2, R .next s2 → P false s2) (K1 : ∀ s2, wpAny (model X.prog X.w) A (execs b env) (fun f s₃ => flowTo (∃ k, k < n ∧ WhileAt X t b env ρ s (fl, m', σ') k s₃) (fun f => R f s₃) f) Fls s2 → P true s2) : wpAny (model X.prog X.w) A (isTrue t env (eval t env)) P Fls s1 := by
  obtain ⟨m1, σ1, ρ1, e, T1, S1⟩ := h
  cases n with
  | zero => cases e
  | succ n =>
    obtain ⟨c, σ2, h1, h2⟩ := whileN_inv e
    refine sndT W t m1 σ1 c σ2 A env ρ1 s1 _ okt h1 hA S1 fun s2 ρ2 T2 G2 => ?_
    have S2 := S1.step T2 G2
    have T12 := T1.trans (T2.toS S1.f)
    cases c with
    | false =>
      cases h2
      exact K0 s2 (K _ s2 ρ2 T12 S2 .next)
    | true =>
      obtain ⟨f2, m2, σ3, h3, h4⟩ := h2
      refine K1 s2 (hb m1 σ2 f2 m2 σ3 A env ρ2 s2 _ okb h3 hA S2 fun f s3 ρ3 T3 S3 r3 => while_end (R := fun f => R f s3) r3 (fun q => ?_) (fun q => ?_) fun v val q rv => ?_)
      · subst q; exact ⟨n, Nat.lt_succ_self n, m2, σ3, ρ3, h4, T12.trans T3, S3⟩
      · subst q; cases h4; exact K _ s3 ρ3 (T12.trans T3) S3 .next
      · subst q; cases h4; exact K _ s3 ρ3 (T12.trans T3) S3 (.ret rv)
theorem sns_while {t : PySem.Expr} {b o : List PySem.Stmt} {p : Pos} (W : X.Ok) (hb : SndSs X b) : SndS X (.While t b o p) := by
  intro m σ fl m' σ' A env ρ s Q ok h hA S K
  obtain ⟨okt, okb⟩ := and2 ok
  obtain ⟨ho, h⟩ := guard_inv h
  cases o with
  | cons _ _ => cases ho
  | nil =>
    exact wpAny_While (codeAny_whileLoop (WhileAt X t b env ρ s (fl, m', σ')) (fun n s1 h => up (while_turn W hb hA okt okb K h (fun s2 h => wpAny_execs_nil h) fun s2 h => up h)) 100 ⟨m, σ, ρ, h, (Step.refl S.g).toS S.f, S⟩)

/-- where a loop over a source stands -/
structure ForAt (X : Cx) (env : Env) (ρ₁ : Rho) (s₁ : Shared) (src : AV) (I : Addr) (i : Nat) (m : Loc) (ρ : Rho) (σ : Sto) (s : Shared) : Prop where
  t : StepS (frM env) ρ₁ s₁ ρ s
  S : St X.hB X.os X.N.acc env m ρ σ s
  it : ItAt ρ s.heap src i I
  sep : ∀ p ∈ ρ, p.1 ≠ I ∧ p.2 ≠ I
structure NewAt (X : Cx) (env : Env) (s₁ : Shared) (I : Addr) : Prop where
  n : s₁.heap.get? I = none
  i0 : X.hB.get? I = none
  l : env.locals ≠ I
  c : ∀ x c, env.cells.lookup x = some c → c ≠ I
theorem ForAt.side {env : Env} {ρ₁ ρ : Rho} {s₁ s : Shared} {src : AV} {I : Addr} {i : Nat} {m : Loc} {σ : Sto} (F : ForAt X env ρ₁ s₁ src I i m ρ σ s) (a : NewAt X env s₁ I) {h' : Heap} (hx : Heap.ExtBut I s.heap h') (tk : Nat) :
    StepS (frM env) ρ₁ s₁ ρ { s with heap := h', toks := tk } ∧ St X.hB X.os X.N.acc env m ρ σ { s with heap := h', toks := tk } ∧ ∀ {v val}, RelV X.hB ρ s.heap v val → RelV X.hB ρ h' v val := by
  have k : KeepH (· = I) s.heap h' := fun b o e n => hx b o n e
  have hm : ∀ b, b = I → Mut s.heap b ∧ X.hB.get? b = none := fun b e => by
    subst e
    refine ⟨fun o ho => ?_, a.i0⟩
    obtain ⟨o', fs, h1, h2, h3, h4⟩ := F.it.lies
    rw [h1] at ho; cases ho
    exact .inl ⟨h3, h4⟩
  have S3 := F.S.side k hm F.sep a.l a.c tk
  refine ⟨⟨F.t.grow, fun b o e n => k b o (F.t.keep b o e n) fun z => (by rw [z, a.n] at e; cases e), fun b h => ?_⟩, S3, fun r => r.mono k hm (n := s.heap) .refl⟩
  rcases h with ⟨q, hq, rfl⟩ | h
  · obtain ⟨t', ht', _⟩ := F.t.grow
    exact S3.g.lies ⟨q, by rw [ht']; exact List.mem_append_left _ hq, rfl⟩
  · exact S3.f.frLies h
theorem ForAt.go {env : Env} {ρ₁ ρ ρ' : Rho} {s₁ s s' : Shared} {src : AV} {I : Addr} {i : Nat} {m m' : Loc} {σ σ' : Sto} (F : ForAt X env ρ₁ s₁ src I i m ρ σ s) (a : NewAt X env s₁ I) (x : StepS (frM env) ρ s ρ' s') (S' : St X.hB X.os X.N.acc env m' ρ' σ' s') :
    ForAt X env ρ₁ s₁ src I i m' ρ' σ' s' := by
  refine ⟨F.t.trans x, S', F.it.keep (fun o e => x.keep _ _ e fun z => ?_) x.grow, fun p hp => ?_⟩
  · rcases z with ⟨q, hq, z⟩ | z | ⟨y, _, _, z⟩
    · exact (F.sep q hq).1 z
    · exact a.l z.symm
    · exact a.c y I z rfl
  · obtain ⟨oI, _, hI, _⟩ := F.it.lies
    rcases x.grow.mem hp with q | q
    · exact F.sep p q
    · exact ⟨fun e => (by rw [e, hI] at q; cases q.1), fun e => (by rw [e, hI] at q; cases q.2)⟩

/-- where a for loop stands -/
inductive ForI (X : Cx) (t : PySem.Expr) (b : List PySem.Stmt) (env : Env) (ρ₁ : Rho) (s₁ : Shared) (src : AV) (I : Addr) (q : AFlow × Loc × Sto) (n : Nat) (s : Shared) : Prop
  | mk (i : Nat) (m : Loc) (ρ : Rho) (σ : Sto) (e : forN (nextOf src) (fun v m σ => bind1 (bindT t v m) fun m' => exs X.O m' b σ) n i m σ = some q) (F : ForAt X env ρ₁ s₁ src I i m ρ σ s)
theorem for_turn {t : PySem.Expr} {b : List PySem.Stmt} (hb : SndSs X b) {fl : AFlow} {m' : Loc} {σ' : Sto} {A : Around} {env : Env} {ρ₁ : Rho} {s₁ : Shared} {src : AV} {σ₁ : Sto} {I : Addr} (hA : AOk X.d A) (ht : tgtIn env.scope t = true) (okb : okSs X.kn env.scope b = true)
    (hsrc : srcOk t src σ₁ = true) (a : NewAt X env s₁ I) {R : Flow → Shared → Prop} (K : KontS X env ρ₁ s₁ fl m' σ' R) {n : Nat} {s : Shared} (h : ForI X t b env ρ₁ s₁ src I (fl, m', σ') n s) {P : Option Value → Shared → Prop}
    (K0 : ∀ s2, R .next s2 → P none s2) (K1 : ∀ val s2, (∀ {E : Value → Shared → Prop}, wpAny (model X.prog X.w) A (letOwnedTupleGo t (.ref I) val) (fun _ s₁' => wpAny (model X.prog X.w) A (assign t env val) (fun _ s₂ => wpAny (model X.prog X.w) A (execs b env) (fun f s₃ => flowTo (∃ k, k < n ∧ ForI X t b env ρ₁ s₁ src I (fl, m', σ') k s₃) (fun f => R f s₃) f) E s₂) E s₁') E s2) → P (some val) s2) : wpAny (model X.prog X.w) A (pyNext (.ref I)) P Fls s := by
  obtain ⟨i, m, ρ, σ, e, F⟩ := h
  cases n with
  | zero => cases e
  | succ n =>
    rcases forN_inv e with ⟨hn, hy⟩ | ⟨v, f3, m3, σ3, hn, hF, e⟩
    · cases hy
      refine next_ok hn hA.handled F.S.g F.it fun h' tk hx => ?_
      obtain ⟨T', S', _⟩ := F.side a hx tk
      exact K0 _ (K _ _ ρ T' S' .next)
    · obtain ⟨mb, hb', hF⟩ := bind1_inv hF
      refine next_ok hn hA.handled F.S.g F.it fun h' tk hx val rv hit => K1 _ _ fun {E} => ?_
      obtain ⟨T', S', rel⟩ := F.side a hx tk
      refine go_ok hb' hsrc (rel rv) hit (up (assign_ok hb' hA.handled S' (rel rv) (tOk_of ht) fun _ s4 x4 S4 => ?_))
      refine up (hb mb σ f3 m3 σ3 A env ρ s4 _ okb hF hA S4 fun f s5 ρ5 T5 S5 r5 => ?_)
      have F5 : ForAt X env ρ₁ s₁ src I (i + 1) m3 ρ5 σ3 s5 := ForAt.go (s := { s with heap := h', toks := tk }) ⟨T', S', hit, F.sep⟩ a (StepS.trans x4 T5) S5
      refine while_end (R := fun f => R f s5) r5 (fun q => ?_) (fun q => ?_) fun v val q rv => ?_
      · subst q; exact ⟨n, Nat.lt_succ_self n, i + 1, m3, ρ5, σ3, e, F5⟩
      · subst q; cases e; exact K _ s5 ρ5 F5.t S5 .next
      · subst q; cases e; exact K _ s5 ρ5 F5.t S5 (.ret rv)
theorem for_walk {t : PySem.Expr} {b : List PySem.Stmt} (hb : SndSs X b) {fl : AFlow} {m' : Loc} {σ' : Sto} {A : Around} {env : Env} {ρ₁ : Rho} {s₁ : Shared} {R : Result → Shared → Prop} {src : AV} {σ₁ : Sto} {I : Addr} (hA : AOk X.d A) (ht : tgtIn env.scope t = true) (okb : okSs X.kn env.scope b = true)
    (hsrc : srcOk t src σ₁ = true) (a : NewAt X env s₁ I) (K : KontS X env ρ₁ s₁ fl m' σ' fun f s' => R (.ok f) s') (n : Nat) {i : Nat} {m : Loc} {ρ : Rho} {σ : Sto} {s : Shared} (e : forN (nextOf src) (fun v m σ => bind1 (bindT t v m) fun m' => exs X.O m' b σ) n i m σ = some (fl, m', σ')) (F : ForAt X env ρ₁ s₁ src I i m ρ σ s) :
    codeAny (model X.prog X.w) A (.forLoop t (.ref I) b [] env) R s :=
  codeAny_forLoop_any (ForI X t b env ρ₁ s₁ src I (fl, m', σ')) (fun n s h => up (for_turn hb hA ht okb hsrc a (R := fun f s => R (.ok f) s) K h (fun s2 h => wpAny_execs_nil h) fun val s2 h => h)) n ⟨i, m, ρ, σ, e, F⟩

theorem sns_for {t iter : PySem.Expr} {b o : List PySem.Stmt} {p : Pos} (W : X.Ok) (hb : SndSs X b) : SndS X (.For t iter b o p) := by
  intro m σ fl m' σ' A env ρ s Q ok h hA S K
  obtain ⟨ht, oki, okb⟩ := and3 ok
  obtain ⟨ho, h⟩ := guard_inv h
  cases o with
  | cons _ _ => cases ho
  | nil =>
    obtain ⟨src, σ1, e1, h1⟩ := bind2_inv h
    obtain ⟨hsrc, h2⟩ := guard_inv h1
    refine wpAny_For (sndE W iter m σ src σ1 A env ρ s _ oki e1 hA S fun xv s1 ρ1 T1 G1 r1 => ?_) (okE_noSet oki env)
    have S1 := S.step T1 G1
    refine iter_ok hsrc G1 r1 fun ha I ka nI hit => ?_
    have a : NewAt X env s1 I := by
      refine ⟨nI, G1.noneB nI, fun e => ?_, fun x c hc e => ?_⟩
      · obtain ⟨mm1, o, es, ep, ho, _⟩ := S1.f.ns
        rw [e, nI] at ho; cases ho
      · obtain ⟨_, u, o, ho, _⟩ := S1.f.cellAt x c hc
        rw [e, nI] at ho; cases ho
    have F : ForAt X env ρ1 s1 src I 0 m ρ1 σ1 { s1 with heap := ha } := by
      refine ⟨(Step.keeps G1 ka s1.toks).toS S1.f, S1.step (Step.keeps G1 ka s1.toks) (G1.keeps ka s1.toks), hit, fun p hp => ?_⟩
      have a := G1.lies ⟨p, hp, rfl⟩
      have b := G1.two p hp
      exact ⟨fun e => (by rw [e, nI] at a; cases a), fun e => (by rw [e, nI] at b; cases b)⟩
    exact for_walk hb hA ht okb hsrc a (K.step (T1.toS S.f)) _ h2 F

theorem ex_sound (W : X.Ok) : ∀ (n : Nat), (∀ st : PySem.Stmt, sizeOf st < n → SndS X st)
  | 0 => fun st h => absurd h (Nat.not_lt_zero _)
  | n + 1 => fun st h => by
    have ihl : ∀ (ss : List PySem.Stmt), sizeOf ss < sizeOf st → SndSs X ss := by
      intro ss
      induction ss with
      | nil => intro _; exact sns_nil
      | cons a r ih =>
        intro h'
        simp at h'
        exact sns_cons (ex_sound W n a (by omega)) (ih (by omega))
    have no : (∀ sc, okS X.kn sc st = false) → SndS X st := fun h => by
      intro m σ fl m' σ' A env ρ s Q ok
      rw [h] at ok; cases ok
    cases st with
    | Assign ts e p => exact sns_assign W
    | Expr e p => exact sns_expr W
    | Return v p => exact sns_return W
    | Break p => exact sns_break
    | If t b o p => exact sns_if W (ihl b (by simp <;> omega)) (ihl o (by simp <;> omega))
    | While t b o p => exact sns_while W (ihl b (by simp <;> omega))
    | For t iter b o p => exact sns_for W (ihl b (by simp <;> omega))
    | _ => exact no fun _ => rfl
theorem sndSs (W : X.Ok) : ∀ ss : List PySem.Stmt, SndSs X ss
  | [] => sns_nil
  | a :: r => sns_cons (ex_sound W _ a (Nat.lt_succ_self _)) (sndSs W r)
end
end Mine
end

section
open PySem PySem.W PyProof.Rows PySem.Calls PySem.SeqAt
set_option maxRecDepth 100000
set_option linter.unusedSimpArgs false
namespace Mine

/-- a def that lies at the start -/
structure FnAt (hB : Heap) (a : Addr) (fn : Fn) (o : Obj) (fd : FuncData) : Prop where
  at_ : hB.get? a = some o
  data : o.data = .func fd
  body : fd.body = .stmts fn.body
  clo : fd.closure = []
  glob : fd.globals = mainGlobals
  bui : fd.builtins = builtinsNs
  kind : fd.scope.kind = .function
  co : fd.scope.isCoroutine = false
  gen : fd.scope.isGenerator = false
  code : hB.CodeRec fd.code fd.qualname
  bind : ∀ vals : List Value, vals.length = fn.params.length → bindArgs fd ⟨vals, []⟩ = pure (fn.params.zip vals)
  nodup : fn.params.Nodup
  noFree : ∀ x ∈ fd.scope.names, x.2 ≠ .free
  names : (fd.scope.names.map (·.1)).Nodup
  par : ∀ x ∈ fn.params, fd.scope.names.lookup x = some .local ∨ fd.scope.names.lookup x = some .cell

theorem zip_lookup {n₀ : Heap} {ρ : Rho} {h : Heap} : ∀ {ps : List Str} {vs : List AV} {vals : List Value} {x : Str} {v : AV}, RelVs n₀ ρ h vs vals → ps.Nodup → (ps.zip vs).lookup x = some v → x ∈ ps ∧ ∃ val, (x, val) ∈ ps.zip vals ∧ RelV n₀ ρ h v val
  | [], _, _, x, v, _, _, e => by simp at e
  | p :: ps, [], _, x, v, _, _, e => by simp at e
  | p :: ps, w :: vs, _, x, v, .cons r rs, hn, e => by
    rw [List.zip_cons_cons, List.lookup_cons] at e
    cases hb : x == p with
    | true =>
      rw [hb] at e; cases e
      rw [beq_iff_eq.mp hb]
      exact ⟨List.mem_cons_self, _, List.mem_cons_self, r⟩
    | false =>
      rw [hb] at e
      obtain ⟨a, val, b, c⟩ := zip_lookup rs (List.nodup_cons.mp hn).2 e
      exact ⟨List.mem_cons_of_mem _ a, val, List.mem_cons_of_mem _ b, c⟩

theorem bindL_at (k : Str → Option NameKind) : ∀ (l : List (Str × Value)) (m : Str → Option Value) (x : Str) (v : Value), (l.map (·.1)).Nodup → (x, v) ∈ l → k x = some .local → bindL k l m x = some v
  | [], m, x, v, _, h, _ => by cases h
  | (n, w) :: r, m, x, v, hn, h, hk => by
    rw [List.map_cons, List.nodup_cons] at hn
    have skip : ∀ (r : List (Str × Value)) (m : Str → Option Value), x ∉ r.map (·.1) → bindL k r m x = m x := by
      intro r
      induction r with
      | nil => intro m _; rfl
      | cons p r ih =>
        intro m hx
        obtain ⟨n, w⟩ := p
        rw [List.map_cons, List.mem_cons, not_or] at hx
        unfold bindL
        rw [ih _ hx.2]
        split
        · exact if_neg hx.1
        · rfl
    unfold bindL
    rcases List.mem_cons.mp h with e | e
    · cases e
      rw [if_pos hk, skip r _ hn.1, if_pos rfl]
    · exact bindL_at k r _ x v hn.2 e hk
theorem bindC_at (k : Str → Option NameKind) : ∀ (l : List (Str × Value)) (m : Str → Option Value) (x : Str) (v : Value), (l.map (·.1)).Nodup → (x, v) ∈ l → k x ≠ some .local → bindC k l m x = some v
  | [], m, x, v, _, h, _ => by cases h
  | (n, w) :: r, m, x, v, hn, h, hk => by
    rw [List.map_cons, List.nodup_cons] at hn
    have skip : ∀ (r : List (Str × Value)) (m : Str → Option Value), x ∉ r.map (·.1) → bindC k r m x = m x := by
      intro r
      induction r with
      | nil => intro m _; rfl
      | cons p r ih =>
        intro m hx
        obtain ⟨n, w⟩ := p
        rw [List.map_cons, List.mem_cons, not_or] at hx
        unfold bindC
        rw [ih _ hx.2]
        split
        · rfl
        · exact if_neg hx.1
    unfold bindC
    rcases List.mem_cons.mp h with e | e
    · cases e
      rw [if_neg hk, skip r _ hn.1, if_pos rfl]
    · exact bindC_at k r _ x v hn.2 e hk

theorem AOk.deeper {d : Nat} {A : Around} (h : AOk (d + 1) A) (env : Env) : AOk d (A.deeper env) := by
  obtain ⟨a, b, c⟩ := h
  refine ⟨a, ?_, ?_⟩
  · show A.depth + 1 + d ≤ 900
    omega
  · show A.units + 3 + 40 * d + 40 ≤ 9000
    omega

theorem zip_fst {α β : Type} : ∀ (a : List α) (b : List β), a.length = b.length → (a.zip b).map (·.1) = a
  | [], [], _ => rfl
  | x :: a, y :: b, h => by simp at h; simp [zip_fst a b h]

section
variable {X : Cx}

/-- into a def of the text -/
theorem call_enter {fn : Fn} {a : Addr} {o : Obj} {fd : FuncData} (F : FnAt X.hB a fn o fd) (hlim : X.hB.NoLimit) {vs : List AV} {σ σ' : Sto} {v : AV} {A : Around} {ρ : Rho} {s : Shared} {vals : List Value} (hl : fn.params.length = vs.length)
    (hA : AOk (X.d + 1) A) (G : StG X.hB X.os X.N.acc ρ σ s) (R : RelVs X.hB ρ s.heap vs vals)
    {Q : Value → Shared → Prop} (K : KontG X.hB X.os X.N.acc ρ s v σ' Q)
    (h : ∀ env s₁ Q', env.scope = fd.scope → St X.hB X.os X.N.acc env (fn.params.zip vs) ρ σ s₁ → (∀ fl m', (match fl with | .ret u => u = v | .next => v = .none | .brk => False) → KontS X env ρ s₁ fl m' σ' Q') → wpAny (model X.prog X.w) (A.deeper env) (execs fn.body env) Q' Fls s₁) :
    wpAny (model X.prog X.w) A (call (.ref a) vals) Q Fls s := by
  have hlv := R.length
  have hnz : ((fn.params.zip vals).map (·.1)).Nodup := by rw [zip_fst _ _ (by omega)]; exact F.nodup
  have memp : ∀ x ∈ fn.params.zip vals, x.1 ∈ fn.params := fun x hx => (List.of_mem_zip hx).1
  refine wpAny_call (codeAny_call_cells hA.room (G.base _ _ F.at_) F.data ?_ (F.code.keeps G.base) F.body (F.bind vals (by omega)) F.clo (fun x hx => ?_) (fun s₁ I => ?_) F.co F.gen F.kind)
  · obtain ⟨mc, h1, h2⟩ := hlim
    exact ⟨mc, h1.keeps G.base, h2⟩
  · rcases F.par x.1 (memp x hx) with h | h
    · exact .inl h
    · refine .inr ⟨h, ?_⟩
      obtain ⟨c, hc⟩ := cellsFrom_has fd.scope.names (s.heap.objs.size + 1) x.1 (mem_of_lookup h)
      obtain ⟨c', hc'⟩ := lookup_of_mem hc
      rw [hc']; rfl
  · generalize hE : callEnvC fd s.heap.objs.size a = env at I ⊢
    have hsc : env.scope = fd.scope := by subst hE; rfl
    have hloc : env.locals = s.heap.objs.size := by subst hE; rfl
    have hcl : env.cells = cellsFrom (s.heap.objs.size + 1) fd.scope.names [] := by subst hE; rfl
    have hki : ∀ x, env.kindOf x = fd.scope.names.lookup x := fun x => by subst hE; rfl
    have sz : s.heap.get? s.heap.objs.size = none := get_size _
    have newC : ∀ x c, env.cells.lookup x = some c → s.heap.get? c = none := fun x c h => by
      have h1 := I.above x c (mem_of_lookup h)
      rw [hloc] at h1
      cases e : s.heap.get? c with
      | none => rfl
      | some o => exact absurd (Nat.lt_trans h1 (Heap.lt_size e)) (Nat.lt_irrefl _)
    obtain ⟨h', tk, rfl⟩ := I.toInCall.same
    have keep : ∀ b o, s.heap.get? b = some o → h'.get? b = some o := I.toInCall.keep
    have G1 := G.keeps keep tk
    have T1 := Step.keeps G keep tk
    have S1 : St X.hB X.os X.N.acc env (fn.params.zip vs) ρ σ { s with heap := h', toks := tk } := by
      refine ⟨G1, ⟨hsc ▸ F.kind, (by subst hE; exact F.glob), (by subst hE; exact F.bui), ⟨_, I.toInCall.ns⟩, G.noneB (hloc ▸ sz), fun x h => ?_, fun x c h => ⟨G.noneB (newC x c h), _, I.cell x c h⟩,
        fun x y c hx hy => name_of_addr I.apart (mem_of_lookup hx) (mem_of_lookup hy), fun p hp => ?_, fun p hp x c h => ?_⟩, fun x u hx => ?_⟩
      · rw [hki] at h
        rcases h with h | h
        · rw [hcl]
          obtain ⟨c, hc⟩ := cellsFrom_has fd.scope.names (s.heap.objs.size + 1) x (mem_of_lookup h)
          exact lookup_of_mem hc
        · exact absurd rfl (F.noFree _ (mem_of_lookup h))
      · have q1 := G.lies ⟨p, hp, rfl⟩
        have q2 := G.two p hp
        exact ⟨fun e => (by rw [e, hloc, sz] at q1; cases q1), fun e => (by rw [e, hloc, sz] at q2; cases q2)⟩
      · have q1 := G.lies ⟨p, hp, rfl⟩
        have q2 := G.two p hp
        have n := newC x c h
        exact ⟨fun e => (by rw [e, n] at q1; cases q1), fun e => (by rw [e, n] at q2; cases q2)⟩
      · obtain ⟨hm, val, hv, r⟩ := zip_lookup R F.nodup hx
        refine ⟨val, ?_, T1.rel G r⟩
        rcases F.par x hm with h | h
        · exact .inl ⟨(hki x).trans h, _, I.toInCall.ns, bindL_at _ _ _ x val hnz hv ((hki x).trans h)⟩
        · obtain ⟨c, hc⟩ := cellsFrom_has fd.scope.names (s.heap.objs.size + 1) x (mem_of_lookup h)
          obtain ⟨c', hc'⟩ := lookup_of_mem hc
          rw [← hcl] at hc'
          have := I.cell x c' hc'
          rw [bindC_at _ _ _ x val hnz hv (by rw [hki, h]; simp)] at this
          exact .inr ⟨.inl ((hki x).trans h), c', hc', this⟩
    refine wpAny_mono (h env _ (fun f s' => ∃ val, (f = .ret val ∨ (f = .next ∧ val = .none)) ∧ Q val s') hsc S1 fun fl m' hv f s' ρ' T S r => ?_) (fun f s' ⟨val, hf, hq⟩ => ?_) fun _ _ f => f.elim
    · have T' : Step ρ s ρ' s' := T1.more T (fun b hb => by
        rcases hb with rfl | ⟨x, _, _, h⟩
        · rw [hloc]; exact sz
        · exact newC x b h)
      cases fl with
      | brk => exact hv.elim
      | next => subst hv; exact ⟨.none, .inr ⟨r.nextE, rfl⟩, K _ s' ρ' T' S.g .none⟩
      | ret u =>
        subst hv
        obtain ⟨val, r2, rfl⟩ := r.retE
        exact ⟨val, .inl rfl, K _ s' ρ' T' S.g r2⟩
    · rcases hf with rfl | ⟨rfl, rfl⟩ <;> exact hq

/-- a call of a def of the text -/
theorem callFn_inv {O : Oracle} {fn : Fn} {vs : List AV} {σ σ' : Sto} {v : AV} (e : callFn O fn vs σ = some (v, σ')) : fn.params.length = vs.length ∧ ∃ fl m', exs O (fn.params.zip vs) fn.body σ = some (fl, m', σ') ∧ match fl with | .ret u => u = v | .next => v = .none | .brk => False := by
  unfold callFn at e
  obtain ⟨hl, e⟩ := guard_inv e
  refine ⟨hl, ?_⟩
  cases hx : exs O (fn.params.zip vs) fn.body σ with
  | none => rw [hx] at e; exact nn e
  | some q =>
    obtain ⟨fl, m', σ1⟩ := q
    rw [hx] at e
    cases fl with
    | brk => exact nn e
    | next => replace e : some (AV.none, σ1) = some (v, σ') := e; cases e; exact ⟨.next, m', rfl, rfl⟩
    | ret u => replace e : some (u, σ1) = some (v, σ') := e; cases e; exact ⟨.ret v, m', rfl, rfl⟩
theorem call_fn (W : X.Ok) {fn : Fn} {a : Addr} {o : Obj} {fd : FuncData} (F : FnAt X.hB a fn o fd) (ok : okSs X.kn fd.scope fn.body = true) (hlim : X.hB.NoLimit) {vs : List AV} {σ σ' : Sto} {v : AV} (e : callFn X.O fn vs σ = some (v, σ')) {A : Around} {ρ : Rho} {s : Shared} {vals : List Value} (hA : AOk (X.d + 1) A)
    (G : StG X.hB X.os X.N.acc ρ σ s) (R : RelVs X.hB ρ s.heap vs vals) : wpAny (model X.prog X.w) A (call (.ref a) vals) (PostV X.hB X.os X.N.acc ρ s v σ') Fls s := by
  obtain ⟨hl, fl, m', hx, hv⟩ := callFn_inv e
  exact call_enter F hlim hl hA G R PostV.kont fun env s₁ Q' hsc S1 K' => sndSs W fn.body _ σ fl m' σ' (A.deeper env) env ρ _ _ (hsc ▸ ok) hx (hA.deeper env) S1 (K' fl m' hv)

/-- the rarer calls, at the machine -/
noncomputable def POk (prog : Program) (w : World) (hB : Heap) (os : OsState) (N : Nm) (d : Nat) (pr : Oracle) : Prop :=
  ∀ f vs σ v σ', pr f vs σ = some (v, σ') → ∀ (A : Around) (ρ : Rho) (s : Shared) (vals : List Value), AOk d A → StG hB os N.acc ρ σ s → RelVs hB ρ s.heap vs vals →
    wpAny (model prog w) A (call (N.val f) vals) (PostV hB os N.acc ρ s v σ') Fls s

/-- what a program's text needs, all in all -/
structure Text (prog : Program) (w : World) (hB : Heap) (os : OsState) (N : Nm) (qn : Addr) (kn : Str → Bool) (pr : Oracle) (fns : Str → Option Fn) (d : Nat) : Prop where
  wld : Wld prog w hB N qn kn
  q : QOk prog w hB os N qn d
  prim : POk prog w hB os N d pr
  lim : hB.NoLimit
  fn : ∀ f fn, fns f = some fn → N.val f = .ref (N.fn f) ∧ ∃ o fd, FnAt hB (N.fn f) fn o fd ∧ okSs kn fd.scope fn.body = true
  noq : fns qname = none
  noqp : ∀ vs σ, pr qname vs σ = none

theorem QOk.mono {prog : Program} {w : World} {hB : Heap} {os : OsState} {N : Nm} {qn : Addr} {d d' : Nat} (h : QOk prog w hB os N qn d) (l : d ≤ d') : QOk prog w hB os N qn d' :=
  fun op a b c e A ρ σ s t hA G => h op a b c e A ρ σ s t (hA.mono l) G

noncomputable def cxAt (prog : Program) (w : World) (hB : Heap) (os : OsState) (N : Nm) (qn : Addr) (kn : Str → Bool) (pr : Oracle) (fns : Str → Option Fn) (d n : Nat) : Cx := ⟨prog, w, hB, os, N, qn, n + d, calls pr fns n, kn⟩

theorem calls_ok {prog : Program} {w : World} {hB : Heap} {os : OsState} {N : Nm} {qn : Addr} {kn : Str → Bool} {pr : Oracle} {fns : Str → Option Fn} {d : Nat} (T : Text prog w hB os N qn kn pr fns d) : ∀ n, (cxAt prog w hB os N qn kn pr fns d n).Ok
  | 0 => ⟨fun f vs σ v σ' e A ρ s vals hA G R => T.prim f vs σ v σ' e A ρ s vals (hA.mono (by show d ≤ 0 + d; omega)) G R, T.q.mono (by show d ≤ 0 + d; omega), T.wld, T.noqp⟩
  | n + 1 => by
    have ih := calls_ok T n
    refine ⟨fun f vs σ v σ' e A ρ s vals hA G R => ?_, T.q.mono (by show d ≤ n + 1 + d; omega), T.wld, fun vs σ => ?_⟩
    · change calls pr fns (n + 1) f vs σ = some (v, σ') at e
      rw [calls_eq] at e
      dsimp only at e
      cases hf : fns f with
      | none =>
        rw [hf] at e
        exact T.prim f vs σ v σ' e A ρ s vals (hA.mono (by show d ≤ n + 1 + d; omega)) G R
      | some fn =>
        rw [hf] at e
        obtain ⟨hv, o, fd, F, ok⟩ := T.fn f fn hf
        show wpAny _ A (call (N.val f) vals) _ _ s
        rw [hv]
        exact call_fn ih F ok T.lim e (hA.mono (by show n + d + 1 ≤ n + 1 + d; omega)) G R
    · show calls pr fns (n + 1) qname vs σ = none
      rw [calls_eq]
      dsimp only
      rw [T.noq]
      exact T.noqp vs σ
end
end Mine
end

section
open PySem PySem.W PyProof.Rows PySem.Calls PySem.SeqAt
set_option maxRecDepth 100000
set_option linter.unusedSimpArgs false
namespace Mine

section
variable {prog : Program} {w : World} {hB : Heap} {K : Frag} {mg mb : Str → Option Value}

theorem looks_global {g : Str} {v : Value} (Tg : hB.Ns mainGlobals mg) (e : mg g = some v) (env : Env) (he : env.globals = mainGlobals) : Looks (model prog w) hB (loadGlobal env g) v :=
  fun _ _ _ _ k q => loadGlobal_global (he ▸ Tg.keeps k) e q
theorem looks_builtin {g : Str} {v : Value} (Tg : hB.Ns mainGlobals mg) (Tb : hB.Ns builtinsNs mb) (e : mg g = none) (e2 : mb g = some v) (env : Env) (he : env.globals = mainGlobals) (hb : env.builtins = builtinsNs) : Looks (model prog w) hB (loadGlobal env g) v :=
  fun _ _ _ _ k q => loadGlobal_builtin (he ▸ Tg.keeps k) e (hb ▸ Tb.keeps k) e2 q

theorem kp_of {f : Value} (X : K.In hB) (e : keepIn K f = true) : ∃ k, (k = Keeper.frame ∨ k = Keeper.machine ∨ k = Keeper.boundFrame) ∧ Looks (model prog w) hB (keeperOf f) k := by
  obtain ⟨k, a, b⟩ := looks_keep (M := model prog w) e X
  exact ⟨k, a.elim .inl (fun e => .inr (.inl e)), b⟩

end

/-- how an accumulator's names are looked up -/
structure GaK (K : Frag) (C : Addr) : Prop where
  ga : findIn K (.ref C) "__getattribute__" = some (some (.builtin "list.__getattribute__"))
  no : findIn K (.ref C) "__getattr__" = some none
theorem ga_canon : (Manifest.canonical "list.__getattribute__" != "object.__getattribute__") = false := by decide +kernel

section
variable {prog : Program} {w : World} {A : Around} {E : Value → Shared → Prop} {s : Shared} {K : Frag}

/-- a method found at such an object -/
theorem method_at {m : Value} {ty : String} {x C : Addr} {ox : Obj} {od : Option Obj} {name : Str} {pl : Sem Bool} {Q : Value × List Value → Shared → Prop} (X : K.In s.heap) (I : InstAt s.heap x ox C od) (GK : GaK K C)
    (hf : findIn K (.ref C) name = some (some m)) (ht : typeIn K m = some (.type ty)) (hty : ty = "function" ∨ ty = "method_descriptor") (hs : shadowIn od name = some false) (h : Q (m, [.ref x]) s) :
    wpAny (model prog w) A (getMethod (.ref x) name pl) Q E s := by
  unfold getMethod specialOf
  refine wpAny_bind (wpAny_bind (I.type.here ((looks_findIn X GK.ga).here ?_)))
  dsimp only
  rw [ga_canon, if_neg (by decide)]
  refine wpAny_bind (wpAny_bind (I.type.here ((looks_findIn X GK.no).here ?_)))
  refine wpAny_bind (wpAny_bind (I.type.here ((looks_findIn X hf).here (wpAny_bind ((looks_typeIn X ht).here ?_)))))
  rw [if_neg (by rcases hty with rfl | rfl <;> decide +kernel)]
  refine wpAny_bind (wpAny_loadPart I.at_ ?_)
  have hd := I.dict
  cases e : ox.dict with
  | none => exact wpAny_bind (wpAny_rule (wpAny_pure h))
  | some dx =>
    cases od with
    | none => rw [e] at hd; exact hd.elim
    | some o =>
      rw [e] at hd
      obtain ⟨r, h1, h2⟩ := Option.map_eq_some_iff.mp hs
      refine wpAny_bind (wpAny_bind (wpAny_loadPart hd ?_))
      rw [nsLook_of h1]
      refine wpAny_pure ?_
      rw [h2]
      exact wpAny_bind (wpAny_rule (wpAny_pure h))
end

theorem AccAt.inst {C : Addr} {h : Heap} {a d : Addr} {size : Int} {vs : Array Value} (at_ : AccAt C h a d size vs) : ∃ n od, InstAt h a ⟨.ref C, some d, .seq vs n, #[]⟩ C (some od) ∧ h.get? a = some ⟨.ref C, some d, .seq vs n, #[]⟩ ∧
    (∀ name, name ≠ Str.ofString "_initial_size" → shadowIn (some od) name = some false) := by
  obtain ⟨⟨n, ha⟩, hs, kk, t, j, hd⟩ := at_
  refine ⟨n, _, ⟨ha, rfl, rfl, hd⟩, ha, fun name hn => ?_⟩
  have hb : (Value.str (Str.ofString "_initial_size") kk).isStr name = false := by
    show (Str.ofString "_initial_size" == name) = false
    exact beq_eq_false_iff_ne.mpr (Ne.symm hn)
  simp [shadowIn, lookIn, hb, DictEntry.refKey]

section
variable {prog : Program} {w : World} {hB : Heap} {K : Frag}
/-- a method of an accumulator -/
theorem meth_of {C : Addr} {name : Str} {f : Addr} (X : K.In hB) (GK : GaK K C) (hf : findIn K (.ref C) name = some (some (.ref f))) (ht : typeIn K (.ref f) = some (.type "function")) (hn : name ≠ Str.ofString "_initial_size")
    {h : Heap} {a dd : Addr} {size : Int} {vs : Array Value} (k : ∀ b o, hB.get? b = some o → h.get? b = some o) (at_ : AccAt C h a dd size vs) (pl : Sem Bool) : Looks (model prog w) h (getMethod (.ref a) name pl) (.ref f, [.ref a]) := by
  intro A Q E s k' q
  have at' : AccAt C s.heap a dd size vs := by
    obtain ⟨⟨n, ha⟩, hs, kk, t, j, hd⟩ := at_
    exact ⟨⟨n, k' _ _ ha⟩, hs, kk, t, j, k' _ _ hd⟩
  obtain ⟨n, od, I, _, hsh⟩ := at'.inst
  exact method_at ((X.keeps k).keeps k') I GK hf ht (.inl rfl) (hsh _ hn) q
end
end Mine
end

section
open PySem PySem.W PyProof.Rows PySem.Calls PySem.SeqAt
set_option maxRecDepth 100000
set_option linter.unusedSimpArgs false
namespace Mine

section
variable {prog : Program} {w : World} {A : Around} {E : Value → Shared → Prop} {s : Shared} {a : Addr} {cl : Value} {dd : Option Addr} {vs : Array Value} {n : Nat} {sl : Array (Option Value)}

theorem b_append {x : Value} {Q : Fin → Shared → Prop} (ha : s.heap.get? a = some ⟨cl, dd, .seq vs n, sl⟩)
    (hq : Q (.done (.ret .none)) { s with heap := s.heap.update a (Obj.mapSeq (·.push x)) }) (hsz : vs.size ≤ sizeLine) :
    wpAny (model prog w) A (Builtin.«list.append» ⟨[.ref a, x], []⟩) Q E s := by
  show wpAny _ _ (updateSeq a (·.push x) >>= fun _ => ret .none) _ _ s
  refine wpAny_bind ?_
  exact wpAny_updateSeq ha rfl (wpAny_pure hq)

theorem b_len {Q : Fin → Shared → Prop} (ha : s.heap.get? a = some ⟨cl, dd, .seq vs n, sl⟩)
    (hq : Q (.done (.ret (.int vs.size s.toks))) { s with toks := s.toks + 1 }) :
    wpAny (model prog w) A (Builtin.«list.__len__» ⟨[.ref a], []⟩) Q E s := by
  show wpAny _ _ (seqSize a >>= fun k => retInt k) _ _ s
  unfold seqSize
  refine wpAny_bind (wpAny_bind (wpAny_loadPart ha (wpAny_pure ?_)))
  unfold retInt
  exact wpAny_bind (wpAny_mkInt (wpAny_pure hq))

theorem b_pop {x : Value} {Q : Fin → Shared → Prop} (ha : s.heap.get? a = some ⟨cl, dd, .seq vs n, sl⟩) (hx : vs.toList.getLast? = some x)
    (hq : Q (.done (.ret x)) { s with heap := s.heap.update a (Obj.mapSeq (fun ys => ys.eraseIdxIfInBounds (vs.size - 1))) }) (hsz : vs.size ≤ sizeLine) :
    wpAny (model prog w) A (Builtin.«list.pop» ⟨[.ref a], []⟩) Q E s := by
  have hne : vs.isEmpty = false := by
    cases h : vs.isEmpty with
    | false => rfl
    | true =>
      rw [Array.isEmpty_iff] at h
      rw [h] at hx; cases hx
  have hpos : 0 < vs.size := by
    rw [Array.isEmpty_eq_false_iff] at hne
    exact Array.size_pos_iff.mpr hne
  have hi : (seqIndex? (-1) vs.size).bind (fun k => vs[k]?.map (k, ·)) = some (vs.size - 1, x) := by
    have e0 : seqIndex? (-1) vs.size = some (vs.size - 1) := by
      have e1 : ((-1 : Int) + (vs.size : Int)).toNat = vs.size - 1 := by omega
      have c : (decide (0 ≤ (-1 : Int) + (vs.size : Int)) && decide ((-1 : Int) + (vs.size : Int) < (vs.size : Int))) = true := by
        rw [Bool.and_eq_true, decide_eq_true_eq, decide_eq_true_eq]; omega
      unfold seqIndex?
      rw [if_pos (show (-1 : Int) < 0 by decide)]
      show (if (decide (0 ≤ (-1 : Int) + (vs.size : Int)) && decide ((-1 : Int) + (vs.size : Int) < (vs.size : Int))) = true then some ((-1 : Int) + (vs.size : Int)).toNat else none) = _
      rw [if_pos c, e1]
    rw [e0, Option.bind_some]
    have e2 : vs[vs.size - 1]? = some x := by
      rw [List.getLast?_eq_getElem?] at hx
      simpa using hx
    rw [e2]; rfl
  show wpAny _ _ (Builtin.List.listItems (.ref a) >>= _) _ _ s
  refine wpAny_bind (wpAny_listItems ha rfl ?_)
  simp only [hne, Bool.false_eq_true, if_false]
  refine wpAny_bind (wpAny_pure ?_)
  rw [hi]
  show wpAny _ _ (updateSeq a (fun ys => ys.eraseIdxIfInBounds (vs.size - 1)) >>= fun _ => ret x) _ _ s
  refine wpAny_bind ?_
  refine wpAny_updateSeq ha rfl (wpAny_pure hq) hsz ?_
  unfold Array.eraseIdxIfInBounds
  split
  · rw [Array.size_eraseIdx]; omega
  · omega
end

section
variable {prog : Program} {w : World} {A : Around} {E : Value → Shared → Prop} {s : Shared}

/-- a built-in method of an object whose class stands below the built-in's -/
theorem call_meth {id owner nm : String} {b : Builtin} {self : Value} {rest : List Value} {Q : Value → Shared → Prop} (hk : builtinKind id = some .method ∨ builtinKind id = some .slot) (hs : splitId id = some (owner, nm)) (hp : plainId id = true) (hb : entryFor table id = some b)
    (hi : Looks (model prog w) s.heap (isInstance self (.type owner)) true) (ha : argsOk id ⟨self :: rest, []⟩)
    (hc : wpAny (model prog w) A.in1 (b ⟨self :: rest, []⟩) (fun fin s' => ∃ v, fin = .done (.ret v) ∧ Q v s') E s) :
    wpAny (model prog w) A (call (.builtin id) (self :: rest)) Q E s := by
  refine wpAny_call (codeAny_call_builtin hp hb ?_)
  have hfin := wpAny_mono hc (Q' := fun fin s' => match fin with
      | .done f => (match (Except.ok f : Result) with | .ok (.ret v) => Q v s' | .ok _ => False | .error e => E e s')
      | .again c' => c'.quiet = true ∧ codeAny (model prog w) A c' (fun r s' => match r with | .ok (.ret v) => Q v s' | .ok _ => False | .error e => E e s') s')
    (fun fin s' h' => by obtain ⟨v, rfl, hv⟩ := h'; exact hv) fun _ _ h' => h'
  rcases hk with hk | hk <;>
  · simp only [checkBuiltinCall, hk, hs]
    refine wpAny_bind (hi.here ?_)
    simp only [Bool.not_true, Bool.false_eq_true, if_false]
    cases hsig : Manifest.signature? id with
    | none => exact wpAny_pure hfin
    | some sig =>
      simp only [argsOk, hsig] at ha
      have h2 : Bind.checkArgs id sig ⟨self :: rest, []⟩ = pure () := ha
      show wpAny _ A.in1 (Bind.checkArgs id sig ⟨self :: rest, []⟩) _ _ s
      rw [h2]; exact wpAny_pure hfin

variable {K : Frag} {h : Heap}
theorem inst_sub {x C : Addr} {ox : Obj} {od : Option Obj} {base : Value} {r : Bool} (X : K.In h) (I : InstAt h x ox C od) (e : subIn K (.ref C) base = some r) : Looks (model prog w) h (isInstance (.ref x) base) r :=
  I.type.andThen (looks_subIn X e)

end
end Mine
end

section
open PySem PySem.W PyProof.Rows PySem.Calls PySem.SeqAt
set_option maxRecDepth 100000
set_option linter.unusedSimpArgs false
namespace Mine

theorem mapSeq_at (cl : Value) (dd : Option Addr) (vs : Array Value) (n : Nat) (sl : Array (Option Value)) (f : Array Value → Array Value) : ∃ n', Obj.mapSeq f ⟨cl, dd, .seq vs n, sl⟩ = ⟨cl, dd, .seq (f vs) n', sl⟩ := ⟨_, rfl⟩

section
variable {X : Cx} {K : Frag}

/-- an accumulator's items turn -/
theorem acc_turn {ρ : Rho} {σ : Sto} {s : Shared} (G : StG X.hB X.os X.N.acc ρ σ s) {r : Nat} {p : Addr × Addr} {size : Int} {xs ys : List AV} {us ws : List Value} (hp : ρ[r]? = some p) (hc : σ[r]? = some (.acc size xs)) {f : Array Value → Array Value}
    (at_ : AccAt X.N.acc s.heap p.1 p.2 size us.toArray) (hf : f us.toArray = ws.toArray) (rs : RelVs X.hB ρ s.heap ys ws) (t : Nat) :
    StG X.hB X.os X.N.acc ρ (σ.set r (.acc size ys)) { s with heap := s.heap.update p.1 (Obj.mapSeq f), toks := t } ∧ Step ρ s ρ { s with heap := s.heap.update p.1 (Obj.mapSeq f), toks := t } := by
  obtain ⟨⟨n, ha⟩, hs, kk, tt, j, hd⟩ := at_
  obtain ⟨n', hn⟩ := mapSeq_at (.ref X.N.acc) (some p.2) us.toArray n #[] f
  have sb : Heap.SameBut p.1 s.heap (s.heap.update p.1 (Obj.mapSeq f)) := Heap.SameBut.update ..
  have hin : inρ ρ p.1 := ⟨p, List.mem_of_getElem? hp, rfl⟩
  have kp : KeepH (· = p.1) s.heap (s.heap.update p.1 (Obj.mapSeq f)) := fun b o e n => (sb.2 b n).trans e
  have hm : ∀ b, b = p.1 → Mut s.heap b ∧ X.hB.get? b = none := fun b e => by subst e; exact G.mut hin
  refine G.turn hp hc (c' := .acc size ys) sb ⟨ws, ⟨⟨n', ?_⟩, hs, kk, tt, j, kp _ _ hd (G.noDict hin hp hc)⟩, rs.mono kp hm (n := s.heap) .refl⟩ t
  rw [Heap.get?_update_self _ ha (by rw [hn]; rfl), hn, hf]

theorem push_ok (KX : K.In X.hB) (GK : GaK K X.N.acc) (hls : subIn K (.ref X.N.acc) (.type "list") = some true) (hap : findIn K (.ref X.N.acc) "append" = some (some (.builtin "list.append"))) (hlim : X.hB.NoLimit) {sn fw st : Str} {p1 p2 p3 p4 p5 p6 p7 : Pos} {k : Nat} {o : Obj} {fd : FuncData}
    (F : FnAt X.hB X.N.push ⟨[sn, fw, st], [.Expr (.Call (.Attribute (.Name sn p1) "append" p2) [.Tuple [.Name fw p3, .Name st p4] k p5] [] p6) p7]⟩ o fd)
    (ok : okE X.kn fd.scope (.Call (.Attribute (.Name sn p1) "append" p2) [.Tuple [.Name fw p3, .Name st p4] k p5] [] p6) = true) (hn : sn ≠ fw ∧ sn ≠ st ∧ fw ≠ st)
    {A : Around} {ρ : Rho} {σ : Sto} {s : Shared} {r : Nat} {size : Int} {xs : List AV} {a b : AV} {vals : List Value} (hA : AOk (X.d + 1) A) (G : StG X.hB X.os X.N.acc ρ σ s) (R : RelVs X.hB ρ s.heap [.ref r, a, b] vals)
    (hc : σ[r]? = some (.acc size xs)) (hsz : sizeOk xs.length = true) :
    wpAny (model X.prog X.w) A (call (.ref X.N.push) vals) (PostV X.hB X.os X.N.acc ρ s .none (σ.set r (.acc size (xs ++ [.tup [a, b]])))) Fls s := by
  have hsz' := sizeOk_le hsz
  refine call_enter F hlim rfl hA G R PostV.kont fun env s₁ Q' hsc S1 K' => ?_
  have hA' := hA.deeper env
  rw [← hsc] at ok
  obtain ⟨ok, ok2'⟩ := and2 (b := okEs X.kn env.scope [.Tuple [.Name fw p3, .Name st p4] k p5]) ok
  obtain ⟨ok, ok1⟩ := and2 ok
  obtain ⟨_, hline, _⟩ := and3 ok
  have l1 : (([sn, fw, st].zip [AV.ref r, a, b] : Loc)).lookup sn = some (.ref r) := by simp []
  have l2 : (([sn, fw, st].zip [AV.ref r, a, b] : Loc)).lookup fw = some a := by
    have : (fw == sn) = false := by simpa using (fun e => hn.1 e.symm)
    simp [List.lookup, this]
  have l3 : (([sn, fw, st].zip [AV.ref r, a, b] : Loc)).lookup st = some b := by
    have q1 : (st == sn) = false := by simpa using (fun e => hn.2.1 e.symm)
    have q2 : (st == fw) = false := by simpa using (fun e => hn.2.2 e.symm)
    simp [List.lookup, q1, q2]
  generalize ([sn, fw, st].zip [AV.ref r, a, b] : Loc) = m at S1 l1 l2 l3
  have nm : ∀ {x : Str} {p : Pos} {u : AV}, m.lookup x = some u → ev X.O m (.Name x p) σ = some (u, σ) := fun {x p u} e => by
    show (bind1 (m.lookup x) fun v => some (v, σ)) = _
    rw [e]; rfl
  have ev2 : ev X.O m (.Tuple [.Name fw p3, .Name st p4] k p5) σ = some (.tup [a, b], σ) := by
    show (bind2 (evs X.O m [.Name fw p3, .Name st p4] σ) fun vs σ1 => if sizeOk vs.length then some (AV.tup vs, σ1) else none) = _
    have : evs X.O m [.Name fw p3, .Name st p4] σ = some ([a, b], σ) := by
      show (bind2 (ev X.O m (.Name fw p3) σ) fun v σ1 => bind2 (evs X.O m [.Name st p4] σ1) fun vs σ2 => some (v :: vs, σ2)) = _
      rw [nm l2]
      show (bind2 (evs X.O m [.Name st p4] σ) fun vs σ2 => some (a :: vs, σ2)) = _
      rw [evs_one (nm l3)]; rfl
    rw [this]; rfl
  refine wpAny_execs_cons (wpAny_Expr_any ?_ (by unfold interactive; rw [S1.f.kind]; rfl) rfl)
  rw [arm_eval_Call, base_plain rfl]
  refine wpAny_bind (snd_name _ σ _ σ (A.deeper env) env ρ s₁ _ ok1 (nm l1) hA' S1 fun x s2 ρ2 T2 G2 r2 => wpAny_bind (wpAny_standAt ?_))
  have hform : methodCallForm (([PySem.Expr.Tuple [.Name fw p3, .Name st p4] k p5] : List PySem.Expr).length + ([] : List Keyword).length) (backTo p6 (starEach [.Tuple [.Name fw p3, .Name st p4] k p5] env)) (backToKw p6 (keywordEach [] env)) = true := by
    unfold methodCallForm; rfl
  have hpos : methodCallPos true (.Name sn p1) env p2 p6 = pure p6 := by unfold methodCallPos; simp [hline]
  unfold methodCall
  rw [hform]
  obtain ⟨p, hp, rfl⟩ := r2.refE
  obtain ⟨us, at_, rs⟩ := G2.cell _ _ _ hc hp
  obtain ⟨n, od, I, ha, hsh⟩ := at_.inst
  refine wpAny_bind (wpAny_holding (method_at (m := .builtin "list.append") (ty := "method_descriptor") (KX.keeps G2.base) I GK hap (show pureOf (fastBuiltinType "list.append") = _ by decide +kernel) (.inr rfl) (hsh _ (by decide)) ?_))
  refine wpAny_bind (wpAny_of_eq hpos ?_)
  refine callWith_all (X := X) kp_builtin ok2' (snd_each (fun e he => ?_) _ σ _ σ (A.deeper env) env ρ2 s2 p6 _ ok2' (evs_one ev2) hA' (S1.step T2 G2) fun ys s3 ρ3 T3 G3 rt => ?_)
  · rw [List.mem_singleton.mp he]
    exact snd_tuple fun e he => by
      rcases List.mem_cons.mp he with rfl | he
      · exact snd_name
      · rw [List.mem_singleton.mp he]; exact snd_name
  · obtain ⟨vt, rt1, rfl⟩ := rt.oneE
    refine ⟨G3.base, ?_⟩
    have hp3 := T3.grow.get hp
    obtain ⟨us3, at3, rs3⟩ := G3.cell _ _ _ hc hp3
    obtain ⟨n3, od3, I3, ha3, _⟩ := at3.inst
    have hlen := rs3.length
    have fin := acc_turn G3 hp3 hc (f := (·.push vt)) (ws := us3 ++ [vt]) (ys := xs ++ [.tup [a, b]]) at3 (by simp) (rs3.append (.cons rt1 .nil)) s3.toks
    refine call_meth (b := Builtin.«list.append») (nm := "append") (owner := "list") (.inl (by decide +kernel)) (by decide +kernel) (by decide +kernel) PySem.F.entry_list_append (inst_sub (KX.keeps G3.base) I3 hls) (PySem.args_list_append _ _) ?_
    have T := (T2.trans T3).trans fin.2
    exact b_append ha3 ⟨.none, rfl, wpAny_execs_nil (K' .next m rfl _ _ ρ3 (T.toS S1.f) (S1.step T fin.1) .next)⟩ (by simp [sizeLine_eq']; omega)
end
end Mine
end

section
open PySem PySem.W PyProof.Rows PySem.Calls PySem.SeqAt
set_option maxRecDepth 100000
set_option linter.unusedSimpArgs false
namespace Mine

namespace FS
theorem slot_wd : Slot "wrapper_descriptor" "__get__" "wrapper_descriptor.__get__" :=
  .of (owner := "wrapper_descriptor") (n := "__get__") (by rw [typeLookup_type, builtinLookup_eq_fast]; kernel_rfl) (by decide +kernel) (by decide +kernel) (by decide +kernel)
    (by first | exact .inl (by decide +kernel) | exact .inr (by decide +kernel)) (by rw [isSubtype_type]; kernel_rfl)
theorem slot_md : Slot "method_descriptor" "__get__" "method_descriptor.__get__" :=
  .of (owner := "method_descriptor") (n := "__get__") (by rw [typeLookup_type, builtinLookup_eq_fast]; kernel_rfl) (by decide +kernel) (by decide +kernel) (by decide +kernel)
    (by first | exact .inl (by decide +kernel) | exact .inr (by decide +kernel)) (by rw [isSubtype_type]; kernel_rfl)
theorem entry_wd : entryFor table "wrapper_descriptor.__get__" = some Builtin.«wrapper_descriptor.__get__» := entryFor_of_tree (by kernel_rfl)
theorem entry_md : entryFor table "method_descriptor.__get__" = some Builtin.«method_descriptor.__get__» := entryFor_of_tree (by kernel_rfl)
theorem args_wd (a b c : Value) : argsOk "wrapper_descriptor.__get__" ⟨[a, b, c], []⟩ := by unfold argsOk; kernel_rfl
theorem args_md (a b c : Value) : argsOk "method_descriptor.__get__" ⟨[a, b, c], []⟩ := by unfold argsOk; kernel_rfl
theorem type_len : typeOf (.builtin "list.__len__") = pure (.type "wrapper_descriptor") := by show builtinType _ = _; rw [builtinType_eq_fast]; kernel_rfl
theorem type_init : typeOf (.builtin "list.__init__") = pure (.type "wrapper_descriptor") := by show builtinType _ = _; rw [builtinType_eq_fast]; kernel_rfl
theorem type_pop : typeOf (.builtin "list.pop") = pure (.type "method_descriptor") := by show builtinType _ = _; rw [builtinType_eq_fast]; kernel_rfl
theorem entry_len : entryFor table "list.__len__" = some Builtin.«list.__len__» := entryFor_of_tree (by kernel_rfl)
theorem entry_pop : entryFor table "list.pop" = some Builtin.«list.pop» := entryFor_of_tree (by kernel_rfl)
theorem entry_init : entryFor table "list.__init__" = some Builtin.«list.__init__» := entryFor_of_tree (by kernel_rfl)
end FS

/-- a built-in bound to an object -/
noncomputable abbrev boundObj (bt : String) (id : String) (x : Addr) : Obj := { cls := .type bt, data := .fields #[.builtin id, .ref x] }

section
variable {prog : Program} {w : World} {M : Model} {A : Around} {E : Value → Shared → Prop} {s : Shared}

theorem wd_len {x C : Addr} {P : Fin → Shared → Prop} (hi : Looks M s.heap (isInstance (.ref x) (.type "list")) true) (h : P (.done (.ret (.ref s.heap.objs.size))) { s with heap := s.heap.push (boundObj "method-wrapper" "list.__len__" x) }) :
    wpAny M A (Builtin.«wrapper_descriptor.__get__» ⟨[.builtin "list.__len__", .ref x, .ref C], []⟩) P E s := by
  unfold Builtin.«wrapper_descriptor.__get__»
  refine wpAny_bind (wpAny_of_eq (a := (.builtin "list.__len__", some (.ref x), some (.ref C))) (by first | rfl | kernel_rfl) ?_)
  show wpAny _ _ ((isInstance (.ref x) (.type "list") >>= _) >>= _) _ _ _
  refine wpAny_bind (wpAny_bind (hi.here ?_))
  exact wpAny_pure (wpAny_bind (wpAny_newObj_type (wpAny_pure h)))
theorem wd_init {x C : Addr} {P : Fin → Shared → Prop} (hi : Looks M s.heap (isInstance (.ref x) (.type "list")) true) (h : P (.done (.ret (.ref s.heap.objs.size))) { s with heap := s.heap.push (boundObj "method-wrapper" "list.__init__" x) }) :
    wpAny M A (Builtin.«wrapper_descriptor.__get__» ⟨[.builtin "list.__init__", .ref x, .ref C], []⟩) P E s := by
  unfold Builtin.«wrapper_descriptor.__get__»
  refine wpAny_bind (wpAny_of_eq (a := (.builtin "list.__init__", some (.ref x), some (.ref C))) (by first | rfl | kernel_rfl) ?_)
  show wpAny _ _ ((isInstance (.ref x) (.type "list") >>= _) >>= _) _ _ _
  refine wpAny_bind (wpAny_bind (hi.here ?_))
  exact wpAny_pure (wpAny_bind (wpAny_newObj_type (wpAny_pure h)))
theorem md_pop {x C : Addr} {P : Fin → Shared → Prop} (hi : Looks M s.heap (isInstance (.ref x) (.type "list")) true) (h : P (.done (.ret (.ref s.heap.objs.size))) { s with heap := s.heap.push (boundObj "builtin_function_or_method" "list.pop" x) }) :
    wpAny M A (Builtin.«method_descriptor.__get__» ⟨[.builtin "list.pop", .ref x, .ref C], []⟩) P E s := by
  unfold Builtin.«method_descriptor.__get__»
  refine wpAny_bind (wpAny_of_eq (a := (.builtin "list.pop", some (.ref x), some (.ref C))) (by first | rfl | kernel_rfl) ?_)
  dsimp only
  refine KFB.if_not (by decide +kernel) ?_
  show wpAny _ _ ((isInstance (.ref x) (.type "list") >>= _) >>= _) _ _ _
  refine wpAny_bind (wpAny_bind (hi.here ?_))
  exact wpAny_pure (wpAny_bind (wpAny_newObj_type (wpAny_pure h)))
end

section
variable {prog : Program} {w : World} {A : Around} {E : Value → Shared → Prop} {h : Heap} {g : Array GenState} {d : Drawn} {t : Nat} {os : OsState}

theorem sup_ga {so D x C : Addr} {l₀ l : List Value} {K : Frag} {name : Str} {tk : Tok} {id ty gid bt : String} {b : Builtin} {Q : Fin → Shared → Prop}
    (hso : h.get? so = some { cls := .type "super", dict := none, data := .fields #[.ref D, .ref x, .ref C], slots := #[] }) (hno : Looks (model prog w) h (opaqueClassAbove (.ref C)) none)
    (hC : Looks (model prog w) h (mroOf (.ref C)) l₀) (hl : (l₀.dropWhile (· != .ref D)).drop 1 = l) (X : K.In h)
    (hf : alongIn K name l = some (some (.builtin id))) (hty : typeOf (.builtin id) = pure (.type ty)) (sl : Slot ty "__get__" gid) (en : entryFor table gid = some b) (ao : argsOk gid ⟨[.builtin id, .ref x, .ref C], []⟩)
    (hb : ∀ (A' : Around) (P : Fin → Shared → Prop) (E' : Value → Shared → Prop), P (.done (.ret (.ref h.objs.size))) ⟨h.push (boundObj bt id x), g, d, t, os⟩ → wpAny (model prog w) A' (b ⟨[.builtin id, .ref x, .ref C], []⟩) P E' ⟨h, g, d, t, os⟩)
    (hxC : x ≠ C) (hn : (name == ("__class__" : Str)) = false) (hq : Q (.done (.ret (.ref h.objs.size))) ⟨h.push (boundObj bt id x), g, d, t, os⟩) :
    wpAny (model prog w) A (Builtin.«super.__getattribute__» ⟨[.ref so, .str name tk], []⟩) Q E ⟨h, g, d, t, os⟩ := by
  have hlk := sl.lookup
  have hTf : (⟨h, g, d, t, os⟩ : Shared).TypeIs (.builtin id) ty := hty
  have hne : (Value.ref x == Value.ref C) = false := by simp [hxC]
  have hdt : ({ cls := .type "super", dict := none, data := .fields #[.ref D, .ref x, .ref C], slots := #[] } : Obj).data = .fields #[.ref D, .ref x, .ref C] := rfl
  have f0 : (#[.ref D, .ref x, .ref C] : Array Value)[0]? = some (.ref D) := rfl
  have f1 : (#[.ref D, .ref x, .ref C] : Array Value)[1]? = some (.ref x) := rfl
  have f2 : (#[.ref D, .ref x, .ref C] : Array Value)[2]? = some (.ref C) := rfl
  unfold Builtin.«super.__getattribute__»
  repeat (first
    | (with_reducible refine wpAny_field hso hdt f0 ?_) | (with_reducible refine wpAny_field hso hdt f1 ?_) | (with_reducible refine wpAny_field hso hdt f2 ?_)
    | (with_reducible refine ks_wpAny_notOpaque hno ?_)
    | (with_reducible refine Looks.at hC ?_; rw [hl])
    | (refine ks_forIn_along X (fun _ _ => rfl) rfl ?_ hf)
    | (with_reducible refine wpAny_of_eq hty ?_)
    | (with_reducible refine wpAny_call_entry sl hTf en ?_ ao)
    | (refine hb _ _ _ ?_)
    | (with_reducible refine ⟨_, rfl, ?_⟩)
    | (simp only [hn, hne, Bool.or_false, Bool.false_eq_true, if_false])
    | wp_step
    | dsimp only)
  all_goals exact hq

theorem sup_method {so D x C : Addr} {l₀ l : List Value} {K : Frag} {name : Str} {pl : Sem Bool} {id ty gid bt : String} {b : Builtin} {Q : Value × List Value → Shared → Prop}
    (hso : h.get? so = some { cls := .type "super", dict := none, data := .fields #[.ref D, .ref x, .ref C], slots := #[] }) (hno : Looks (model prog w) h (opaqueClassAbove (.ref C)) none)
    (hC : Looks (model prog w) h (mroOf (.ref C)) l₀) (hl : (l₀.dropWhile (· != .ref D)).drop 1 = l) (X : K.In h)
    (hf : alongIn K name l = some (some (.builtin id))) (hty : typeOf (.builtin id) = pure (.type ty)) (sl : Slot ty "__get__" gid) (en : entryFor table gid = some b) (ao : argsOk gid ⟨[.builtin id, .ref x, .ref C], []⟩)
    (hb : ∀ (A' : Around) (P : Fin → Shared → Prop) (E' : Value → Shared → Prop), P (.done (.ret (.ref h.objs.size))) ⟨h.push (boundObj bt id x), g, d, t + 1, os⟩ → wpAny (model prog w) A' (b ⟨[.builtin id, .ref x, .ref C], []⟩) P E' ⟨h, g, d, t + 1, os⟩)
    (hxC : x ≠ C) (hn : (name == ("__class__" : Str)) = false) (hq : Q (.ref h.objs.size, []) ⟨h.push (boundObj bt id x), g, d, t + 1, os⟩) :
    wpAny (model prog w) A (getMethod (.ref so) name pl) Q E ⟨h, g, d, t, os⟩ := by
  have hlk := F.ks_slot_super_ga.lookup
  have hcan := F.ks_canon_super_ga
  have hT : ∀ t', (⟨h, g, d, t', os⟩ : Shared).TypeIs (.ref so) "super" := fun _ => ⟨_, hso, rfl⟩
  unfold getMethod
  refine wpAny_bind (wpAny_specialOf (hT _) hlk ?_)
  show wpAny _ _ (if (Manifest.canonical "super.__getattribute__" != "object.__getattribute__") = true then _ else _) _ _ _
  rw [if_pos hcan]
  unfold getAttr getAttrBy
  refine wpAny_bind (wpAny_bind (wpAny_mkText (wpAny_holding (wpAny_bind (wpAny_typeOf (hT _) (wpAny_bind (wpAny_of_eq hlk ?_)))))))
  show wpAny _ _ (getAttrByItsOwn (.ref so) (.str name t) (.type "super") (.builtin "super.__getattribute__") true false) _ _ _
  unfold getAttrByItsOwn hookBefore callGetattribute boundAndCalled
  refine wpAny_bind (wpAny_of_eq (show (if onTheHeap (.type "super") then typeLookup (.type "super") "__getattr__" else pure none) = pure none from rfl) ?_)
  refine wpAny_bind (wpAny_attempt (wpAny_holding ?_))
  show wpAny _ _ (bindSpecial (.builtin "super.__getattribute__") (.ref so) >>= _) _ _ _
  refine wpAny_bind (wpAny_of_eq (F.ks_slot_super_ga.bind _) ?_)
  refine wpAny_mono (Q := fun v s' => v = .ref h.objs.size ∧ s' = ⟨h.push (boundObj bt id x), g, d, t + 1, os⟩) (E := fun _ _ => False)
    (wpAny_call_entry F.ks_slot_super_ga (hT _) F.ks_entry_super_ga (sup_ga hso hno hC hl X hf hty sl en ao hb hxC hn ⟨_, rfl, rfl, rfl⟩) (F.ks_gaArgs_super _ _)) (fun v s' hv => ?_) fun _ _ z => z.elim
  obtain ⟨rfl, rfl⟩ := hv
  exact wpAny_pure (wpAny_pure hq)
end
end Mine
end

section
open PySem PySem.W PyProof.Rows PySem.Calls PySem.SeqAt
set_option maxRecDepth 100000
set_option linter.unusedSimpArgs false
namespace Mine

section
variable {prog : Program} {w : World} {M : Model} {A : Around} {E : Value → Shared → Prop} {s : Shared} {cl : Value} {dd : Option Addr} {vs : Array Value} {n : Nat} {sl : Array (Option Value)}

theorem len_check (x : Addr) : checkBoundCall "list.__len__" ⟨[.ref x], []⟩ = pure () := by first | kernel_rfl | rfl
theorem init_check (x : Addr) : checkBoundCall "list.__init__" ⟨[.ref x], []⟩ = pure () := by first | kernel_rfl | rfl

theorem call_len {q x : Addr} {Q : Value → Shared → Prop} (hq : s.heap.get? q = some (boundObj "method-wrapper" "list.__len__" x)) (hx : s.heap.get? x = some ⟨cl, dd, .seq vs n, sl⟩)
    (h : Q (.int vs.size s.toks) { s with toks := s.toks + 1 }) : wpAny (model prog w) A (call (.ref q) []) Q E s := by
  refine wpAny_call (codeAny_of_tree ?_)
  show wpAny _ A.in1 (load q >>= _) _ _ s
  refine wpAny_bind (wpAny_load hq ?_)
  dsimp only [boundObj]
  refine KFB.if_so (by decide) ?_
  refine KFB.if_so (by decide) ?_
  refine wpAny_bind (wpAny_of_eq (a := ()) (len_check x) ?_)
  refine wpAny_bind (wpAny_pure (wpAny_pure ?_))
  exact ⟨Code.quiet_builtin _ (by decide +kernel), codeAny_builtin FS.entry_len (b_len hx h)⟩

noncomputable def popSig : Manifest.Signature := (Manifest.signature? "list.pop").get (by decide +kernel)
theorem popSig_is : Manifest.signature? "list.pop" = some popSig := (Option.some_get _).symm

theorem pop_check {K : Frag} {x C : Addr} {ox : Obj} {od : Option Obj} {cd : ClassData} {Q : Unit → Shared → Prop} (X : K.In s.heap) (I : InstAt s.heap x ox C od) (hd : ∀ c, ox.data ≠ .cls c) (hm : subIn K (.ref C) (.type "module") = some false) (hc : clsIn K C = some cd)
    (ht : typeIn K (.ref C) = some (.type "type")) (ha : ∀ y : Addr, Bind.checkArgs "list.pop" { popSig with full := s!"{cd.qualname.toString}.{Bind.lastOf "list.pop"}" } ⟨[.ref y], []⟩ = pure ()) (hq : Q () s) :
    wpAny M A (checkBoundCall "list.pop" ⟨[.ref x], []⟩) Q E s := by
  have hk : builtinKind "list.pop" = some .method := by decide +kernel
  have hi : Looks M s.heap (isInstance (.ref x) (.type "module")) false := I.type.andThen (looks_subIn X hm)
  have hv : Manifest.varargsMethods.contains "list.pop" = false := by decide +kernel
  unfold checkBoundCall
  rw [popSig_is, hk]
  dsimp only
  refine KFB.if_not (by decide) ?_
  refine wpAny_bind (hi.here ?_)
  rw [hv]
  refine KFB.if_not rfl ?_
  obtain ⟨hh, g, d, t, os⟩ := s
  refine wpAny_bind (ks_wpAny_isType_inst I.at_ hd ?_)
  refine KFB.if_not rfl ?_
  refine wpAny_bind (I.type.here ?_)
  dsimp only
  refine wpAny_bind ((looks_clsIn X hc).here ?_)
  refine wpAny_bind ((looks_typeIn X ht).here ?_)
  refine KFB.if_so (by decide) ?_
  exact wpAny_of_eq (ha x) hq

theorem call_pop {K : Frag} {q x C : Addr} {od : Option Obj} {cd : ClassData} {y : Value} {Q : Value → Shared → Prop} (hq : s.heap.get? q = some (boundObj "builtin_function_or_method" "list.pop" x)) (X : K.In s.heap) (I : InstAt s.heap x ⟨.ref C, dd, .seq vs n, sl⟩ C od)
    (hm : subIn K (.ref C) (.type "module") = some false) (hc : clsIn K C = some cd)
    (ht : typeIn K (.ref C) = some (.type "type")) (ha : ∀ y : Addr, Bind.checkArgs "list.pop" { popSig with full := s!"{cd.qualname.toString}.{Bind.lastOf "list.pop"}" } ⟨[.ref y], []⟩ = pure ())
    (hy : vs.toList.getLast? = some y) (hsz : vs.size ≤ sizeLine) (h : Q y { s with heap := s.heap.update x (Obj.mapSeq (fun ys => ys.eraseIdxIfInBounds (vs.size - 1))) }) : wpAny (model prog w) A (call (.ref q) []) Q E s := by
  refine wpAny_call (codeAny_of_tree ?_)
  show wpAny _ A.in1 (load q >>= _) _ _ s
  refine wpAny_bind (wpAny_load hq ?_)
  dsimp only [boundObj]
  refine KFB.if_so (by decide) ?_
  refine KFB.if_so (by decide) ?_
  refine wpAny_bind (pop_check X I (by simp) hm hc ht ha ?_)
  refine wpAny_bind (wpAny_pure (wpAny_pure ?_))
  exact ⟨Code.quiet_builtin _ (by decide +kernel), codeAny_builtin FS.entry_pop (b_pop I.at_ hy h hsz)⟩

theorem call_init {q x : Addr} {Q : Value → Shared → Prop} (hq : s.heap.get? q = some (boundObj "method-wrapper" "list.__init__" x)) (hx : s.heap.get? x = some ⟨cl, dd, .seq #[] n, sl⟩)
    (h : ∀ n', Q .none { s with heap := s.heap.update x (Obj.mapSeq (fun _ => #[])), toks := n' }) : wpAny (model prog w) A (call (.ref q) []) Q E s := by
  refine wpAny_call (codeAny_of_tree ?_)
  show wpAny _ A.in1 (load q >>= _) _ _ s
  refine wpAny_bind (wpAny_load hq ?_)
  dsimp only [boundObj]
  refine KFB.if_so (by decide) ?_
  refine KFB.if_so (by decide) ?_
  refine wpAny_bind (wpAny_of_eq (a := ()) (init_check x) ?_)
  refine wpAny_bind (wpAny_pure (wpAny_pure ?_))
  refine ⟨Code.quiet_builtin _ (by decide +kernel), codeAny_builtin FS.entry_init ?_⟩
  show wpAny _ _ (Builtin.List.listItems (.ref x) >>= _) _ _ s
  refine wpAny_bind (wpAny_listItems hx rfl ?_)
  refine wpAny_bind ?_
  show wpAny _ _ (updateSeq x (fun _ => #[])) _ _ s
  refine wpAny_updateSeq hx rfl ?_ (by decide) (by decide)
  refine wpAny_bind (wpAny_letGo ?_)
  exact wpAny_pure (h s.toks)
end
end Mine
end

section
open PySem PySem.W PyProof.Rows PySem.Calls PySem.SeqAt
set_option maxRecDepth 100000
set_option linter.unusedSimpArgs false
namespace Mine

/-- a def of the class's own that names super -/
structure SupFn (prog : Program) (hB : Heap) (mg mb : Str → Option Value) (K : Frag) (f D : Addr) (ar : Arg) (fd : FuncData) : Prop where
  fn : ∃ oc od osl, K.lookup f = some ⟨oc, od, .func fd, osl⟩
  cell : ∃ cc, fd.closure = [(("__class__" : Str), cc)] ∧ ∃ ccl ccd csl, K.lookup cc = some ⟨ccl, ccd, .cell (some (.ref D)), csl⟩
  code : ∃ cda oc od vs sl file tf, fd.code = .ref cda ∧ K.lookup cda = some ⟨oc, od, .fields vs, sl⟩ ∧ vs[2]? = some (.str file tf) ∧ ((prog.main.file : Str) == file) = true
  rec_ : hB.CodeRec fd.code fd.qualname
  glob : fd.globals = mainGlobals
  bui : fd.builtins = builtinsNs
  kind : fd.scope.kind = .function
  noCell : ∀ x ∈ fd.scope.names, x.2 ≠ .cell
  co : fd.scope.isCoroutine = false
  gen : fd.scope.isGenerator = false
  sup : fd.scope.names.lookup ("super" : Str) = some .globalImplicit
  cls : fd.scope.names.lookup ("__class__" : Str) = some .free
  par : (fd.params.posonlyargs ++ fd.params.args).head? = some ar
  parK : fd.scope.names.lookup ar.arg = some .local
  top : (prog.main.scope.names.lookup ("super" : Str)).isSome = false
  Tg : hB.Ns mainGlobals mg
  Tb : hB.Ns builtinsNs mb
  mgS : mg "super" = none
  mbS : mb "super" = some (.type "super")

/-- what is asked of the accumulator's class -/
structure AccC (prog : Program) (w : World) (K : Frag) (C : Addr) (cd : ClassData) : Prop where
  cls : clsIn K C = some cd
  no : ∀ h, K.In h → Looks (model prog w) h (opaqueClassAbove (.ref C)) none
  list : subIn K (.ref C) (.type "list") = some true
  self : mroIn K C (.ref C) = some true
  len : alongIn K "__len__" ((cd.mro.dropWhile (· != .ref C)).drop 1) = some (some (.builtin "list.__len__"))
  init : alongIn K "__init__" ((cd.mro.dropWhile (· != .ref C)).drop 1) = some (some (.builtin "list.__init__"))
  pop : alongIn K "pop" ((cd.mro.dropWhile (· != .ref C)).drop 1) = some (some (.builtin "list.pop"))
  mod : subIn K (.ref C) (.type "module") = some false
  typ : typeIn K (.ref C) = some (.type "type")
  popA : ∀ y : Addr, Bind.checkArgs "list.pop" { popSig with full := s!"{cd.qualname.toString}.{Bind.lastOf "list.pop"}" } ⟨[.ref y], []⟩ = pure ()

/-- the heap goes on -/
noncomputable def Goes (s s' : Shared) : Prop := ∃ h' t, s' = { s with heap := h', toks := t } ∧ ∀ b o, s.heap.get? b = some o → h'.get? b = some o
theorem Goes.refl {s : Shared} : Goes s s := ⟨s.heap, s.toks, rfl, fun _ _ e => e⟩

section
variable {prog : Program} {w : World} {A : Around} {E : Value → Shared → Prop} {hB : Heap} {mg mb : Str → Option Value} {K : Frag} {f D C : Addr} {ar : Arg} {fd : FuncData} {cd : ClassData}

theorem inst_ne {h : Heap} {x : Addr} {ox : Obj} {od : Option Obj} (X : K.In h) (I : InstAt h x ox C od) (hc : clsIn K C = some cd) : x ≠ C := ks_ne X I hc

/-- into such a def -/
theorem sup_enter {R : Result → Shared → Prop} {body : List PySem.Stmt} {vals : List Value} {binds : List (Str × Value)} {s : Shared} (F : SupFn prog hB mg mb K f D ar fd) (X : K.In hB) (hlim : hB.NoLimit) (hbody : fd.body = .stmts body)
    (k : ∀ b o, hB.get? b = some o → s.heap.get? b = some o) (hroom : A.depth < recursionLimit) (hbind : BindsTo s fd ⟨vals, []⟩ binds) (hloc : ∀ x ∈ binds, fd.scope.names.lookup x.1 = some .local)
    (h : ∀ h₀, h₀.Ns s.heap.objs.size (fun x => binds.reverse.lookup x) → (∀ b o, s.heap.get? b = some o → h₀.get? b = some o) →
      _root_.PySem.wpAt (model prog w) (A.deeper (callEnv fd s.heap.objs.size f)) (.func body (callEnv fd s.heap.objs.size f)) (execs body (callEnv fd s.heap.objs.size f)) (fun f s' => R (.ok (.ret (match f with | .ret v => v | _ => .none))) s') Fls
        { s with heap := h₀, toks := s.toks + binds.length }) : codeAny (model prog w) A (.call (.ref f) ⟨vals, []⟩) R s := by
  obtain ⟨oc, od, osl, hf⟩ := F.fn
  refine ks_codeAny_call_defAt (binds := binds) hroom (k _ _ (X _ _ hf)) rfl ?_ (F.rec_.keeps k) hbody hbind F.noCell hloc (fun h₀ hn hk => ?_) F.co F.gen F.kind
  · obtain ⟨mc, h1, h2⟩ := hlim; exact ⟨mc, h1.keeps k, h2⟩
  · exact ks_wpAt_mono (h h₀ hn hk) (fun _ _ q => q) fun _ _ q => q.elim

/-- super() -/
theorem sup_base {L : Addr} {x : Addr} {m : Str → Option Value} {body : List PySem.Stmt} {p0 p1 : Pos} {attr : Str} {whole : Sem Value} {s : Shared} {ox : Obj} {od : Option Obj} {Q : Value → Shared → Prop} (F : SupFn prog hB mg mb K f D ar fd) (AC : AccC prog w K D cd) (X : K.In hB)
    (k : ∀ b o, hB.get? b = some o → s.heap.get? b = some o) (hn : s.heap.Ns L m) (hm : m ar.arg = some (.ref x)) (I : InstAt s.heap x ox D od) (hnc : ∀ c, ox.data ≠ .cls c) (hat : (attr == ("__class__" : Str)) = false)
    (h : ∀ h', h'.get? s.heap.objs.size = some { cls := .type "super", dict := none, data := .fields #[.ref D, .ref x, .ref D], slots := #[] } → (∀ b o, s.heap.get? b = some o → h'.get? b = some o) → Q (.ref s.heap.objs.size) { s with heap := h' }) :
    _root_.PySem.wpAt (model prog w) A (.func body (callEnv fd L f)) (attributeBase (.Call (.Name "super" p0) [] [] p1) attr (callEnv fd L f) whole) Q E s := by
  obtain ⟨oc, odf, osl, hf⟩ := F.fn
  obtain ⟨cc, hcl, ccl, ccd, csl, hcc⟩ := F.cell
  obtain ⟨cda, oc', odc, vs, sl', file, tf, hcode, hcda, hvs, hfile⟩ := F.code
  have Xs : K.In s.heap := X.keeps k
  obtain ⟨hh, g, d, t, os⟩ := s
  obtain ⟨oD, hD1, hD2⟩ : ∃ oD, hh.get? D = some oD ∧ oD.data = .cls cd := by
    have hD := AC.cls
    unfold clsIn at hD
    split at hD
    · rename_i c d cd' sl ho
      cases hD
      exact ⟨_, Xs _ _ ho, rfl⟩
    · cases hD
  refine ks_wpAt_super_base (env := callEnv fd L f) F.sup F.cls hat rfl (Xs _ _ hf) rfl F.par hcode (Xs _ _ hcda) rfl hvs hfile F.top ?_
  refine ks_loadName_global F.kind F.sup (loadGlobal_builtin (env := callEnv fd L f) (mg := mg) (mb := mb) ?_ F.mgS ?_ F.mbS ⟨rfl, ?_⟩)
  · show hh.Ns fd.globals mg
    rw [F.glob]; exact F.Tg.keeps k
  · show hh.Ns fd.builtins mb
    rw [F.bui]; exact F.Tb.keeps k
  refine wpAny_loadName_free (c := cc) F.kind F.cls ?_ ⟨_, Xs _ _ hcc, rfl⟩ ?_
  · show fd.closure.lookup _ = _
    rw [hcl]; rfl
  refine wpAny_loadName_local F.kind F.parK hn hm ?_
  refine ks_wpAny_isType_cls hD1 hD2 ⟨rfl, ?_⟩
  refine ks_wpAny_call_super hD1 hD2 I.at_ I.cls hnc (looks_mroIn Xs AC.self) (fun h' e k' => ?_)
  exact h h' e k'

/-- a method's call without arguments -/
theorem at_method {c : Code} {env : Env} {o : PySem.Expr} {name : Str} {apos pos : Pos} {s : Shared} {Q : Value → Shared → Prop} (hline : (apos.endLine == pos.line) = true)
    (h : _root_.PySem.wpAt (model prog w) A c (attributeBase o name env (eval o env)) (fun ov s₁ => ∀ pl : Sem Bool, wpAny (model prog w) A (getMethod ov name pl) (fun fx s₂ => wpAny (model prog w) A (callWith pos fx.1 fx.2 [] []) Q E s₂) E s₁) E s) :
    _root_.PySem.wpAt (model prog w) A c (eval (.Call (.Attribute o name apos) [] [] pos) env) Q E s := by
  rw [arm_eval_Call]
  have hpos : methodCallPos true o env apos pos = pure pos := by unfold methodCallPos; simp [hline]
  refine _root_.PySem.wpAt_bind (ks_wpAt_mono h (fun ov s₁ h₁ => _root_.PySem.wpAt_of_wpAny (wpAny_bind (wpAny_standAt ?_))) fun _ _ x => x)
  show wpAny _ A (methodCall o name apos pos env ov 0 [] []) Q E s₁
  unfold methodCall
  rw [show methodCallForm 0 [] [] = true from rfl]
  refine wpAny_bind (wpAny_holding (wpAny_mono (h₁ _) (fun fx s₂ h₂ => ?_) fun _ _ x => x))
  exact wpAny_bind (wpAny_of_eq hpos h₂)

/-- a bound built-in is called -/
theorem callWith_bound {pos : Pos} {q x : Addr} {bt id : String} {s : Shared} {Q : Value → Shared → Prop} (hbt : bt = "method-wrapper" ∨ bt = "builtin_function_or_method") (hq : s.heap.get? q = some (boundObj bt id x)) (h : wpAny (model prog w) A (call (.ref q) []) Q E s) :
    wpAny (model prog w) A (callWith pos (.ref q) [] [] []) Q E s := by
  refine callWith_of (P := fun h => h.get? q = some (boundObj bt id x)) rfl (fun h hp => ⟨.machine, .inr (.inl rfl), ?_⟩) (evalArgs_nil3 ⟨hq, h⟩)
  refine (Looks.ld (part := none) hp).andThen (.of_pure ?_)
  rcases hbt with rfl | rfl <;> rfl

theorem pc_ok {s : Shared} {a dd : Addr} {size : Int} {vs : Array Value} {p0 p1 p2 p3 p4 : Pos} (F : SupFn prog hB mg mb K f D ar fd) (AC : AccC prog w K D cd) (X : K.In hB) (hlim : hB.NoLimit)
    (hbody : fd.body = .stmts [.Return (some (.Call (.Attribute (.Call (.Name "super" p0) [] [] p1) "__len__" p2) [] [] p3)) p4]) (hline : (p2.endLine == p3.line) = true)
    (hbind : ∀ v : Value, bindArgs fd ⟨[v], []⟩ = pure [(ar.arg, v)]) (k : ∀ b o, hB.get? b = some o → s.heap.get? b = some o) (hroom : A.depth < recursionLimit) (at_ : AccAt D s.heap a dd size vs) :
    wpAny (model prog w) A (call (.ref f) [.ref a]) (fun v s' => Goes s s' ∧ ∃ t, v = .int vs.size t) Fls s := by
  refine wpAny_call (sup_enter F X hlim hbody k hroom (.of_eq (hbind _)) (fun x hx => by cases List.mem_singleton.mp hx; exact F.parK) fun h₀ hn hk => ?_)
  refine ks_wpAt_execs_cons (ks_wpAt_Return_some (at_method hline ?_))
  obtain ⟨n, od, I, ha, _⟩ := at_.inst
  have I0 : W.InstAt h₀ a ⟨.ref D, some dd, .seq vs n, #[]⟩ D (some od) := ⟨hk _ _ I.at_, I.cls, I.no, hk _ _ I.dict⟩
  refine sup_base F AC X (fun b o e => hk b o (k b o e)) hn (by simp) I0 (by simp) (by decide) fun h1 hso hk1 pl => ?_
  have I1 : W.InstAt h1 a ⟨.ref D, some dd, .seq vs n, #[]⟩ D (some od) := ⟨hk1 _ _ I0.at_, I.cls, I.no, hk1 _ _ I0.dict⟩
  have X1 : K.In h1 := X.keeps fun b o e => hk1 b o (hk b o (k b o e))
  have hcls : Looks (model prog w) h1 (mroOf (.ref D)) cd.mro := (looks_clsIn X1 AC.cls).andThen .now
  refine sup_method hso (AC.no _ X1) hcls rfl X1 AC.len FS.type_len FS.slot_wd FS.entry_wd (FS.args_wd _ _ _) (bt := "method-wrapper") (fun A' P E' hp => wd_len (s := ⟨h1, _, _, _, _⟩) (inst_sub X1 I1 AC.list) hp) (inst_ne X1 I1 AC.cls) (by decide) ?_
  refine callWith_bound (bt := "method-wrapper") (id := "list.__len__") (x := a) (.inl rfl) (Heap.get?_push_size _ rfl) ?_
  refine call_len (Heap.get?_push_size _ rfl) (Heap.get?_push_of_some _ I1.at_) ?_
  exact ⟨⟨_, _, rfl, fun b o e => Heap.get?_push_of_some _ (hk1 b o (hk b o e))⟩, _, rfl⟩
end
end Mine
end

section
open PySem PySem.W PyProof.Rows PySem.Calls PySem.SeqAt
set_option maxRecDepth 100000
set_option linter.unusedSimpArgs false
namespace Mine

section
variable {prog : Program} {w : World} {A : Around} {E : Value → Shared → Prop}
theorem any_method {env : Env} {o : PySem.Expr} {name : Str} {apos pos : Pos} {s : Shared} {Q : Value → Shared → Prop} (hline : (apos.endLine == pos.line) = true) (hc : isCall o = false)
    (h : wpAny (model prog w) A (eval o env) (fun ov s₁ => ∀ pl : Sem Bool, wpAny (model prog w) A (getMethod ov name pl) (fun fx s₂ => wpAny (model prog w) A (callWith pos fx.1 fx.2 [] []) Q E s₂) E s₁) E s) :
    wpAny (model prog w) A (eval (.Call (.Attribute o name apos) [] [] pos) env) Q E s := by
  rw [arm_eval_Call, base_plain hc]
  have hpos : methodCallPos true o env apos pos = pure pos := by unfold methodCallPos; simp [hline]
  refine wpAny_bind (wpAny_mono h (fun ov s₁ h₁ => wpAny_bind (wpAny_standAt ?_)) fun _ _ x => x)
  show wpAny _ A (methodCall o name apos pos env ov 0 [] []) Q E s₁
  unfold methodCall
  rw [show methodCallForm 0 [] [] = true from rfl]
  refine wpAny_bind (wpAny_holding (wpAny_mono (h₁ _) (fun fx s₂ h₂ => ?_) fun _ _ x => x))
  exact wpAny_bind (wpAny_of_eq hpos h₂)
end

theorem Goes.step {hB : Heap} {os : OsState} {C : Addr} {ρ : Rho} {σ : Sto} {s s' : Shared} (x : Goes s s') (G : StG hB os C ρ σ s) : StG hB os C ρ σ s' ∧ Step ρ s ρ s' := by
  obtain ⟨h', t, rfl, k⟩ := x
  exact ⟨G.keeps k t, Step.keeps G k t⟩

/-- the class's defs, the machine's side -/
structure AccFns (X : Cx) (mg mb : Str → Option Value) (K : Frag) (cd : ClassData) (arP : Arg) (fdP : FuncData) (p0 p1 p2 p3 p4 : Pos) : Prop where
  ins : K.In X.hB
  lim : X.hB.NoLimit
  cls : AccC X.prog X.w K X.N.acc cd
  pcF : SupFn X.prog X.hB mg mb K X.N.pc X.N.acc arP fdP
  pcBody : fdP.body = .stmts [.Return (some (.Call (.Attribute (.Call (.Name "super" p0) [] [] p1) "__len__" p2) [] [] p3)) p4]
  pcLine : (p2.endLine == p3.line) = true
  pcBind : ∀ v : Value, bindArgs fdP ⟨[v], []⟩ = pure [(arP.arg, v)]
  pcKeep : Kp X (.ref X.N.pc)
  pcGet : ∀ h a dd size vs, (∀ b o, X.hB.get? b = some o → h.get? b = some o) → AccAt X.N.acc h a dd size vs → ∀ pl, Looks (model X.prog X.w) h (getMethod (.ref a) "part_count" pl) (.ref X.N.pc, [.ref a])

section
variable {X : Cx} {mg mb : Str → Option Value} {K : Frag} {cd : ClassData} {ar arP : Arg} {fd fdP : FuncData} {p0 p1 p2 p3 p4 : Pos}

theorem partcount_ok (FF : AccFns X mg mb K cd arP fdP p0 p1 p2 p3 p4) {A : Around} {ρ : Rho} {σ : Sto} {s : Shared} {r : Nat} {size : Int} {xs : List AV} {vals : List Value} (hA : AOk (X.d + 1) A) (G : StG X.hB X.os X.N.acc ρ σ s) (R : RelVs X.hB ρ s.heap [.ref r] vals)
    (hc : σ[r]? = some (.acc size xs)) : wpAny (model X.prog X.w) A (call (.ref X.N.pc) vals) (PostV X.hB X.os X.N.acc ρ s (.int xs.length) σ) Fls s := by
  obtain ⟨v, rfl, r1⟩ := RelVs.one R
  obtain ⟨p, hp, rfl⟩ := r1.refE
  obtain ⟨us, at_, rs⟩ := G.cell _ _ _ hc hp
  refine wpAny_mono (pc_ok FF.pcF FF.cls FF.ins FF.lim FF.pcBody FF.pcLine FF.pcBind G.base hA.room at_) (fun v s' h => ?_) fun _ _ x => x
  obtain ⟨g, t, rfl⟩ := h
  obtain ⟨G', T'⟩ := g.step G
  have hl := rs.length
  have : ((us.toArray.size : Nat) : Int) = (xs.length : Int) := by simp [hl]
  rw [this]
  exact ⟨ρ, T', G', .int _ t⟩

theorem pop_tst {q1 q2 q3 q4 q5 : Pos} {k0 : Nat} {tst : PySem.Expr} (FF : AccFns X mg mb K cd arP fdP p0 p1 p2 p3 p4) (etst : tst = .Compare (.Call (.Attribute (.Name ar.arg q1) "part_count" q2) [] [] q3) [.Eq] [.Constant (.int 0) k0 q4] q5)
    (hl1 : (q2.endLine == q3.line) = true) (hdb : (ar.arg == ("__debug__" : Str)) = false) {A : Around} {ρ : Rho} {σ : Sto} {s : Shared} {r : Nat} {size : Int} {xs : List AV} {env : Env} {p : Addr × Addr} (hkind : env.scope.kind = .function) (hkp : env.kindOf ar.arg = some .local)
    (hn : s.heap.Ns env.locals (fun x => List.lookup x [(ar.arg, Value.ref p.1)].reverse)) (hA : AOk (X.d + 1) A) (G0 : StG X.hB X.os X.N.acc ρ σ s) (hp : ρ[r]? = some p) (hc : σ[r]? = some (.acc size xs)) {Q : Bool → Shared → Prop}
    (hQ : ∀ ρ1 s1, Step ρ s ρ1 s1 → StG X.hB X.os X.N.acc ρ1 σ s1 → Q (decide (xs.length = 0)) s1) : wpAny (model X.prog X.w) A (PySem.isTrue tst env (eval tst env)) Q Fls s := by
  subst etst
  refine wpAny_isTrue_Compare1 (any_method hl1 rfl ?_) rfl
  refine wpAny_Name (wpAny_loadName_local (v := .ref p.1) hkind hkp hn (by simp) ?_) hdb
  intro pl
  refine ((G0.cell _ _ _ hc hp).elim fun _ c => FF.pcGet _ _ _ _ _ G0.base c.1 pl).here ?_
  refine callWith_of (P := fun h => ∀ b o, X.hB.get? b = some o → h.get? b = some o) rfl (fun h hp => ?_) (evalArgs_nil3 ⟨G0.base, ?_⟩)
  · exact FF.pcKeep.elim fun k c => ⟨k, c.1, c.2.keeps hp⟩
  refine wpAny_mono (partcount_ok FF hA G0 (.cons (.ref hp) .nil) hc) (fun v s1 h1 => ?_) fun _ _ f => f.elim
  obtain ⟨ρ1, T1, G1, rv⟩ := h1
  refine wpAny_Constant_int ?_
  refine cmpop_ok (c := decide (xs.length = 0)) (a := .int xs.length) (b := .int 0) (op := .Eq) (ρ := ρ1) (σ := σ) ?_ (G1.toks (s1.toks + 1)) rv (.int 0 s1.toks) (show A.units + 1 < cLine by have := hA.line; omega) ?_
  · show some ((xs.length : Int) == 0) = some (decide (xs.length = 0))
    congr 1
    by_cases hz : xs.length = 0
    · simp [hz]
    · have : ((xs.length : Int) == 0) = false := by simp; intro hh; exact hz (by simp [hh])
      rw [this]; simp [hz]
  exact wpAny_truthy_bool (hQ ρ1 _ (T1.trans ((Step.refl G1).toks _)) (G1.toks _))

theorem pop_none {q6 q7 q8 q9 : Pos} {k1 k2 k3 : Nat} {es : Str} {st : PySem.Stmt} (est : st = .Return (some (.Tuple [.Constant (.str es) k1 q6, .Constant (.str es) k2 q7] k3 q8)) q9) (hes : es.cps = #[]) {A : Around} {ρ : Rho} {σ : Sto} {s : Shared} {env : Env} {c : Code} (G1 : StG X.hB X.os X.N.acc ρ σ s) {Q : Flow → Shared → Prop}
    (hQ : ∀ v s', PostV X.hB X.os X.N.acc ρ s emptyPair σ v s' → Q (.ret v) s') : PySem.wpAt (model X.prog X.w) A c (execs [st] env) Q Fls s := by
  subst est
  refine ks_wpAt_execs_cons (ks_wpAt_Return_some (_root_.PySem.wpAt_of_wpAny (wpAny_Tuple ?_)))
  refine wpAny_items_cons (wpAny_Constant_str ?_) rfl
  refine wpAny_items_cons (wpAny_Constant_str ?_) rfl
  refine wpAny_items_nil ⟨by rw [sizeLine_eq']; simp, ?_⟩
  refine hQ _ _ ?_
  have hs : ∀ t, RelV X.hB ρ s.heap (.str []) (.str es t) := fun t => by
    have : es = ⟨([] : List Nat).toArray⟩ := by cases es; simp at hes; rw [hes]
    rw [this]; exact .str [] t
  exact .laid ((Step.refl G1).toks (s.toks + 1 + 1)) (.tuple (G1.toks (s.toks + 1 + 1)) (.cons (hs _) (.cons (hs _) .nil)) _)

theorem pop_last {r0 r1 r2 r3 r4 : Pos} {st : PySem.Stmt} (FF : AccFns X mg mb K cd arP fdP p0 p1 p2 p3 p4) (F : SupFn X.prog X.hB mg mb K X.N.pop X.N.acc ar fd) (est : st = .Return (some (.Call (.Attribute (.Call (.Name "super" r0) [] [] r1) "pop" r2) [] [] r3)) r4) (hl2 : (r2.endLine == r3.line) = true)
    {A : Around} {body : List PySem.Stmt} {ρ1 : Rho} {σ : Sto} {s1 : Shared} {r : Nat} {size : Int} {xs : List AV} {x : AV} {p : Addr × Addr} {a : Addr} (G1 : StG X.hB X.os X.N.acc ρ1 σ s1) (hp : ρ1[r]? = some p) (hc : σ[r]? = some (.acc size xs)) (hsz' : xs.length ≤ 1000000) (hz : xs.length ≠ 0)
    (hn1 : s1.heap.Ns a (fun y => List.lookup y [(ar.arg, Value.ref p.1)].reverse)) (hx : xs.getLast? = some x) {Q : Flow → Shared → Prop} (hQ : ∀ v s', PostV X.hB X.os X.N.acc ρ1 s1 x (σ.set r (.acc size xs.dropLast)) v s' → Q (.ret v) s') :
    PySem.wpAt (model X.prog X.w) (A.deeper (callEnv fd a X.N.pop)) (.func body (callEnv fd a X.N.pop)) (execs [st] (callEnv fd a X.N.pop)) Q Fls s1 := by
  subst est
  refine ks_wpAt_execs_cons (ks_wpAt_Return_some (at_method hl2 ?_))
  obtain ⟨us1, at1, rs1⟩ := G1.cell _ _ _ hc hp
  obtain ⟨n1, od1, I1, ha1, _⟩ := at1.inst
  have hAtt : (("pop" : Str) == ("__class__" : Str)) = false := by decide
  refine sup_base (s := s1) F FF.cls FF.ins G1.base hn1 (by simp) I1 (by simp) hAtt fun h2 hso hk2 pl => ?_
  have I2 : W.InstAt h2 p.1 ⟨.ref X.N.acc, some p.2, .seq us1.toArray n1, #[]⟩ X.N.acc (some od1) := ⟨hk2 _ _ I1.at_, I1.cls, I1.no, hk2 _ _ I1.dict⟩
  have X2 : K.In h2 := FF.ins.keeps fun b o e => hk2 b o (G1.base b o e)
  have hcls : Looks (model X.prog X.w) h2 (mroOf (.ref X.N.acc)) cd.mro := (looks_clsIn X2 FF.cls.cls).andThen .now
  refine sup_method hso (FF.cls.no _ X2) hcls rfl X2 FF.cls.pop FS.type_pop FS.slot_md FS.entry_md (FS.args_md _ _ _) (bt := "builtin_function_or_method") (fun A' P E' hp => md_pop (s := ⟨h2, _, _, _, _⟩) (inst_sub X2 I2 FF.cls.list) hp) (inst_ne X2 I2 FF.cls.cls) hAtt ?_
  refine callWith_bound (bt := "builtin_function_or_method") (id := "list.pop") (x := p.1) (.inr rfl) (Heap.get?_push_size _ rfl) ?_
  generalize hh3 : h2.push (boundObj "builtin_function_or_method" "list.pop" p.1) = h3
  have hk3 : ∀ b o, h2.get? b = some o → h3.get? b = some o := fun b o e => hh3 ▸ Heap.get?_push_of_some _ e
  have I3 : W.InstAt h3 p.1 ⟨.ref X.N.acc, some p.2, .seq us1.toArray n1, #[]⟩ X.N.acc (some od1) := ⟨hk3 _ _ I2.at_, I2.cls, I2.no, hk3 _ _ I2.dict⟩
  have hlen1 := rs1.length
  have g3 : Goes s1 { s1 with heap := h3, toks := s1.toks + 1 } := ⟨h3, _, rfl, fun b o e => hk3 b o (hk2 b o e)⟩
  have gt3 := g3.step G1
  have hy : ∃ y, us1.getLast? = some y ∧ RelV X.hB ρ1 s1.heap x y := by
    rw [List.getLast?_eq_getElem?] at hx ⊢
    obtain ⟨y, a, b⟩ := rs1.get hx
    exact ⟨y, by rw [← hlen1]; exact a, b⟩
  refine hy.elim fun y yy => ?_
  refine call_pop (K := K) (C := X.N.acc) (cd := cd) (y := y) (hh3 ▸ Heap.get?_push_size _ rfl) (FF.ins.keeps fun b o e => hk3 b o (hk2 b o (G1.base b o e))) I3 FF.cls.mod FF.cls.cls FF.cls.typ FF.cls.popA (by simpa using yy.1) (by simp [sizeLine_eq']; omega) (hQ _ _ ?_)
  have rs3 : RelVs X.hB ρ1 h3 xs.dropLast us1.dropLast := by
    have a := (gt3.2.rels G1 rs1).take (xs.length - 1)
    rw [List.dropLast_eq_take, List.dropLast_eq_take, ← hlen1]
    exact a
  have at3 : AccAt X.N.acc h3 p.1 p.2 size us1.toArray := by
    obtain ⟨⟨nn, e1⟩, hs, kk, tt, j, e2⟩ := at1
    exact ⟨⟨nn, hk3 _ _ (hk2 _ _ e1)⟩, hs, kk, tt, j, hk3 _ _ (hk2 _ _ e2)⟩
  have turn := acc_turn gt3.1 hp hc (f := fun ys => ys.eraseIdxIfInBounds (us1.toArray.size - 1)) (ws := us1.dropLast) at3 (by
    have hpos : us1.length - 1 < us1.length := by omega
    unfold Array.eraseIdxIfInBounds
    rw [dif_pos (by simpa using hpos)]
    simp [List.eraseIdx_length_sub_one]) rs3 (s1.toks + 1)
  exact .laid gt3.2 ⟨ρ1, turn.2, turn.1, turn.2.rel gt3.1 (gt3.2.rel G1 yy.2)⟩

theorem pop_ok {q1 q2 q3 q4 q5 q6 q7 q8 q9 q10 r0 r1 r2 r3 r4 : Pos} {k0 k1 k2 k3 : Nat} {es : Str} (FF : AccFns X mg mb K cd arP fdP p0 p1 p2 p3 p4) (F : SupFn X.prog X.hB mg mb K X.N.pop X.N.acc ar fd)
    (hbody : fd.body = .stmts [.If (.Compare (.Call (.Attribute (.Name ar.arg q1) "part_count" q2) [] [] q3) [.Eq] [.Constant (.int 0) k0 q4] q5) [.Return (some (.Tuple [.Constant (.str es) k1 q6, .Constant (.str es) k2 q7] k3 q8)) q9] [] q10,
      .Return (some (.Call (.Attribute (.Call (.Name "super" r0) [] [] r1) "pop" r2) [] [] r3)) r4]) (hes : es.cps = #[]) (hl1 : (q2.endLine == q3.line) = true) (hl2 : (r2.endLine == r3.line) = true) (hdb : (ar.arg == ("__debug__" : Str)) = false)
    (hbind : ∀ v : Value, bindArgs fd ⟨[v], []⟩ = pure [(ar.arg, v)])
    {A : Around} {ρ : Rho} {σ : Sto} {s : Shared} {r : Nat} {size : Int} {xs : List AV} {vals : List Value} (hA : AOk (X.d + 2) A) (G : StG X.hB X.os X.N.acc ρ σ s) (R : RelVs X.hB ρ s.heap [.ref r] vals)
    (hc : σ[r]? = some (.acc size xs)) (hsz : sizeOk xs.length = true) {Q : Value → Shared → Prop}
    (hQ0 : xs = [] → ∀ v s', PostV X.hB X.os X.N.acc ρ s emptyPair σ v s' → Q v s')
    (hQ1 : ∀ x, xs.getLast? = some x → ∀ v s', PostV X.hB X.os X.N.acc ρ s x (σ.set r (.acc size xs.dropLast)) v s' → Q v s') :
    wpAny (model X.prog X.w) A (call (.ref X.N.pop) vals) Q Fls s := by
  have hsz' := sizeOk_le hsz
  obtain ⟨v, rfl, rr⟩ := RelVs.one R
  obtain ⟨p, hp, rfl⟩ := rr.refE
  generalize e1 : PySem.Expr.Compare _ _ _ _ = tst at hbody
  generalize e2 : PySem.Stmt.Return (some (PySem.Expr.Tuple _ _ _)) _ = st1 at hbody
  generalize e3 : PySem.Stmt.Return (some (PySem.Expr.Call _ _ _ _)) _ = st2 at hbody
  refine wpAny_call (sup_enter F FF.ins FF.lim hbody G.base hA.room (.of_eq (hbind _)) (fun x hx => by cases List.mem_singleton.mp hx; exact F.parK) fun h₀ hn hk => ?_)
  have g0 : Goes s { s with heap := h₀, toks := s.toks + 1 } := ⟨h₀, _, rfl, hk⟩
  have gt0 := g0.step G
  refine ks_wpAt_execs_cons (ks_wpAt_If (_root_.PySem.wpAt_of_wpAny (pop_tst (env := callEnv fd s.heap.objs.size X.N.pop) FF e1.symm hl1 hdb F.kind F.parK hn (hA.deeper _) gt0.1 hp hc fun ρ1 s1 T1 G1 => ?_)))
  have T01 := gt0.2.trans T1
  by_cases hz : xs.length = 0
  · rw [decide_eq_true hz]
    dsimp only
    rw [if_pos rfl]
    exact pop_none e2.symm hes G1 fun v s' z => hQ0 (List.length_eq_zero_iff.mp hz) _ _ (.laid T01 z)
  · rw [decide_eq_false hz]
    dsimp only
    rw [if_neg Bool.false_ne_true]
    have hne : xs ≠ [] := fun e => hz (by rw [e]; rfl)
    refine _root_.PySem.wpAt_of_wpAny (wpAny_execs_nil ?_)
    refine pop_last FF F e3.symm hl2 G1 (T1.grow.get hp) hc hsz' hz (Ns.keepAt hn fun o e => T1.keep _ _ e fun ⟨q, hq, z⟩ => ?_) (List.getLast?_eq_some_getLast hne) fun v s' z => hQ1 _ (List.getLast?_eq_some_getLast hne) _ _ (.laid T01 z)
    have a := G.lies ⟨q, hq, rfl⟩
    rw [z, get_size] at a; cases a
end
end Mine
end

section
open PySem PySem.W PyProof.Rows PySem.Calls PySem.SeqAt
set_option maxRecDepth 100000
set_option linter.unusedSimpArgs false
namespace Mine

noncomputable def newSigV : Manifest.Signature := (Manifest.signature? "list.__new__").get (by decide +kernel)
theorem newSigV_is : Manifest.signature? "list.__new__" = some newSigV := (Option.some_get _).symm
noncomputable abbrev listObj (C dx : Addr) : Obj := { cls := .ref C, dict := some dx, data := .seq #[] }

/-- what is asked of a class whose objects are lists -/
structure MakesL (M : Model) (h : Heap) (C : Addr) : Prop where
  obj : ∃ oc od cd sl, h.get? C = some ⟨oc, od, .cls cd, sl⟩ ∧ cd.abstract = false ∧ cd.hasDel = false ∧ cd.mro.isEmpty = false ∧ cd.hasDict = true
  made : Looks M h (Bind.madeBy (.ref C)) (some "list.__new__")
  base : Looks M h (Bind.staticBase (.ref C)) (.ref C)
  self : Looks M h (isSubtype (.ref C) (.ref C)) true
  list : Looks M h (isSubtype (.ref C) (.type "list")) true
  call : Looks M h (specialOf (.ref C) "__call__") (some (.builtin "type.__call__"))
  typ : Looks M h (isInstance (.ref C) (.type "type")) true
  isT : Looks M h (isType (.ref C)) true

theorem MakesL.keeps {M : Model} {h h' : Heap} {C : Addr} (x : MakesL M h C) (k : ∀ b o, h.get? b = some o → h'.get? b = some o) : MakesL M h' C := by
  obtain ⟨⟨oc, od, cd, sl, a, b⟩, h1, h2, h3, h4, h5, h6, h7⟩ := x
  exact ⟨⟨oc, od, cd, sl, k _ _ a, b⟩, h1.keeps k, h2.keeps k, h3.keeps k, h4.keeps k, h5.keeps k, h6.keeps k, h7.keeps k⟩

theorem new_kind : builtinKind "list.__new__" = some .builtinFn := by decide +kernel
theorem new_split : splitId "list.__new__" = some ("list", "__new__") := by decide +kernel
section
variable {prog : Program} {w : World} {A : Around} {K : Frag} {C : Addr} {R : Result → Shared → Prop} {h : Heap} {g : Array GenState} {d : Drawn} {t : Nat} {os : OsState}

theorem new_args (a : Value) : Bind.checkArgs "list.__new__" newSigV ⟨[.ref C, a], []⟩ = pure () := by kernel_rfl

theorem new_L {a : Value} (Y : MakesL (model prog w) h C) (hq : R (.ok (.ret (.ref (h.objs.size + 1)))) ⟨(h.push emptyDict).push (listObj C h.objs.size), g, d, t, os⟩) :
    codeAny (model prog w) A (.call (.builtin "list.__new__") ⟨[.ref C, a], []⟩) R ⟨h, g, d, t, os⟩ := by
  obtain ⟨⟨oc, od, cd, sl, hC, e1, e2, e4, e5⟩, made, base, self, list, call, typ, isT⟩ := Y
  refine codeAny_call_builtin_code (Code.quiet_builtin _ (by decide +kernel)) ?_
  unfold checkBuiltinCall
  rw [new_kind]
  dsimp only
  rw [new_split]
  dsimp only
  refine KFB.if_so (by decide) ?_
  refine wpAny_bind (isT.at ?_)
  refine KFB.if_not rfl ?_
  refine wpAny_bind (list.at ?_)
  refine KFB.if_not rfl ?_
  refine wpAny_bind (base.at ?_)
  refine wpAny_bind (made.at ?_)
  dsimp only
  refine KFB.if_not (by simp) ?_
  rw [newSigV_is]
  dsimp only
  rw [new_args]
  refine wpAny_pure ?_
  refine codeAny_builtin_stack F.entry_list_new rfl fun p st => ?_
  have hown := owner_list_new
  dsimp only
  rw [hown]
  refine wpAny_bind (isT.at ?_)
  refine KFB.if_not rfl ?_
  refine wpAny_bind (list.at ?_)
  refine KFB.if_not rfl ?_
  refine wpAny_bind (wpAny_pure ?_)
  refine KFB.if_not rfl ?_
  show wpAny _ _ ((alloc emptyDict >>= fun x => pure (Value.ref x)) >>= _) _ _ _
  refine wpAny_bind (wpAny_bind (wpAny_alloc (wpAny_pure ?_)))
  dsimp only
  refine wpAny_bind ?_
  show wpAny _ _ (newObjAsIs _ _ _) _ _ _
  unfold newObjAsIs classHasDel
  refine wpAny_bind (wpAny_alloc (wpAny_bind (wpAny_bind (wpAny_load (Heap.get?_push_of_some _ (Heap.get?_push_of_some _ hC)) (wpAny_pure ?_)))))
  rw [e2]
  refine wpAny_pure (wpAny_pure ?_)
  show R _ _
  rw [Heap.size_push]
  exact hq

theorem make_L {a : Value} {init : Value} (Y : MakesL (model prog w) h C) (hi : Looks (model prog w) h (typeLookup (.ref C) "__init__") (some init))
    (hb : ∀ self, Looks (model prog w) h (bindSpecial init self) (init, [self]))
    (hq : codeAny (model prog w) (A.under (.builtin "type.__call__" ⟨[.ref C, a], []⟩)) (.call init ⟨[.ref (h.objs.size + 1), a], []⟩) (InitBack (h.objs.size + 1) R) ⟨(h.push emptyDict).push (listObj C h.objs.size), g, d, t, os⟩) :
    codeAny (model prog w) A (.call (.ref C) ⟨[a], []⟩) R ⟨h, g, d, t, os⟩ := by
  have Y' := Y
  obtain ⟨⟨oc, od, cd, sl, hC, e1, e2, e4, e5⟩, made, base, self, list, call, typ, isT⟩ := Y
  refine codeAny_of_tree ?_
  show wpAny _ _ (callAny (.ref C) _) _ _ _
  refine nd_load hC ?_
  show wpAny _ _ (callAny.viaDunder (.ref C) _) _ _ _
  unfold callAny.viaDunder
  refine wpAny_bind (call.at ?_)
  dsimp only
  rw [tc_bind]
  refine wpAny_bind (wpAny_pure (wpAny_bind (wpAny_pure ?_)))
  refine wpAny_pure (a := Fin.again (.call (.builtin "type.__call__") ⟨[.ref C, a], []⟩)) (And.intro rfl ?_)
  refine codeAny_call_builtin_at (Code.quiet_builtin _ (by decide +kernel)) entry_typeCall (check_slot tc_kind tc_split typ (tc_args _ _ _) ?_)
  unfold Builtin.«type.__call__»
  have hm : Looks (model prog w) h (mroOf (.ref C)) cd.mro := ((Looks.ld (part := none) hC).andThen .now).andThen .now
  repeat (first | simp only [e4, Bool.false_eq_true, if_false] | with_reducible refine wpAny_call ?_ | lk)
  refine new_L Y' ?_
  have k : ∀ b o, h.get? b = some o → ((h.push emptyDict).push (listObj C h.objs.size)).get? b = some o := fun b o e => Heap.get?_push_of_some _ (Heap.get?_push_of_some _ e)
  have hx : ((h.push emptyDict).push (listObj C h.objs.size)).get? (h.objs.size + 1) = some (listObj C h.objs.size) := by heap_get
  have t1 : Looks (model prog w) ((h.push emptyDict).push (listObj C h.objs.size)) (typeOf (.ref (h.objs.size + 1))) (.ref C) := (Looks.ld hx).andThen .now
  have s1 := self.keeps k
  have i1 := hi.keeps k
  have b1 := (hb (.ref (h.objs.size + 1))).keeps k
  unfold isInstance callSpecial? specialOf
  repeat (first | with_reducible refine wpAny_call ?_ | lk)
  refine codeAny_mono hq fun r s' z => ?_
  rcases r with e | (v | _ | _ | _) <;> first | exact z | exact z.elim | skip
  obtain ⟨rfl, z⟩ := z
  exact wpAny_pure (wpAny_pure z)
end
end Mine
end

section
open PySem PySem.W PyProof.Rows PySem.Calls PySem.SeqAt
set_option maxRecDepth 100000
set_option linter.unusedSimpArgs false
namespace Mine

section
variable {prog : Program} {w : World} {A : Around} {E : Value → Shared → Prop} {K : Frag} {C x dx : Addr} {s : Shared} {cd : ClassData} {R : Result → Shared → Prop}

theorem set_first {ox : Obj} {name : Str} {v : Value} {Q : Unit → Shared → Prop} (X : K.In s.heap) (I : InstAt s.heap x ox C (some emptyDict)) (hd : ox.dict = some dx)
    (hs : findIn K (.ref C) "__setattr__" = some (some (.builtin "object.__setattr__"))) (hc : clsIn K C = some cd) (hr : ∀ self, refuseLoop self "__setattr__" cd.mro = pure ()) (hob : subIn K (.ref C) (.type "object") = some true)
    (ht : findIn K (.ref C) name = some none) (hh : cd.hasDict = true)
    (h : ∀ h', h'.get? dx = some ⟨.type "dict", none, .dict #[⟨PyData.keyHash w.params name, .str name (s.toks + 1), v⟩] 1, #[]⟩ → Heap.SameBut dx s.heap h' → Q () { s with heap := h', toks := s.toks + 2 }) :
    wpAny (model prog w) A (setAttr (.ref x) name v) Q E s := by
  refine set_plain X I hs ?_
  have SF := PySem.F.store_object
  have sub : Looks (model prog w) s.heap (isInstance (.ref x) (.type "object")) true := I.type.andThen (looks_subIn X hob)
  have tyx : Looks (model prog w) s.heap (typeOf (.ref x)) (.ref C) := I.type
  obtain ⟨hh', g, d, t, os⟩ := s
  refine codeAny_call_builtin SF.slot.plain SF.entry (@check_slot (model prog w) _ _ ⟨hh', g, d, t + 1, os⟩ "object.__setattr__" "object" "__setattr__" (.ref x) [.str name t, v] [] _ SF.kind SF.split sub (SF.args (.ref x) (.str name t) v) ?_)
  have hm : Looks (model prog w) hh' (mroOf (.ref C)) cd.mro := (looks_clsIn X hc).andThen .now
  rw [osa_eq, refuse_eq]
  refine wpAny_bind (wpAny_bind (tyx.at (wpAny_bind (hm.at ?_))))
  rw [hr]
  refine wpAny_pure (wpAny_bind (tyx.at (wpAny_bind ((looks_findIn (M := model prog w) X ht).at (wpAny_bind (wpAny_pure ?_))))))
  obtain ⟨hx, hcl, hn, hdi⟩ := I
  obtain ⟨oc, odi, oda, osl⟩ := ox
  dsimp only at hcl hd
  subst hcl hd
  dsimp only at hdi hx
  refine wpAny_bind (wpAny_pure (wpAny_bind (wpAny_bind (wpAny_loadPart hx (wpAny_bind ((looks_clsIn (M := model prog w) X hc).at ?_))))))
  rw [hh]
  refine wpAny_pure (a := some dx) (wpAny_bind (wpAny_pure (wpAny_bind ?_)))
  unfold nsSet
  refine wpAny_bind (wpAny_bind (wpAny_askSetting (wpAny_pure (wpAny_bind (wpAny_mkText (wpAny_bind (wpAny_loadPart hdi ?_)))))))
  have c : aRefKeyMayBeTheName name #[] = false := by rw [aRefKeyMayBeTheName_at]; simp
  dsimp only [emptyDict]
  rw [c]
  have ep : Obj.putName name (PyData.keyHash w.params name) (.str name (t + 1)) v emptyDict = ⟨.type "dict", none, .dict #[⟨PyData.keyHash w.params name, .str name (t + 1), v⟩] 1, #[]⟩ := by
    have := putName_dict name (PyData.keyHash w.params name) (.str name (t + 1)) v [] 0
    exact this
  have D' : (hh'.update dx (Obj.putName name (PyData.keyHash w.params name) (.str name (t + 1)) v)).get? dx = some ⟨.type "dict", none, .dict #[⟨PyData.keyHash w.params name, .str name (t + 1), v⟩] 1, #[]⟩ := by
    rw [Heap.get?_update_self _ hdi (by rw [ep]; rfl), ep]
  refine wpAny_updatePart hdi ?_
  refine wpAny_bind (wpAny_lookBehind D' (pastItsLine_dict (es := #[⟨PyData.keyHash w.params name, .str name (t + 1), v⟩]) (by rw [sizeLine_eq']; simp)) ?_)
  exact wpAny_pure (h _ D' (Heap.SameBut.update ..))
end

theorem StG.adoptAcc {hB : Heap} {os : OsState} {C : Addr} {ρ : Rho} {σ : Sto} {s : Shared} (G : StG hB os C ρ σ s) {x dx : Addr} {size : Int} (at_ : AccAt C s.heap x dx size #[]) (h0 : hB.get? x = none ∧ hB.get? dx = none) (sep : ∀ p ∈ ρ, p.1 ≠ x ∧ p.2 ≠ x) :
    StG hB os C (ρ ++ [(x, dx)]) (σ ++ [.acc size []]) s := by
  have gr : Grow hB ρ (ρ ++ [(x, dx)]) := ⟨[(x, dx)], rfl, fun p hp => by simp at hp; subst hp; exact h0⟩
  refine ⟨G.base, by simp [G.len], fun r c p e1 e2 => ?_, fun p hp => ?_, ?_, G.gens, G.os, fun p hp => ?_⟩
  · by_cases hr : r < σ.length
    · rw [List.getElem?_append_left hr] at e1
      rw [List.getElem?_append_left (by rw [G.len]; exact hr)] at e2
      exact (G.cell r c p e1 e2).mono (M := fun _ => False) .refl (fun _ h => h.elim) gr id (fun _ _ _ => id)
    · rw [List.getElem?_append_right (Nat.le_of_not_lt hr)] at e1
      rw [List.getElem?_append_right (by rw [G.len]; exact Nat.le_of_not_lt hr)] at e2
      rw [G.len] at e2
      generalize r - σ.length = k at e1 e2
      cases k with
      | succ k => simp at e1
      | zero =>
        simp at e1 e2
        subst e1; subst e2
        exact ⟨[], at_, .nil⟩
  · rcases List.mem_append.mp hp with q | q
    · exact G.lo p q
    · simp at q; subst q
      exact h0.1
  · rw [List.map_append, List.nodup_append]
    refine ⟨G.apart, by simp, fun a ha b hb => ?_⟩
    simp at hb; subst hb
    obtain ⟨p, hp, rfl⟩ := List.mem_map.mp ha
    exact (sep p hp).1
  · rcases List.mem_append.mp hp with q | q
    · exact G.two p q
    · simp at q; subst q
      obtain ⟨_, hs, kk, tt, j, hd⟩ := at_
      show (s.heap.get? dx).isSome = true
      rw [hd]; rfl

theorem weight_make (C : Addr) (a : Value) : (Code.builtin "type.__call__" ⟨[.ref C, a], []⟩).weight = 1 := by first | rfl | kernel_rfl

section
variable {X : Cx} {mg mb : Str → Option Value} {K : Frag} {cd : ClassData} {ar : Arg} {fd : FuncData} {fI : Addr}

theorem new_ok {p1 p2 p3 p4 r0 r1 r2 r3 r4 : Pos} {sz : Str} (KX : K.In X.hB) (hlim : X.hB.NoLimit) (Y : MakesL (model X.prog X.w) X.hB X.N.acc) (AC : AccC X.prog X.w K X.N.acc cd) (F : SupFn X.prog X.hB mg mb K fI X.N.acc ar fd)
    (hi : findIn K (.ref X.N.acc) "__init__" = some (some (.ref fI))) (hf : typeIn K (.ref fI) = some (.type "function"))
    (hbody : fd.body = .stmts [.Assign [.Attribute (.Name ar.arg p1) "_initial_size" p2] (.Name sz p3) p4, .Expr (.Call (.Attribute (.Call (.Name "super" r0) [] [] r1) "__init__" r2) [] [] r3) r4]) (hl2 : (r2.endLine == r3.line) = true)
    (hdb : (ar.arg == ("__debug__" : Str)) = false) (hdz : (sz == ("__debug__" : Str)) = false) (hne : sz ≠ ar.arg) (hkz : fd.scope.names.lookup sz = some .local)
    (hbind : ∀ (M : Model) (x : Addr) (i : Int) (t : Tok), Looks M X.hB (bindArgs fd ⟨[.ref x, .int i t], []⟩) [(ar.arg, .ref x), (sz, .int i t)])
    (hs : findIn K (.ref X.N.acc) "__setattr__" = some (some (.builtin "object.__setattr__"))) (hr : ∀ self, refuseLoop self "__setattr__" cd.mro = pure ()) (hob : subIn K (.ref X.N.acc) (.type "object") = some true)
    (ht : findIn K (.ref X.N.acc) "_initial_size" = some none) (hh : cd.hasDict = true)
    {A : Around} {ρ : Rho} {σ : Sto} {s : Shared} {size : Int} {vals : List Value} (hA : AOk (X.d + 2) A) (G : StG X.hB X.os X.N.acc ρ σ s) (R : RelVs X.hB ρ s.heap [.int size] vals) :
    wpAny (model X.prog X.w) A (call (.ref X.N.acc) vals) (PostV X.hB X.os X.N.acc ρ s (.ref σ.length) (σ ++ [.acc size []])) Fls s := by
  obtain ⟨v, rfl, rv⟩ := RelVs.one R
  cases rv
  rename_i tsz
  obtain ⟨h, g, d, t, os⟩ := s
  have base := G.base
  dsimp only at base
  refine wpAny_call (make_L (Y.keeps base) ((looks_findIn KX hi).keeps base) (fun self => (bind_fn KX self hf).keeps base) ?_)
  generalize hh2 : (h.push emptyDict).push (listObj X.N.acc h.objs.size) = h2
  have k2 : ∀ b o, h.get? b = some o → h2.get? b = some o := fun b o e => hh2 ▸ Heap.get?_push_of_some _ (Heap.get?_push_of_some _ e)
  have kB2 : ∀ b o, X.hB.get? b = some o → h2.get? b = some o := fun b o e => k2 b o (base b o e)
  have hx2 : h2.get? (h.objs.size + 1) = some (listObj X.N.acc h.objs.size) := by rw [← hh2]; heap_get
  have hd2 : h2.get? h.objs.size = some emptyDict := by rw [← hh2]; heap_get
  have hroom : (A.under (.builtin "type.__call__" ⟨[.ref X.N.acc, .int size tsz], []⟩)).depth < recursionLimit := by
    show A.depth + _ < _
    rw [weight_make]
    have h1 := hA.depth
    have h2 : recursionLimit = 1000 := rfl
    omega
  refine codeAny_mono (sup_enter (s := ⟨h2, g, d, t, os⟩) F KX hlim hbody kB2 hroom (fun M' A' E' Q' hq => ?_) (binds := [(ar.arg, .ref (h.objs.size + 1)), (sz, .int size tsz)]) ?_ (R := fun r s' => match r with | .ok (.ret v) => v = .none ∧ PostV X.hB X.os X.N.acc ρ ⟨h, g, d, t, os⟩ (.ref σ.length) (σ ++ [.acc size []]) (.ref (h.objs.size + 1)) s' | _ => False) fun h₀ hn hk => ?_) (fun r s' hr => ?_)
  · exact (hbind M' _ _ _).keeps kB2 |>.at hq
  · intro q hq
    rcases List.mem_cons.mp hq with rfl | hq
    · exact F.parK
    · cases List.mem_singleton.mp hq; exact hkz
  · have hn' : h₀.Ns h2.objs.size (fun x => List.lookup x [(ar.arg, Value.ref (h.objs.size + 1)), (sz, .int size tsz)].reverse) := hn
    have hk' : ∀ b o, h2.get? b = some o → h₀.get? b = some o := hk
    generalize hE : callEnv fd h2.objs.size fI = env
    have hloc : env.locals = h2.objs.size := by subst hE; rfl
    have hkind : env.scope.kind = .function := by subst hE; exact F.kind
    have hkp : env.kindOf ar.arg = some .local := by subst hE; exact F.parK
    have hkq : env.kindOf sz = some .local := by subst hE; exact hkz
    have bz : (sz == ar.arg) = false := by simpa using hne
    have bz' : (ar.arg == sz) = false := by simpa using (fun e => hne e.symm)
    have I0 : W.InstAt h₀ (h.objs.size + 1) (listObj X.N.acc h.objs.size) X.N.acc (some emptyDict) := ⟨hk' _ _ hx2, rfl, rfl, hk' _ _ hd2⟩
    refine ks_wpAt_execs_cons (ks_wpAt_Assign_Attr (_root_.PySem.wpAt_of_wpAny ?_) rfl)
    refine wpAny_Name (wpAny_loadName_local (v := .int size tsz) hkind hkq (hloc ▸ hn') (by simp []) ?_) hdz
    refine wpAny_Name (wpAny_loadName_local (v := .ref (h.objs.size + 1)) hkind hkp (hloc ▸ hn') (by simp [List.lookup, bz']) ?_) hdb
    refine set_first (KX.keeps fun b o e => hk' b o (kB2 b o e)) I0 rfl hs AC.cls hr hob ht hh fun h1 hd1 hs1 => ?_
    dsimp only at hd1 hs1 ⊢
    have nx : h.get? (h.objs.size + 1) = none := by
      cases e : h.get? (h.objs.size + 1) with
      | none => rfl
      | some o => exact absurd (Heap.lt_size e) (Nat.not_lt.mpr (Nat.le_succ _))
    have nd : h.get? h.objs.size = none := get_size _
    have k1 : ∀ b o, b ≠ h.objs.size → h₀.get? b = some o → h1.get? b = some o := fun b o n e => (hs1.2 b n).trans e
    have kh1 : ∀ b o, h.get? b = some o → h1.get? b = some o := fun b o e => k1 b o (fun q => by rw [q, nd] at e; cases e) (hk' b o (k2 b o e))
    have hL : h2.objs.size ≠ h.objs.size := fun e => by
      exact Nat.ne_of_gt (Heap.lt_size hd2) e
    have hn1 : h1.Ns h2.objs.size (fun x => List.lookup x [(ar.arg, Value.ref (h.objs.size + 1)), (sz, .int size tsz)].reverse) := Ns.keepAt hn' fun o e => k1 _ o hL e
    have hx1 : h1.get? (h.objs.size + 1) = some (listObj X.N.acc h.objs.size) := k1 _ _ (Nat.succ_ne_self _) I0.at_
    have I1 : W.InstAt h1 (h.objs.size + 1) (listObj X.N.acc h.objs.size) X.N.acc (some _) := ⟨hx1, rfl, rfl, hd1⟩
    have hat : (("__init__" : Str) == ("__class__" : Str)) = false := by decide
    refine ks_wpAt_execs_cons (ks_wpAt_Expr_any (at_method hl2 ?_) (by unfold interactive; rw [hkind]; rfl) rfl)
    rw [← hE]
    refine sup_base (s := ⟨h1, g, d, t + 2 + 2, os⟩) F AC KX (fun b o e => kh1 b o (base b o e)) hn1 (by simp [List.lookup, bz']) I1 (by simp) hat fun h3 hso hk3 pl => ?_
    dsimp only at hso hk3 ⊢
    have I3 : W.InstAt h3 (h.objs.size + 1) (listObj X.N.acc h.objs.size) X.N.acc (some _) := ⟨hk3 _ _ I1.at_, rfl, rfl, hk3 _ _ I1.dict⟩
    have X3 : K.In h3 := KX.keeps fun b o e => hk3 b o (kh1 b o (base b o e))
    have hcls : Looks (model X.prog X.w) h3 (mroOf (.ref X.N.acc)) cd.mro := (looks_clsIn X3 AC.cls).andThen .now
    refine sup_method hso (AC.no _ X3) hcls rfl X3 AC.init FS.type_init FS.slot_wd FS.entry_wd (FS.args_wd _ _ _) (bt := "method-wrapper") (fun A' P E' hp => wd_init (s := ⟨h3, _, _, _, _⟩) (inst_sub X3 I3 AC.list) hp) (inst_ne X3 I3 AC.cls) hat ?_
    refine callWith_bound (bt := "method-wrapper") (id := "list.__init__") (x := h.objs.size + 1) (.inl rfl) (Heap.get?_push_size _ rfl) ?_
    generalize hh4 : h3.push (boundObj "method-wrapper" "list.__init__" (h.objs.size + 1)) = h4
    have hk4 : ∀ b o, h3.get? b = some o → h4.get? b = some o := fun b o e => hh4 ▸ Heap.get?_push_of_some _ e
    have hx4 : h4.get? (h.objs.size + 1) = some (listObj X.N.acc h.objs.size) := hk4 _ _ I3.at_
    refine call_init (hh4 ▸ Heap.get?_push_size _ rfl) hx4 fun n' => _root_.PySem.wpAt_of_wpAny (wpAny_execs_nil ⟨rfl, ?_⟩)
    dsimp only
    obtain ⟨nn, hm⟩ := mapSeq_at (.ref X.N.acc) (some h.objs.size) #[] 0 #[] (fun _ => #[])
    have sb : Heap.SameBut (h.objs.size + 1) h4 (h4.update (h.objs.size + 1) (Obj.mapSeq fun _ => #[])) := Heap.SameBut.update ..
    generalize hh5 : h4.update (h.objs.size + 1) (Obj.mapSeq fun _ => #[]) = h5 at sb ⊢
    have hx5 : h5.get? (h.objs.size + 1) = some ⟨.ref X.N.acc, some h.objs.size, .seq #[] nn, #[]⟩ := by
      rw [← hh5, Heap.get?_update_self _ hx4 (by rw [hm]; rfl)]
      exact congrArg some hm
    have k5 : ∀ b o, b ≠ h.objs.size + 1 → h4.get? b = some o → h5.get? b = some o := fun b o n e => (sb.2 b n).trans e
    have hd5 : h5.get? h.objs.size = _ := k5 _ _ (Ne.symm (Nat.succ_ne_self _)) (hk4 _ _ I3.dict)
    have kall : ∀ b o, h.get? b = some o → h5.get? b = some o := fun b o e => k5 b o (fun q => by rw [q, nx] at e; cases e) (hk4 _ _ (hk3 _ _ (kh1 b o e)))
    have G5 := G.keeps kall n'
    have T5 := Step.keeps G kall n'
    have at5 : AccAt X.N.acc h5 (h.objs.size + 1) h.objs.size size #[] := ⟨⟨nn, hx5⟩, _, _, _, _, hd5⟩
    have sep : ∀ p ∈ ρ, p.1 ≠ h.objs.size + 1 ∧ p.2 ≠ h.objs.size + 1 := fun p hp => by
      have q1 := G.lies ⟨p, hp, rfl⟩
      have q2 := G.two p hp
      exact ⟨fun e => (by rw [e] at q1; dsimp only at q1; rw [nx] at q1; cases q1), fun e => (by rw [e] at q2; dsimp only at q2; rw [nx] at q2; cases q2)⟩
    refine ⟨ρ ++ [(h.objs.size + 1, h.objs.size)], ⟨⟨_, rfl, fun p hp => ?_⟩, T5.keep, T5.lies⟩, G5.adoptAcc at5 ⟨G.noneB nx, G.noneB nd⟩ sep, ?_⟩
    · simp at hp; subst hp; exact ⟨nx, nd⟩
    · have : (ρ ++ [(h.objs.size + 1, h.objs.size)])[σ.length]? = some (h.objs.size + 1, h.objs.size) := by
        rw [← G.len]; simp
      exact .ref (p := (h.objs.size + 1, h.objs.size)) this
  · rcases r with e | (v | _ | _ | _) <;> first | exact hr.elim | exact hr
end
end Mine
end

section
open PySem PySem.W PyProof.Rows PySem.Calls PySem.SeqAt
set_option maxRecDepth 100000
set_option linter.unusedSimpArgs false
namespace Mine

/-- a plain def of the top -/
structure PlFn (hB : Heap) (a : Addr) (fd : FuncData) : Prop where
  at_ : ∃ o, hB.get? a = some o ∧ o.data = .func fd
  clo : fd.closure = []
  rec_ : hB.CodeRec fd.code fd.qualname
  glob : fd.globals = mainGlobals
  bui : fd.builtins = builtinsNs
  kind : fd.scope.kind = .function
  noCell : ∀ x ∈ fd.scope.names, x.2 ≠ .cell
  co : fd.scope.isCoroutine = false
  gen : fd.scope.isGenerator = false

section
variable {prog : Program} {w : World} {A : Around} {E : Value → Shared → Prop} {hB : Heap} {f : Addr} {fd : FuncData}

theorem pl_enter {R : Result → Shared → Prop} {body : List PySem.Stmt} {vals : List Value} {binds : List (Str × Value)} {s : Shared} (F : PlFn hB f fd) (hlim : hB.NoLimit) (hbody : fd.body = .stmts body)
    (k : ∀ b o, hB.get? b = some o → s.heap.get? b = some o) (hroom : A.depth < recursionLimit) (hbind : BindsTo s fd ⟨vals, []⟩ binds) (hloc : ∀ x ∈ binds, fd.scope.names.lookup x.1 = some .local)
    (h : ∀ h₀, h₀.Ns s.heap.objs.size (fun x => binds.reverse.lookup x) → (∀ b o, s.heap.get? b = some o → h₀.get? b = some o) →
      wpAny (model prog w) (A.deeper (callEnv fd s.heap.objs.size f)) (execs body (callEnv fd s.heap.objs.size f)) (fun f s' => R (.ok (.ret (match f with | .ret v => v | _ => .none))) s') Fls
        { s with heap := h₀, toks := s.toks + binds.length }) : codeAny (model prog w) A (.call (.ref f) ⟨vals, []⟩) R s := by
  obtain ⟨o, ho, hd⟩ := F.at_
  refine ks_codeAny_call_defAt (binds := binds) hroom (k _ _ ho) hd ?_ (F.rec_.keeps k) hbody hbind F.noCell hloc (fun h₀ hn hk => ?_) F.co F.gen F.kind
  · obtain ⟨mc, h1, h2⟩ := hlim; exact ⟨mc, h1.keeps k, h2⟩
  · exact ks_wpAt_mono (_root_.PySem.wpAt_of_wpAny (h h₀ hn hk)) (fun _ _ q => q) fun _ _ q => q.elim

/-- an attribute that is read -/
theorem any_attr {env : Env} {o : PySem.Expr} {attr : Str} {pos : Pos} {s : Shared} {Q : Value → Shared → Prop} (hc : isCall o = false)
    (h : wpAny (model prog w) A (eval o env) (fun ov s₁ => wpAny (model prog w) A (getAttr ov attr true) Q E s₁) E s) : wpAny (model prog w) A (eval (.Attribute o attr pos) env) Q E s := by
  rw [arm_eval_Attribute, base_plain hc]
  refine wpAny_bind (wpAny_mono h (fun ov s₁ h₁ => wpAny_bind (wpAny_standAt (wpAny_bind (wpAny_holding (wpAny_mono h₁ (fun r s₂ h₂ => ?_) fun _ _ x => x))))) fun _ _ x => x)
  exact wpAny_bind (wpAny_letTemporaryGo (wpAny_pure h₂))

theorem if_look {α : Type} {M : Model} {c : Bool} {m : Sem Bool} {f : Bool → Sem α} {s : Shared} {Q : α → Shared → Prop} (h : c = true → Looks M s.heap m false) (r : wpAny M A (f false) Q E s) : wpAny M A (if c = true then m >>= f else pure false >>= f) Q E s := by
  cases c with
  | true => exact wpAny_bind ((h rfl).here r)
  | false => exact wpAny_bind (wpAny_pure r)

/-- two instances are compared by a def of their class -/
theorem cmp_own {op : CmpOp} {K : Frag} {C x g : Addr} {b tb : Value} {ox : Obj} {od : Option Obj} {s : Shared} {Q : Value → Shared → Prop} (hu : A.units < cLine) (X : K.In s.heap) (I : InstAt s.heap x ox C od) (hb : Looks (model prog w) s.heap (typeOf b) tb) (hn : notFirst K C tb = true)
    (hs : findIn K (.ref C) (cmpInfo op).2.1 = some (some (.ref g))) (hf : isFn K (.ref g) = true)
    (h : wpAny (model prog w) A (call (.ref g) [.ref x, b]) (W.CmpBack Q) E s) : wpAny (model prog w) A (richCompare op (.ref x) b) Q E s := by
  have one : wpAny (model prog w) A (tryCompare (.ref x) (cmpInfo op).2.1 b) (fun r s' => ∃ v, r = some v ∧ Q v s') E s := by
    unfold tryCompare
    refine wpAny_bind (ifBound_K X I hs hf (wpAny_mono h (fun v s' hv => ?_) fun _ _ e => e))
    cases v <;> first | exact hv.elim | exact wpAny_pure ⟨_, rfl, hv⟩
  unfold richCompare
  rw [oneThing_ref]
  refine wpAny_holding (wpAny_bind (wpAny_cRoomFor hu ?_))
  refine wpAny_bind (I.type.here (wpAny_bind (hb.here ?_)))
  refine if_look (fun q => looks_subIn X ?_) ?_
  · rcases Bool.or_eq_true_iff.mp hn with e | e
    · rw [beq_iff_eq.mp e] at q; simp at q
    · exact beq_iff_eq.mp e
  refine KFB.if_not rfl ?_
  refine wpAny_bind (wpAny_mono one (fun r s' z => ?_) fun _ _ e => e)
  obtain ⟨v, rfl, hq⟩ := z
  exact wpAny_pure hq
end

/-- a name that a text is put into -/
noncomputable def QAt (C : Addr) (h : Heap) (x : Addr) (a : Str) : Prop := ∃ dx, h.get? x = some (instObj C dx) ∧ ∃ hs k t, h.get? dx = some ⟨.type "dict", none, .dict #[⟨hs, .str (Str.ofString "text") k, .str a t⟩] 1, #[]⟩

theorem QAt.keeps {C : Addr} {h h' : Heap} {x : Addr} {a : Str} (q : QAt C h x a) (k : ∀ b o, h.get? b = some o → h'.get? b = some o) : QAt C h' x a := by
  obtain ⟨dx, h1, hs, kk, t, h2⟩ := q
  exact ⟨dx, k _ _ h1, hs, kk, t, k _ _ h2⟩

structure QCls (K : Frag) (C : Addr) (cd : ClassData) : Prop where
  cls : clsIn K C = some cd
  plain : plainGet K C "text" = true
  hasD : hasDictIn K C = true
  text : findIn K (.ref C) "text" = some none
  makes : makesIn K C = true
  set : findIn K (.ref C) "__setattr__" = some (some (.builtin "object.__setattr__"))
  ref_ : ∀ self, refuseLoop self "__setattr__" cd.mro = pure ()
  obj : subIn K (.ref C) (.type "object") = some true
  dict : cd.hasDict = true
  is : isIn K (.ref C) C = true
  nf : notFirst K C (.ref C) = true

section
variable {prog : Program} {w : World} {A : Around} {hB : Heap} {K : Frag} {C : Addr} {cd : ClassData}

theorem QAt.inst {h : Heap} {x : Addr} {a : Str} (q : QAt C h x a) : ∃ (dx : Addr) (od : Obj), InstAt h x (instObj C dx) C (some od) ∧ ∃ t, lookIn "text" od = some (some (.str a t)) := by
  obtain ⟨dx, h1, hs, k, t, h2⟩ := q
  refine ⟨dx, _, ⟨h1, rfl, rfl, h2⟩, t, ?_⟩
  have hb : (Value.str (Str.ofString "text") k).isStr "text" = true := by
    show (Str.ofString "text" == Str.ofString "text") = true
    exact beq_self_eq_true _
  simp [lookIn, hb]

theorem q_text {s : Shared} {x : Addr} {a : Str} {Q : Value → Shared → Prop} {E : Value → Shared → Prop} (QC : QCls K C cd) (X : K.In s.heap) (q : QAt C s.heap x a) (h : ∀ t, Q (.str a t) { s with toks := s.toks + 1 }) :
    wpAny (model prog w) A (getAttr (.ref x) "text" true) Q E s := by
  obtain ⟨dx, od, I, t, hl⟩ := q.inst
  exact get_value X I (plainGet_of QC.plain).1 (findObj_own QC.hasD QC.text rfl hl) rfl (h t)

/-- a name is made of a text -/
theorem q_make {ar : Str} {tx tg : Str} {fI : Addr} {fd : FuncData} {q1 q2 p1 p2 p3 p4 : Pos} {bi : List PySem.Stmt} (KX : K.In hB) (hlim : hB.NoLimit) (QC : QCls K C cd) (F : PlFn hB fI fd) (hi : findIn K (.ref C) "__init__" = some (some (.ref fI)))
    (hf : typeIn K (.ref fI) = some (.type "function")) (hbody : fd.body = .stmts [.If (.Name tg q1) bi [] q2, .Assign [.Attribute (.Name ar p1) "text" p2] (.Name tx p3) p4])
    (hd1 : (ar == ("__debug__" : Str)) = false) (hd2 : (tx == ("__debug__" : Str)) = false) (hd3 : (tg == ("__debug__" : Str)) = false) (hne : tx ≠ ar ∧ tg ≠ ar ∧ tg ≠ tx)
    (hk : fd.scope.names.lookup ar = some .local ∧ fd.scope.names.lookup tx = some .local ∧ fd.scope.names.lookup tg = some .local)
    (hbind : ∀ (M : Model) (x : Addr) (a : Str) (t : Tok), Looks M hB (bindArgs fd ⟨[.ref x, .str a t], []⟩) [(ar, .ref x), (tx, .str a t), (tg, .none)])
    {s : Shared} {a : Str} {t : Tok} (k : ∀ b o, hB.get? b = some o → s.heap.get? b = some o) (hA : A.depth + 2 < recursionLimit) :
    wpAny (model prog w) A (call (.ref C) [.str a t]) (fun v s' => ∃ x, v = .ref x ∧ s.heap.get? x = none ∧ QAt C s'.heap x a ∧ Goes s s') Fls s := by
  obtain ⟨h, g, d, tk, os⟩ := s
  dsimp only at k
  have Y : Makes (model prog w) h C := makes_of (KX.keeps k) QC.makes
  refine wpAny_call (make_core Y ((looks_findIn KX hi).keeps k) (fun self => (bind_fn KX self hf).keeps k) (.inl rfl) ?_)
  generalize hh2 : (h.push emptyDict).push (instObj C h.objs.size) = h2
  have k2 : ∀ b o, h.get? b = some o → h2.get? b = some o := fun b o e => hh2 ▸ Heap.get?_push_of_some _ (Heap.get?_push_of_some _ e)
  have kB2 : ∀ b o, hB.get? b = some o → h2.get? b = some o := fun b o e => k2 b o (k b o e)
  have hx2 : h2.get? (h.objs.size + 1) = some (instObj C h.objs.size) := by rw [← hh2]; heap_get
  have hd2' : h2.get? h.objs.size = some emptyDict := by rw [← hh2]; heap_get
  have hroom : (A.under (.builtin "type.__call__" ⟨[.ref C, .str a t], []⟩)).depth < recursionLimit := by
    show A.depth + _ < _
    rw [show (Code.builtin "type.__call__" ⟨[.ref C, .str a t], []⟩).weight = 1 from by first | rfl | kernel_rfl]
    omega
  refine codeAny_mono (pl_enter (s := ⟨h2, g, d, tk, os⟩) F hlim hbody kB2 hroom (fun M' A' E' Q' hq => ?_) (binds := [(ar, .ref (h.objs.size + 1)), (tx, .str a t), (tg, .none)]) ?_
    (R := fun r s' => match r with | .ok (.ret v) => v = .none ∧ ((⟨h, g, d, tk, os⟩ : Shared).heap.get? (h.objs.size + 1) = none ∧ QAt C s'.heap (h.objs.size + 1) a ∧ Goes ⟨h, g, d, tk, os⟩ s') | _ => False) fun h₀ hn hk' => ?_) (fun r s' hr => ?_)
  · exact (hbind M' _ _ _).keeps kB2 |>.at hq
  · intro q hq
    rcases List.mem_cons.mp hq with rfl | hq
    · exact hk.1
    · rcases List.mem_cons.mp hq with rfl | hq
      · exact hk.2.1
      · cases List.mem_singleton.mp hq; exact hk.2.2
  · have hn' : h₀.Ns h2.objs.size (fun x => List.lookup x [(ar, Value.ref (h.objs.size + 1)), (tx, .str a t), (tg, .none)].reverse) := hn
    have hk2' : ∀ b o, h2.get? b = some o → h₀.get? b = some o := hk'
    generalize hE : callEnv fd h2.objs.size fI = env
    have hloc : env.locals = h2.objs.size := by subst hE; rfl
    have hkind : env.scope.kind = .function := by subst hE; exact F.kind
    have hk1 : env.kindOf ar = some .local := by subst hE; exact hk.1
    have hk2 : env.kindOf tx = some .local := by subst hE; exact hk.2.1
    have hk3 : env.kindOf tg = some .local := by subst hE; exact hk.2.2
    have b1 : (ar == tx) = false := by simpa using (fun e => hne.1 e.symm)
    have b2 : (ar == tg) = false := by simpa using (fun e => hne.2.1 e.symm)
    have b3 : (tx == tg) = false := by simpa using (fun e => hne.2.2 e.symm)
    have I0 : W.InstAt h₀ (h.objs.size + 1) (instObj C h.objs.size) C (some emptyDict) := ⟨hk2' _ _ hx2, rfl, rfl, hk2' _ _ hd2'⟩
    refine wpAny_execs_cons (wpAny_If (wpAny_isTrue_value ?_ rfl))
    refine wpAny_Name (wpAny_loadName_local (v := .none) hkind hk3 (hloc ▸ hn') (by simp []) ?_) hd3
    refine wpAny_pure ?_
    rw [if_neg (by decide)]
    refine wpAny_execs_nil ?_
    refine wpAny_execs_cons (plainObj_wpAny_Assign_Attribute ?_ rfl)
    refine wpAny_Name (wpAny_loadName_local (v := .str a t) hkind hk2 (hloc ▸ hn') (by simp [List.lookup, b3]) ?_) hd2
    refine wpAny_Name (wpAny_loadName_local (v := .ref (h.objs.size + 1)) hkind hk1 (hloc ▸ hn') (by simp [List.lookup, b1, b2]) ?_) hd1
    refine set_first (KX.keeps fun b o e => hk2' b o (kB2 b o e)) I0 rfl QC.set QC.cls QC.ref_ QC.obj QC.text QC.dict fun h1 hd1 hs1 => ?_
    refine wpAny_execs_nil ⟨rfl, ?_, ?_, ?_⟩
    · dsimp only
      cases e : h.get? (h.objs.size + 1) with
      | none => rfl
      | some o => exact absurd (Heap.lt_size e) (Nat.not_lt.mpr (Nat.le_succ _))
    · exact ⟨h.objs.size, (hs1.2 _ (Nat.succ_ne_self _)).trans I0.at_, _, _, _, hd1⟩
    · exact ⟨h1, _, rfl, fun b o e => (hs1.2 b fun q => by rw [q, get_size] at e; cases e).trans (hk2' b o (k2 b o e))⟩
  · rcases r with e | (v | _ | _ | _) <;> first | exact hr.elim | skip
    exact ⟨hr.1, _, rfl, hr.2⟩
end
end Mine
end

section
open PySem PySem.W PyProof.Rows PySem.Calls PySem.SeqAt
set_option maxRecDepth 100000
set_option linter.unusedSimpArgs false
namespace Mine

section
variable {X : Cx} {K : Frag} {cd : ClassData} {mg mb : Str → Option Value}

/-- a comparing def of the names' class -/
structure QFn (X : Cx) (K : Frag) (op : CmpOp) (g : Addr) (fd : FuncData) (sn on : Str) : Prop where
  pl : PlFn X.hB g fd
  at_ : findIn K (.ref X.qn) (cmpInfo op).2.1 = some (some (.ref g))
  fn : isFn K (.ref g) = true
  body : ∃ c1 c2 c3 c4 d1 d2 d3 d4 d5 d6 d7 rest, fd.body = .stmts (.If (.Call (.Name "isinstance" c1) [.Name on c2, .Name qname c3] [] c4) [.Return (some (.Compare (.Attribute (.Name sn d1) "text" d2) [op] [.Attribute (.Name on d3) "text" d4] d5)) d6] [] d7 :: rest)
  ne : sn ≠ on
  db : (sn == ("__debug__" : Str)) = false ∧ (on == ("__debug__" : Str)) = false
  ks : fd.scope.names.lookup sn = some .local
  ko : fd.scope.names.lookup on = some .local
  ki : fd.scope.names.lookup ("isinstance" : Str) = some .globalImplicit
  kq : fd.scope.names.lookup qname = some .globalImplicit
  bind : ∀ a b : Value, bindArgs fd ⟨[a, b], []⟩ = pure [(sn, a), (on, b)]

structure QAll (X : Cx) (K : Frag) (cd : ClassData) (mg mb : Str → Option Value) : Prop where
  ins : K.In X.hB
  lim : X.hB.NoLimit
  cls : QCls K X.qn cd
  Tg : X.hB.Ns mainGlobals mg
  Tb : X.hB.Ns builtinsNs mb
  isi : mg "isinstance" = none ∧ mb "isinstance" = some (.builtin "isinstance")
  q : mg qname = some (.ref X.qn)
  ge : ∃ g fd sn on, QFn X K .GtE g fd sn on
  le : ∃ g fd sn on, QFn X K .LtE g fd sn on

theorem q_cmp {op : CmpOp} {g : Addr} {fd : FuncData} {sn on : Str} (Q : QAll X K cd mg mb) (F : QFn X K op g fd sn on) {x y : Addr} {a b : List Nat} {c : Bool} (hc : ∀ σ, cmpop op (.str a) (.str b) σ = some c) {A : Around} {ρ : Rho} {σ : Sto} {s : Shared}
    (hA : AOk (X.d + 1) A) (G : StG X.hB X.os X.N.acc ρ σ s) (qx : QAt X.qn s.heap x ⟨a.toArray⟩) (qy : QAt X.qn s.heap y ⟨b.toArray⟩) :
    wpAny (model X.prog X.w) A (richCompare op (.ref x) (.ref y)) (PostV X.hB X.os X.N.acc ρ s (.bool c) σ) Fls s := by
  have KX := Q.ins.keeps G.base
  obtain ⟨dx, ox, Ix, _⟩ := qx.inst
  obtain ⟨dy, oy, Iy, _⟩ := qy.inst
  refine cmp_own (by have := hA.line; omega) KX Ix Iy.type Q.cls.nf F.at_ F.fn ?_
  obtain ⟨c1, c2, c3, c4, d1, d2, d3, d4, d5, d6, d7, rest, hbody⟩ := F.body
  refine wpAny_call (codeAny_mono (pl_enter (R := fun r s' => match r with | .ok (.ret v) => PostV X.hB X.os X.N.acc ρ s (.bool c) σ v s' | _ => False) F.pl Q.lim hbody G.base hA.room (.of_eq (F.bind _ _)) (fun q hq => ?_) fun h₀ hn hk => ?_) fun r s' hr => ?_)
  · rcases List.mem_cons.mp hq with rfl | hq
    · exact F.ks
    · cases List.mem_singleton.mp hq; exact F.ko
  · have hA' : AOk X.d (A.deeper (callEnv fd s.heap.objs.size g)) := hA.deeper _
    generalize hE : callEnv fd s.heap.objs.size g = env at hA' ⊢
    have hloc : env.locals = s.heap.objs.size := by subst hE; rfl
    have hkind : env.scope.kind = .function := by subst hE; exact F.pl.kind
    have hks : env.kindOf sn = some .local := by subst hE; exact F.ks
    have hko : env.kindOf on = some .local := by subst hE; exact F.ko
    have hki : env.kindOf "isinstance" = some .globalImplicit := by subst hE; exact F.ki
    have hkq : env.kindOf qname = some .globalImplicit := by subst hE; exact F.kq
    have hgl : env.globals = mainGlobals := by subst hE; exact F.pl.glob
    have hbu : env.builtins = builtinsNs := by subst hE; exact F.pl.bui
    have hn' : h₀.Ns s.heap.objs.size (fun q => List.lookup q [(sn, Value.ref x), (on, .ref y)].reverse) := hn
    have g0 : Goes s { s with heap := h₀, toks := s.toks + 2 } := ⟨h₀, _, rfl, hk⟩
    obtain ⟨G0, T0⟩ := g0.step G
    have KX0 : K.In h₀ := Q.ins.keeps G0.base
    have qx0 := qx.keeps hk
    have qy0 := qy.keeps hk
    obtain ⟨dy0, oy0, Iy0, _⟩ := qy0.inst
    have bne : (sn == on) = false := by simpa using F.ne
    have ls : List.lookup sn [(sn, Value.ref x), (on, .ref y)].reverse = some (.ref x) := by simp [List.lookup, bne]
    have lo : List.lookup on [(sn, Value.ref x), (on, .ref y)].reverse = some (.ref y) := by simp
    have LN : ∀ (h' : Heap) (t : Nat), (∀ b o, h₀.get? b = some o → h'.get? b = some o) → h'.Ns env.locals (fun q => List.lookup q [(sn, Value.ref x), (on, .ref y)].reverse) := fun h' t k => hloc ▸ hn'.keeps k
    refine wpAny_execs_cons (wpAny_If (wpAny_isTrue_value ?_ rfl))
    show wpAny _ _ (eval (.Name "isinstance" c1) env >>= fun f => callWith c4 f [] (backTo c4 (starEach [.Name on c2, .Name qname c3] env)) []) _ _ _
    refine wpAny_bind (Name_function_global hkind hki (loadGlobal_builtin (hgl ▸ Q.Tg.keeps G0.base) Q.isi.1 (hbu ▸ Q.Tb.keeps G0.base) Q.isi.2 ?_) (by decide))
    refine callWith_builtin rfl (evalArgs_plain ?_)
    refine spliced_cons ?_
    refine wpAny_Name (wpAny_loadName_local hkind hko (LN _ 0 fun _ _ e => e) lo ?_) F.db.2
    refine spliced_cons ?_
    refine Name_function_global hkind hkq (loadGlobal_global (hgl ▸ Q.Tg.keeps G0.base) Q.q ?_) (by decide)
    refine spliced_nil ?_
    refine isi_call (K := K) KX0 (fun M => Iy0.type) Q.cls.is (by simp) ?_
    refine wpAny_truthy_bool ?_
    rw [if_pos rfl]
    refine wpAny_execs_cons (wpAny_Return_some (wpAny_Compare1 ?_ rfl))
    refine any_attr rfl (wpAny_Name (wpAny_loadName_local hkind hks (LN _ 0 fun _ _ e => e) ls ?_) F.db.1)
    refine q_text Q.cls KX0 qx0 fun t1 => ?_
    refine any_attr rfl (wpAny_Name (wpAny_loadName_local hkind hko (LN _ 0 fun _ _ e => e) lo ?_) F.db.2)
    refine q_text Q.cls KX0 qy0 fun t2 => ?_
    exact cmpop_ok (hc σ) (G0.toks _) (.str a t1) (.str b t2) (show (A.deeper env).units + 1 < cLine by have := hA'.line; omega) (.laid T0 (.laid ((Step.refl G0).toks _) (.bool (G0.toks _) c _)))
  · rcases r with e | (v | _ | _ | _) <;> first | exact hr.elim | skip
    obtain ⟨ρ', T, G', r⟩ := hr
    cases r
    exact ⟨ρ', T, G', .bool c⟩

theorem q_ok (Q : QAll X K cd mg mb) {ar : Str} {tx tg : Str} {fI : Addr} {fd : FuncData} {q1 q2 p1 p2 p3 p4 : Pos} {bi : List PySem.Stmt} (F : PlFn X.hB fI fd) (hi : findIn K (.ref X.qn) "__init__" = some (some (.ref fI)))
    (hf : typeIn K (.ref fI) = some (.type "function")) (hbody : fd.body = .stmts [.If (.Name tg q1) bi [] q2, .Assign [.Attribute (.Name ar p1) "text" p2] (.Name tx p3) p4])
    (hd1 : (ar == ("__debug__" : Str)) = false) (hd2 : (tx == ("__debug__" : Str)) = false) (hd3 : (tg == ("__debug__" : Str)) = false) (hne : tx ≠ ar ∧ tg ≠ ar ∧ tg ≠ tx)
    (hk : fd.scope.names.lookup ar = some .local ∧ fd.scope.names.lookup tx = some .local ∧ fd.scope.names.lookup tg = some .local)
    (hbind : ∀ (M : Model) (x : Addr) (a : Str) (t : Tok), Looks M X.hB (bindArgs fd ⟨[.ref x, .str a t], []⟩) [(ar, .ref x), (tx, .str a t), (tg, .none)]) : QOk X.prog X.w X.hB X.os X.N X.qn (X.d + 1) := by
  have inRho : ∀ {ρ : Rho} {σ : Sto} {s : Shared} {x : Addr} {a : Str}, StG X.hB X.os X.N.acc ρ σ s → QAt X.qn s.heap x a → ¬ inρ ρ x := by
    rintro ρ σ s x a G ⟨dx, h1, _⟩ ⟨p, hp, rfl⟩
    obtain ⟨r, hr⟩ := List.getElem?_of_mem hp
    have hl : r < ρ.length := (List.getElem?_eq_some_iff.mp hr).1
    have hl' : r < σ.length := by rw [← G.len]; exact hl
    have := G.cell r _ p (List.getElem?_eq_getElem hl') hr
    revert this
    cases σ[r] with
    | list ys => rintro ⟨us, ⟨i, hi⟩, _⟩; rw [h1] at hi; exact Data.noConfusion (congrArg Obj.data (Option.some.inj hi))
    | acc k ys => rintro ⟨us, ⟨⟨i, hi⟩, _⟩, _⟩; rw [h1] at hi; exact Data.noConfusion (congrArg Obj.data (Option.some.inj hi))
    | code b l c => rintro ⟨_, ps, hi, _⟩; rw [h1] at hi; exact nomatch congrArg Obj.cls (Option.some.inj hi)
  intro op a b c hc A ρ σ s t hA G
  have hr : A.depth + 2 < recursionLimit := by
    have h1 := hA.depth
    have h2 : recursionLimit = 1000 := rfl
    omega
  refine wpAny_mono (q_make Q.ins Q.lim Q.cls F hi hf hbody hd1 hd2 hd3 hne hk hbind G.base hr) (fun v s1 h => ?_) fun _ _ x => x
  obtain ⟨x, rfl, nx, qx, g1⟩ := h
  obtain ⟨G1, T1⟩ := g1.step G
  refine ⟨⟨T1, G1⟩, fun ρ' σ' s2 u T2 G2 => ?_⟩
  have qx2 : QAt X.qn s2.heap x ⟨a.toArray⟩ := by
    obtain ⟨dx, h1, hs, k, t, h2⟩ := qx
    refine ⟨dx, T2.keep _ _ h1 (inRho G1 ⟨dx, h1, hs, k, t, h2⟩), hs, k, t, T2.keep _ _ h2 ?_⟩
    rintro ⟨p, hp, rfl⟩
    obtain ⟨r, hr⟩ := List.getElem?_of_mem hp
    have hl : r < ρ.length := (List.getElem?_eq_some_iff.mp hr).1
    have hl' : r < σ.length := by rw [← G1.len]; exact hl
    have := G1.cell r _ p (List.getElem?_eq_getElem hl') hr
    revert this
    cases σ[r] with
    | list ys => rintro ⟨us, ⟨i, hi⟩, _⟩; rw [h2] at hi; exact Data.noConfusion (congrArg Obj.data (Option.some.inj hi))
    | acc k ys => rintro ⟨us, ⟨⟨i, hi⟩, _⟩, _⟩; rw [h2] at hi; exact Data.noConfusion (congrArg Obj.data (Option.some.inj hi))
    | code b l c => rintro ⟨_, ps, hi, _⟩; rw [h2] at hi; exact nomatch congrArg Obj.cls (Option.some.inj hi)
  refine wpAny_mono (q_make Q.ins Q.lim Q.cls F hi hf hbody hd1 hd2 hd3 hne hk hbind G2.base hr) (fun v s3 h => ?_) fun _ _ x => x
  obtain ⟨y, rfl, ny, qy, g3⟩ := h
  obtain ⟨G3, T3⟩ := g3.step G2
  have qx3 : QAt X.qn s3.heap x ⟨a.toArray⟩ := by
    obtain ⟨h', t', rfl, k⟩ := g3
    exact qx2.keeps k
  rcases cmpQ_op hc with ⟨rfl, rfl⟩ | ⟨rfl, rfl⟩
  · obtain ⟨g, fd', sn, on, F'⟩ := Q.ge
    exact wpAny_mono (q_cmp (c := !ltL a b) Q F' (fun _ => rfl) hA G3 qx3 qy) (fun _ _ h => .laid T3 h) fun _ _ x => x
  · obtain ⟨g, fd', sn, on, F'⟩ := Q.le
    exact wpAny_mono (q_cmp (c := !ltL b a) Q F' (fun _ => rfl) hA G3 qx3 qy) (fun _ _ h => .laid T3 h) fun _ _ x => x
end
end Mine
end

section
open PySem PySem.W PyProof.Rows PySem.Calls PySem.SeqAt
set_option maxRecDepth 100000
set_option linter.unusedSimpArgs false
namespace Mine

theorem ltL_irr : ∀ x : List Nat, ltL x x = false
  | [] => rfl
  | c :: r => by simp [ltL_c, ltL_irr r]
theorem ltL_trans : ∀ {x y z : List Nat}, ltL x y = true → ltL y z = true → ltL x z = true
  | [], [], _, h, _ => by simp [ltL_z] at h
  | _ :: _, [], _, h, _ => by simp [ltL_z] at h
  | [], _ :: _, [], _, h => by simp [ltL_z] at h
  | _ :: _, _ :: _, [], _, h => by simp [ltL_z] at h
  | [], _ :: _, _ :: _, _, _ => by simp [ltL_0]
  | a :: x, b :: y, c :: z, h1, h2 => by
    simp only [ltL_c] at h1 h2 ⊢
    by_cases ab : a < b
    · by_cases bc : b < c
      · rw [if_pos (Nat.lt_trans ab bc)]
      · rw [if_neg bc] at h2
        by_cases e : b = c
        · subst e; rw [if_pos ab]
        · rw [if_neg e] at h2; cases h2
    · rw [if_neg ab] at h1
      by_cases e : a = b
      · subst e
        rw [if_pos rfl] at h1
        by_cases bc : a < c
        · rw [if_pos bc]
        · rw [if_neg bc] at h2 ⊢
          by_cases e : a = c
          · subst e
            rw [if_pos rfl] at h2 ⊢
            exact ltL_trans h1 h2
          · rw [if_neg e] at h2; cases h2
      · rw [if_neg e] at h1; cases h1
theorem ltL_tri : ∀ {x y : List Nat}, ltL x y = false → ltL y x = false → x = y
  | [], [], _, _ => rfl
  | _ :: _, [], _, h => by simp [ltL_0] at h
  | [], _ :: _, h, _ => by simp [ltL_0] at h
  | a :: x, b :: y, h1, h2 => by
    simp only [ltL_c] at h1 h2
    by_cases ab : a < b
    · rw [if_pos ab] at h1; cases h1
    · by_cases ba : b < a
      · rw [if_pos ba] at h2; cases h2
      · have e : a = b := Nat.le_antisymm (Nat.le_of_not_lt ba) (Nat.le_of_not_lt ab)
        subst e
        rw [if_neg (Nat.lt_irrefl _), if_pos rfl] at h1 h2
        rw [ltL_tri h1 h2]

end Mine
end

section
open PySem PySem.W PyProof.Rows PySem.Calls PySem.SeqAt
set_option maxRecDepth 100000
set_option linter.unusedSimpArgs false
namespace Mine
open PySem.Sre (M)

/-- the code of the pattern: at a line's beginning, and not at a line's end -/
noncomputable def ic : Array Nat := #[14, 4, 0, 0, 0, 6, 1, 5, 5, 0, 6, 6, 1, 1]

/-- a try at the place p -/
noncomputable def st0 (t : Array Nat) (lim p : Nat) (f mA : Bool) (sn : Sre.Seen) : M :=
  { code := ic, text := t, lim, start := p, lastStart := lim, mustAdvance := mA, pc := 5, pos := p, handed := p, outermost := f, marks := #[],
    frames := [{ wait := .nextStart, pc := 5, pos := p, outermost := f }], weight := 1, seen := sn }

theorem runFor_s (n : Nat) (m : M) : M.runFor (n + 1) m = if m.outcome.isSome then m else M.runFor n m.step := rfl
noncomputable def Runs (n : Nat) (m : M) (Q : M → Prop) : Prop := ∃ k, k ≤ n ∧ Q (M.runFor k m)
theorem Runs.step {n : Nat} {m : M} {Q : M → Prop} (h : m.outcome = none) (r : Runs n m.step Q) : Runs (n + 1) m Q := by
  obtain ⟨k, hk, q⟩ := r
  refine ⟨k + 1, Nat.succ_le_succ hk, ?_⟩
  rw [runFor_s, h]
  exact q
theorem Runs.done {n : Nat} {m : M} {Q : M → Prop} (h : Q m) : Runs n m Q := ⟨0, Nat.zero_le _, h⟩
theorem Runs.more {n n' : Nat} {m : M} {Q : M → Prop} (r : Runs n m Q) (h : n ≤ n') : Runs n' m Q := by
  obtain ⟨k, hk, q⟩ := r
  exact ⟨k, Nat.le_trans hk h, q⟩

section
variable {t : Array Nat} {lim p : Nat} {f mA : Bool} {sn : Sre.Seen}

theorem stepA : (st0 t lim p f mA sn).step = if (p == 0 || t.getD (p - 1) 0 == 10) then { st0 t lim p f mA ((sn.add 6).add 44) with pc := 7 } else { st0 t lim p f mA ((sn.add 6).add 44) with answer := some false } := rfl
noncomputable def look (t : Array Nat) (lim p : Nat) (f mA : Bool) (sn : Sre.Seen) : M :=
  { st0 t lim p f mA sn with frames := [{ wait := .lookNot, pc := 7, pos := p, outermost := f, kept := { lastmark := -1, lastindex := -1, whole := false, marks := #[] } }, { wait := .nextStart, pc := 5, pos := p, outermost := f }], weight := 2, pc := 10, outermost := false }
theorem stepB : ({ st0 t lim p f mA sn with pc := 7 } : M).step = look t lim p f mA (sn.add 5) := rfl
theorem stepC : (look t lim p f mA sn).step = if (p == lim || t.getD p 0 == 10) then { look t lim p f mA ((sn.add 6).add 49) with pc := 12 } else { look t lim p f mA ((sn.add 6).add 49) with answer := some false } := rfl
theorem stepD : ({ look t lim p f mA sn with pc := 12 } : M).step = { look t lim p f mA (sn.add 1) with pc := 12, answer := some true } := rfl
theorem stepE : ({ look t lim p f mA sn with pc := 12, answer := some true } : M).step = { st0 t lim p f mA sn with pc := 7, answer := some false } := rfl
theorem stepF : ({ look t lim p f mA sn with answer := some false } : M).step = { st0 t lim p f mA sn with pc := 13 } := rfl
theorem stepG : ({ st0 t lim p f mA sn with pc := 13 } : M).step = if (f && ((false && p != lim) || (mA && p == p))) then { st0 t lim p f mA (sn.add 1) with pc := 13, answer := some false } else { st0 t lim p f mA (sn.add 1) with pc := 13, answer := some true } := rfl
theorem stepH {pc : Nat} : ({ st0 t lim p f mA sn with pc := pc, answer := some false } : M).step = if p < lim then st0 t lim (p + 1) false false sn else { st0 t lim p f mA sn with answer := some false, frames := [], weight := 0 } := rfl
theorem stepI : ({ st0 t lim p f mA sn with pc := 13, answer := some true } : M).step = { st0 t lim p f mA sn with answer := some true, frames := [], weight := 0 } := rfl
theorem stepJ {b : Bool} : ({ st0 t lim p f mA sn with answer := some b, frames := [], weight := 0 } : M).step = { st0 t lim p f mA sn with answer := some b, frames := [], weight := 0, outcome := some (if b then .matched else .failed) } := rfl

end

noncomputable def hitAt (t : Array Nat) (lim p : Nat) : Bool := (p == 0 || t.getD (p - 1) 0 == 10) && !(p == lim || t.getD p 0 == 10)
noncomputable def nextHit (t : Array Nat) (lim : Nat) : Bool → Nat → Nat → Option Nat
  | skip, p, 0 => if hitAt t lim p && !skip then some p else none
  | skip, p, n + 1 => if hitAt t lim p && !skip then some p else nextHit t lim false (p + 1) n
theorem nextHit_0 {t : Array Nat} {lim p : Nat} {skip : Bool} : nextHit t lim skip p 0 = if hitAt t lim p && !skip then some p else none := rfl
theorem nextHit_s {t : Array Nat} {lim p n : Nat} {skip : Bool} : nextHit t lim skip p (n + 1) = if hitAt t lim p && !skip then some p else nextHit t lim false (p + 1) n := rfl

noncomputable def Found (r : Option Nat) (m : M) : Prop := match r with
  | some q => m.outcome = some .matched ∧ m.start = q ∧ m.handed = q
  | none => m.outcome = some .failed

theorem nextHit_eq {t : Array Nat} {lim p : Nat} {skip : Bool} {n : Nat} (h : lim = p + n) : nextHit t lim skip p n = if hitAt t lim p && !skip then some p else if p < lim then nextHit t lim false (p + 1) (n - 1) else none := by
  cases n with
  | zero => rw [nextHit_0, if_neg (show ¬ p < lim by omega)]
  | succ n => rw [nextHit_s, if_pos (show p < lim by omega)]; rfl

theorem search_ok {t : Array Nat} {lim : Nat} : ∀ (n p : Nat) (f mA : Bool) (sn : Sre.Seen), lim = p + n → Runs (10 * (n + 1)) (st0 t lim p f mA sn) (Found (nextHit t lim (f && mA) p n)) := by
  intro n
  induction n with
  | zero => _
  | succ n ih => _
  all_goals
    intro p f mA sn hl
    rw [nextHit_eq hl]
    -- a try that fails
    have miss : ∀ (pc : Nat) (sn' : Sre.Seen) (r : Option Nat), (p < lim → r = nextHit t lim false (p + 1) (lim - p - 1)) → (¬ p < lim → r = none) → Runs (10 * (lim - p) + 2) ({ st0 t lim p f mA sn' with pc := pc, answer := some false } : M) (Found r) := by
      intro pc sn' r h1 h2
      refine Runs.step rfl ?_
      rw [stepH]
      by_cases hp : p < lim
      · rw [if_pos hp, h1 hp]
        first
          | (have e : lim - p - 1 = n := by omega
             rw [e]
             have := ih (p + 1) false false sn' (by omega)
             exact this.more (by omega))
          | omega
      · rw [if_neg hp, h2 hp]
        refine Runs.step rfl (.done ?_)
        rw [stepJ]
        exact rfl
    have e1 : ∀ k : Nat, lim - p = k → 10 * (lim - p) + 2 ≤ 10 * (k + 1) - 5 := fun k h => by omega
    refine Runs.more (n := 10 * (lim - p) + 2 + 6) ?_ (by omega)
    refine Runs.step rfl ?_
    rw [stepA]
    cases ha : (p == 0 || t.getD (p - 1) 0 == 10) with
    | false =>
      rw [if_neg (by simp)]
      refine (miss _ _ _ (fun h => ?_) fun h => ?_).more (by omega)
      · simp only [hitAt, ha, Bool.false_and, Bool.false_eq_true, if_false]
        rw [if_pos h]; congr 1; omega
      · simp only [hitAt, ha, Bool.false_and, Bool.false_eq_true, if_false]
        rw [if_neg h]
    | true =>
      rw [if_pos rfl]
      refine Runs.step rfl ?_
      rw [stepB]
      refine Runs.step rfl ?_
      rw [stepC]
      cases hb : (p == lim || t.getD p 0 == 10) with
      | true =>
        rw [if_pos rfl]
        refine Runs.step rfl ?_
        rw [stepD]
        refine Runs.step rfl ?_
        rw [stepE]
        refine (miss _ _ _ (fun h => ?_) fun h => ?_).more (by omega)
        · simp only [hitAt, ha, hb, Bool.not_true, Bool.and_false, Bool.false_and, Bool.false_eq_true, if_false]
          rw [if_pos h]; congr 1; omega
        · simp only [hitAt, ha, hb, Bool.not_true, Bool.and_false, Bool.false_and, Bool.false_eq_true, if_false]
          rw [if_neg h]
      | false =>
        rw [if_neg (by simp)]
        refine Runs.step rfl ?_
        rw [stepF]
        refine Runs.step rfl ?_
        rw [stepG]
        cases hc : (f && mA) with
        | true =>
          rw [if_pos (by simp at hc; simp [hc])]
          refine (miss _ _ _ (fun h => ?_) fun h => ?_).more (by omega)
          · simp only [hitAt, ha, hb, Bool.not_true, Bool.and_false, Bool.false_eq_true, if_false]
            rw [if_pos h]; congr 1; omega
          · simp only [hitAt, ha, hb, Bool.not_true, Bool.and_false, Bool.false_eq_true, if_false]
            rw [if_neg h]
        | false =>
          rw [if_neg (by simp at hc ⊢; exact hc)]
          rw [if_pos (by rw [hitAt, ha, hb]; rfl)]
          refine Runs.step rfl ?_
          rw [stepI]
          refine Runs.more (n := 1) (Runs.step rfl (.done ?_)) (by omega)
          rw [stepJ]
          exact ⟨rfl, rfl, rfl⟩
end Mine
end

section
open PySem PySem.W PyProof.Rows PySem.Calls PySem.SeqAt PySem.Builtin PySem.Builtin.Re
set_option maxRecDepth 100000
set_option linter.unusedSimpArgs false
namespace Mine
open PySem.Sre (M)

theorem runFor_stop {m : M} (h : m.outcome.isSome = true) : ∀ n, M.runFor n m = m
  | 0 => rfl
  | n + 1 => by rw [runFor_s, if_pos h]
theorem runFor_add (m : M) : ∀ a b : Nat, M.runFor (a + b) m = M.runFor b (M.runFor a m)
  | 0, b => by rw [Nat.zero_add]; rfl
  | a + 1, b => by
    rw [Nat.succ_add, runFor_s, runFor_s]
    by_cases h : m.outcome.isSome = true
    · rw [if_pos h, if_pos h, runFor_stop h]
    · rw [if_neg h, if_neg h]
      exact runFor_add m.step a b

section
variable {MM : Model} {A : Around} {E : Value → Shared → Prop} {s : Shared}

theorem drive_ok : ∀ (n k turns : Nat) (m : M) {Q : M → Shared → Prop}, k ≤ 4 * n → n < turns → (M.runFor k m).outcome.isSome = true → Q (M.runFor k m) s → wpAny MM A (reDrive turns m) Q E s
  | n, k, 0, m, Q, h, h', _, _ => by omega
  | n, k, turns + 1, m, Q, h, h', ho, hq => by
    show wpAny MM A (if (M.runFor 4 m).outcome.isSome then pure (M.runFor 4 m) else do rule "sre.turn"; reDrive turns (M.runFor 4 m)) Q E s
    by_cases hk : k ≤ 4
    · obtain ⟨d, hd⟩ := Nat.exists_eq_add_of_le hk
      have e : M.runFor 4 m = M.runFor k m := by rw [hd, runFor_add, runFor_stop ho]
      rw [e, if_pos ho]
      exact wpAny_pure hq
    · obtain ⟨d, hd⟩ := Nat.exists_eq_add_of_le (Nat.le_of_not_le hk)
      rw [hd, runFor_add] at ho hq
      by_cases h4 : (M.runFor 4 m).outcome.isSome = true
      · rw [if_pos h4]
        rw [runFor_stop h4] at hq
        exact wpAny_pure hq
      · rw [if_neg h4]
        refine wpAny_bind (wpAny_rule ?_)
        exact drive_ok (n - 1) d turns _ (by omega) (by omega) ho hq

theorem rules_ok {c : Nat → Bool} {nm : Nat → String} {Q : PUnit → Shared → Prop} (h : Q ⟨⟩ s) : ∀ l : List Nat, wpAny MM A (forIn l PUnit.unit fun i _ => do
    if c i then rule (nm i)
    pure (ForInStep.yield PUnit.unit)) Q E s
  | [] => by rw [List.forIn_nil]; exact wpAny_pure h
  | i :: l => by
    rw [List.forIn_cons]
    refine wpAny_bind ?_
    cases hc : c i with
    | true => exact wpAny_bind (wpAny_rule (wpAny_pure (rules_ok h l)))
    | false => exact wpAny_pure (rules_ok h l)

theorem found_ok {text : Array Nat} {string pat : Value} {start : Nat} {must : Bool} {Q : Option M → Shared → Prop} (hs : start ≤ text.size) (hlim : text.size ≤ 1000000)
    (h : ∀ m, match nextHit text text.size must start (text.size - start) with
      | some q => m.start = q ∧ m.handed = q → Q (some m) s
      | none => Q none s) :
    wpAny MM A (reNextFound ⟨pat, string, ic, text, 0, 0, 0, text.size⟩ start must) Q E s := by
  have e : Sre.forSearch ic text 0 start text.size must = st0 text text.size start true must (({} : Sre.Seen).add 14) := by
    show (if start > text.size || text.size - start < 0 then _ else _) = _
    rw [if_neg (by simp; omega)]
    rfl
  unfold reNextFound
  show wpAny MM A (reRunToEnd (Sre.forSearch ic text 0 start text.size must)) Q E s
  rw [e]
  obtain ⟨k, hk, hf⟩ := search_ok (t := text) (lim := text.size) (text.size - start) start true must (({} : Sre.Seen).add 14) (by omega)
  rw [Bool.true_and] at hf
  generalize hm : M.runFor k (st0 text text.size start true must (({} : Sre.Seen).add 14)) = mf at hf
  have hsome : mf.outcome.isSome = true := by
    unfold Found at hf
    split at hf
    · rw [hf.1]; rfl
    · rw [hf]; rfl
  unfold reRunToEnd
  refine wpAny_bind (drive_ok 10000010 k (2 ^ 64) _ (by omega) (by omega) (by rw [hm]; exact hsome) ?_)
  rw [hm]
  refine wpAny_bind (rules_ok (c := fun i => mf.seen.has i) (nm := fun i => Sre.names.getD i "") ?_ _)
  have h := h mf
  unfold Found at hf
  split at hf
  · rename_i q hq
    rw [hq] at h
    rw [hf.1]
    exact wpAny_pure (h hf.2)
  · rename_i hq
    rw [hq] at h
    rw [hf]
    exact wpAny_pure h
end
end Mine
end

section
open PySem PySem.W PyProof.Rows PySem.Calls PySem.SeqAt PySem.Builtin PySem.Builtin.Re
set_option maxRecDepth 100000
set_option linter.unusedSimpArgs false
namespace Mine
open PySem.Sre (M)

/-- at a line's beginning -/
noncomputable def bolAt (t : Array Nat) (p : Nat) : Bool := p == 0 || t.getD (p - 1) 0 == 10

theorem nextHit_indent (k : Nat) (T : List Nat) : ∀ (n d : Nat) (skip : Bool), T.length = d + n →
    match nextHit T.toArray T.length skip d n with
    | some q => d ≤ q ∧ q < T.length ∧ (skip = true → d < q) ∧ indentL k (bolAt T.toArray d && !skip) (T.drop d) = (T.drop d).take (q - d) ++ List.replicate k 32 ++ indentL k false (T.drop q)
    | none => indentL k (bolAt T.toArray d && !skip) (T.drop d) = T.drop d := by
  intro n
  induction n with
  | zero =>
    intro d skip h
    have hh : hitAt T.toArray T.length d = false := by simp [hitAt, h]
    rw [nextHit_0, hh]
    have : T.drop d = [] := by simp [h]
    simp [this, indentL_0]
  | succ n ih =>
    intro d skip h
    have hd : d < T.length := by omega
    have hdrop : T.drop d = T[d] :: T.drop (d + 1) := by rw [List.drop_eq_getElem_cons hd]
    have hget : T.toArray.getD d 0 = T[d] := by simp [hd]
    have hne : (d == T.length) = false := by simp; omega
    rw [nextHit_s]
    cases hh : (hitAt T.toArray T.length d && !skip) with
    | true =>
      rw [if_pos rfl]
      simp only [hitAt, hget, hne, Bool.false_or, Bool.and_eq_true, Bool.not_eq_true'] at hh
      obtain ⟨⟨h1, h2⟩, h3⟩ := hh
      subst h3
      refine ⟨Nat.le_refl _, hd, (fun e => (by cases e)), ?_⟩
      have hb : bolAt T.toArray d = true := h1
      have hc : T[d] ≠ 10 := by simpa using h2
      rw [hb, hdrop]
      generalize T.drop (d + 1) = R
      generalize T[d] = c at hc
      have hc' : (c == 10) = false := by simpa using hc
      simp [indentL_t, indentL_f, hc, hc']
    | false =>
      rw [if_neg (by simp)]
      have ih := ih (d + 1) false (by omega)
      have hb1 : bolAt T.toArray (d + 1) = (T[d] == 10) := by simp [bolAt, hd]
      rw [hb1] at ih
      -- what the text shows at d
      have key : indentL k (bolAt T.toArray d && !skip) (T.drop d) = T[d] :: indentL k (T[d] == 10) (T.drop (d + 1)) := by
        rw [hdrop]
        cases hb : (bolAt T.toArray d && !skip) with
        | false => rfl
        | true =>
          have hc : T[d] = 10 := by
            have h1 : bolAt T.toArray d = true := by simp at hb; exact hb.1
            have h3 : (!skip) = true := by simp at hb; simp [hb.2]
            simp only [hitAt, hget, hne, Bool.false_or, h3, Bool.and_true] at hh
            have h1' : (d == 0 || T.toArray.getD (d - 1) 0 == 10) = true := h1
            rw [h1', Bool.true_and] at hh
            simpa using hh
          simp [indentL_t, hc]
      rw [key]
      split at ih
      · rename_i q hq
        obtain ⟨a1, a2, _, a3⟩ := ih
        refine ⟨by omega, a2, fun _ => by omega, ?_⟩
        rw [Bool.not_false, Bool.and_true] at a3
        rw [a3, hdrop]
        have : q - d = (q - (d + 1)) + 1 := by omega
        rw [this, List.take_succ_cons]
        simp
      · rename_i hq
        rw [Bool.not_false, Bool.and_true] at ih
        rw [ih, hdrop]

/-- the pattern at its place -/
noncomputable def PatAt (h : Heap) (p : Addr) : Prop := ∃ (o oc : Obj) (c : Addr) (pt fl gi gn : Value) (t0 t6 : Tok) (items : Array Value) (n : Nat),
  h.get? p = some o ∧ o.cls = .type "re.Pattern" ∧ o.dict = none ∧ o.data = .fields #[pt, fl, .int 0 t0, gi, gn, .ref c, .int 0 t6] ∧ h.get? c = some oc ∧ oc.data = .seq items n ∧ (items.map reRawOf).map (·.toNat) = ic

theorem PatAt.keep {h h' : Heap} {p : Addr} (x : PatAt h p) (k : ∀ b o, h.get? b = some o → h'.get? b = some o) : PatAt h' p := by
  obtain ⟨o, oc, c, pt, fl, gi, gn, t0, t6, items, n, a, b, c', d, e, f, g⟩ := x
  exact ⟨o, oc, c, pt, fl, gi, gn, t0, t6, items, n, k _ _ a, b, c', d, k _ _ e, f, g⟩

section
variable {prog : Program} {w : World} {A : Around} {E : Value → Shared → Prop} {s : Shared}

theorem whole_ok {p : Addr} {T : List Nat} {t : Tok} {Q : ReTarget → Shared → Prop} {MM : Model} (P : PatAt s.heap p)
    (h : Q ⟨.ref p, .str ⟨T.toArray⟩ t, ic, T.toArray, 0, 0, 0, T.toArray.size⟩ s) : wpAny MM A (reWholeTarget (.ref p) (.str ⟨T.toArray⟩ t)) Q E s := by
  obtain ⟨o, oc, c, pt, fl, gi, gn, t0, t6, items, n, a, b, c', d, e, f, g⟩ := P
  unfold reWholeTarget
  refine wpAny_bind (wpAny_fieldsOf a d ?_)
  unfold reTextOf
  refine wpAny_bind (wpAny_bind (wpAny_pure ?_))
  refine wpAny_pure ?_
  dsimp only
  refine wpAny_bind (m := reNoCollectionInside _ _) (wpAny_pure ?_)
  unfold reRawItems
  refine wpAny_bind (wpAny_bind (wpAny_seqItems e f (wpAny_pure ?_)))
  refine wpAny_pure ?_
  dsimp only [Option.getD]
  rw [g]
  exact h
end
end Mine
end

section
open PySem PySem.W PyProof.Rows PySem.Calls PySem.SeqAt PySem.Builtin PySem.Builtin.Re
set_option maxRecDepth 100000
set_option linter.unusedSimpArgs false
namespace Mine
open PySem.Sre (M)

theorem strsAre_snoc {y : Str} {t : Tok} : ∀ {vs : List Value} {ys : List Str}, StrsAre vs ys → StrsAre (vs ++ [.str y t]) (ys ++ [y])
  | _, _, .nil => .cons _ _ .nil
  | _, _, .cons a b r => .cons a b (strsAre_snoc r)
theorem strsAre_len : ∀ {vs : List Value} {ys : List Str}, StrsAre vs ys → vs.length = ys.length
  | _, _, .nil => rfl
  | _, _, .cons _ _ r => by simp [strsAre_len r]

theorem plain_sub_loop : plainId "re.Pattern.sub.loop" = true := by decide +kernel
theorem entry_sub_loop : entryFor table "re.Pattern.sub.loop" = some Builtin.«re.Pattern.sub.loop» := entryFor_of_tree (by kernel_rfl)

theorem joinL_nil : ∀ ss : List (List Nat), joinL [] ss = ss.flatten
  | [] => rfl
  | [x] => by simp [joinL_1]
  | x :: y :: r => by
    show x ++ [] ++ joinL [] (y :: r) = _
    rw [joinL_nil (y :: r)]; simp

/-- the list of the pieces, at its place -/
structure Pcs (h₀ h : Heap) (L : Addr) (ss : List (List Nat)) : Prop where
  keep : ∀ b o, h₀.get? b = some o → h.get? b = some o
  at_ : ∃ vs c, h.get? L = some (seqObj "list" (List.toArray vs) c) ∧ StrsAre vs (ss.map fun l => ⟨l.toArray⟩)
  new : h₀.get? L = none

section
variable {prog : Program} {w : World} {A : Around} {E : Value → Shared → Prop} {s : Shared} {MM : Model}

theorem push_piece {h₀ : Heap} {L : Addr} {ss : List (List Nat)} {x : List Nat} {t : Tok} {Q : Unit → Shared → Prop} (P : Pcs h₀ s.heap L ss) (hl : ss.length ≤ 3000000)
    (h : ∀ h', Pcs h₀ h' L (ss ++ [x]) → Q () { s with heap := h' }) : wpAny MM A (updateSeq L (·.push (.str ⟨x.toArray⟩ t))) Q E s := by
  obtain ⟨vs, c, hL, ha⟩ := P.at_
  have hv : vs.length = ss.length := by rw [strsAre_len ha, List.length_map]
  refine wpAny_updateSeq hL rfl (h _ ⟨fun b o e => ?_, ?_, P.new⟩) (by rw [List.size_toArray, sizeLine_eq]; omega) (by rw [Array.size_push, List.size_toArray, sizeLine_eq]; omega)
  · have hb : b ≠ L := fun q => by rw [q, P.new] at e; cases e
    exact ((Heap.SameBut.update s.heap L _).2 b hb).trans (P.keep b o e)
  · refine ⟨vs ++ [.str ⟨x.toArray⟩ t], c + 1, ?_, by simpa using strsAre_snoc (t := t) (y := ⟨x.toArray⟩) ha⟩
    have := get?_update_seq hL fun a => a.push (.str ⟨x.toArray⟩ t)
    rw [List.push_toArray, if_neg (by simp)] at this
    exact this

theorem slice_ok {T : List Nat} {b e : Nat} {Q : Value → Shared → Prop} (hsz : T.length ≤ 1000000) (h : Q (.str ⟨((T.take e).drop b).toArray⟩ s.toks) { s with toks := s.toks + 1 }) : wpAny MM A (reSlice T.toArray 0 b e) Q E s := by
  have e1 : (T.toArray.extract b e) = ((T.take e).drop b).toArray := by simp [List.extract_eq_drop_take']
  unfold reSlice
  rw [if_pos (show (0 == 0) = true from rfl), e1]
  refine wpAny_mkStr h ?_
  show (List.toArray _).size ≤ _
  rw [List.size_toArray, sizeLine_eq, List.length_drop, List.length_take]
  omega

theorem noneNe (x : Str) (t : Tok) : (Value.str x t != Value.none) = true := rfl

/-- the end of the loop -/
noncomputable def subEnd (T : Array Nat) (L : Addr) (n : Int) : Sem Fin := do
  let joiner ← reSlice T 0 0 0
  let __do_lift ← seqItems? (Value.ref L)
  if (__do_lift.getD #[]).isEmpty = true then do
      let text ← pure joiner
      if false = true then do
          let __do_lift ← holding [text] do
                let __do_lift ← mkInt n
                newTuple [text, __do_lift]
          ret __do_lift
        else ret text
    else do
      let text ← call (Value.builtin (if (0 == 0) = true then "str.join" else "bytes.join")) [joiner, Value.ref L]
      if false = true then do
          let __do_lift ← holding [text] do
                let __do_lift ← mkInt n
                newTuple [text, __do_lift]
          ret __do_lift
        else ret text
noncomputable def subMiss (T : Array Nat) (L : Addr) (d lim : Nat) (e : Sem Fin) : Sem Fin :=
  if d < lim then do
    let x ← reSlice T 0 d lim
    updateSeq L fun v => v.push x
    e
  else e
noncomputable def subPut (L : Addr) (repl : Value) (other : Sem Fin) (c : Code) : Sem Fin :=
  if ((0 : Int) == 0) = true then do
    let item ← pure repl
    if (item != Value.none) = true then do
        updateSeq L fun v => v.push item
        again c
      else again c
  else other
noncomputable def subHit (T : Array Nat) (L : Addr) (d q : Nat) (repl : Value) (other : Sem Fin) (c : Code) : Sem Fin :=
  if d < q then do
    let x ← reSlice T 0 d q
    updateSeq L fun v => v.push x
    subPut L repl other c
  else subPut L repl other c

theorem sub_end {h₀ : Heap} {T : List Nat} {L : Addr} {full : List Nat} {ss : List (List Nat)} {h : Heap} {tk : Nat} (P : Pcs h₀ h L ss) (hj : ss.flatten = full) (hfull : full.length ≤ 3000000) (hl : ss.length ≤ 3000002) {Q : Fin → Shared → Prop} {n : Int} {A : Around}
    (hsz : T.length ≤ 1000000) (hR : ∀ h' tk tv, (∀ b o, h₀.get? b = some o → h'.get? b = some o) → Q (.done (.ret (.str ⟨full.toArray⟩ tv))) ⟨h', s.gens, s.drawn, tk, s.os⟩) :
    wpAny (model prog w) A (subEnd T.toArray L n) Q (fun _ _ => False) ⟨h, s.gens, s.drawn, tk, s.os⟩ := by
  refine wpAny_bind (slice_ok hsz ?_)
  obtain ⟨vs, c, hL, ha⟩ := P.at_
  refine wpAny_bind (wpAny_seqItems hL rfl ?_)
  dsimp only [Option.getD]
  have he : ((T.take 0).drop 0) = [] := rfl
  rw [he]
  cases hv : vs with
  | nil =>
    subst hv
    rw [if_pos (show (#[] : Array Value).isEmpty = true from rfl)]
    refine wpAny_bind (wpAny_pure ?_)
    rw [if_neg (show ¬ (false = true) by decide)]
    have hs : ss = [] := by cases ss with | nil => rfl | cons _ _ => cases ha
    subst hs
    simp at hj
    subst hj
    exact wpAny_pure (hR _ _ _ P.keep)
  | cons v vs' =>
    rw [if_neg (show ¬ ((v :: vs').toArray.isEmpty = true) by simp)]
    refine wpAny_bind ?_
    rw [if_pos (show (0 == 0) = true from rfl)]
    refine join_list (ys := ss.map fun l => ⟨l.toArray⟩) ⟨_, hL, rfl, _, rfl⟩ ha ?_ fun t' k => ?_
    · rw [total_map]
      have : total ss = full.length := by rw [← hj]; simp [total, List.length_flatten]
      rw [this]
      have : (⟨([] : List Nat).toArray⟩ : Str).length = 0 := rfl
      rw [this]
      omega
    · rw [if_neg (show ¬ (false = true) by decide)]
      have e : Txt.join ⟨([] : List Nat).toArray⟩ (ss.map fun l => ⟨l.toArray⟩) = ⟨full.toArray⟩ := by
        have h1 : (Builtin.Str.glued ⟨([] : List Nat).toArray⟩ (ss.map fun l => (⟨l.toArray⟩ : Str))).cps.toList = full := by
          rw [StrLaws.glued_eq_join, join_list', joinL_nil, hj]
        have h2 : (Txt.join ⟨([] : List Nat).toArray⟩ (ss.map fun l => (⟨l.toArray⟩ : Str))).cps = full.toArray := by
          apply Array.ext'
          exact h1
        generalize Txt.join ⟨([] : List Nat).toArray⟩ (ss.map fun l => (⟨l.toArray⟩ : Str)) = z at h2
        cases z
        simp at h2
        rw [h2]
      rw [e]
      exact wpAny_pure (hR _ _ _ P.keep)

section
variable {h₀ h : Heap} {T : List Nat} {L : Addr} {ss : List (List Nat)} {tk : Nat} {A : Around} {Q : Fin → Shared → Prop} {E : Value → Shared → Prop} {d : Nat}
theorem sub_miss {e : Sem Fin} (P : Pcs h₀ h L ss) (hsz : T.length ≤ 1000000) (hl : ss.length ≤ 3000000)
    (hQ : ∀ ss' h' tk', ss'.length ≤ ss.length + 1 → Pcs h₀ h' L ss' → ss'.flatten = ss.flatten ++ T.drop d → wpAny MM A e Q E ⟨h', s.gens, s.drawn, tk', s.os⟩) : wpAny MM A (subMiss T.toArray L d T.length e) Q E ⟨h, s.gens, s.drawn, tk, s.os⟩ := by
  unfold subMiss
  by_cases hd : d < T.length
  · rw [if_pos hd]
    refine wpAny_bind (slice_ok hsz (wpAny_bind (push_piece (s := ⟨h, s.gens, s.drawn, tk + 1, s.os⟩) P hl fun h' P' => hQ _ h' _ (by simp) P' (by simp))))
  · rw [if_neg hd]
    exact hQ ss h tk (Nat.le_succ _) P (by rw [List.drop_eq_nil_of_le (by omega), List.append_nil])
theorem sub_put {y : List Nat} {tR : Tok} {other : Sem Fin} {c : Code} (P : Pcs h₀ h L ss) (hl : ss.length ≤ 3000000)
    (hQ : ∀ h', Pcs h₀ h' L (ss ++ [y]) → Q (.again c) ⟨h', s.gens, s.drawn, tk, s.os⟩) : wpAny MM A (subPut L (.str ⟨y.toArray⟩ tR) other c) Q E ⟨h, s.gens, s.drawn, tk, s.os⟩ := by
  unfold subPut
  rw [if_pos (show ((0 : Int) == 0) = true from rfl)]
  refine wpAny_bind (wpAny_pure ?_)
  rw [if_pos (noneNe _ _)]
  exact wpAny_bind (push_piece (s := ⟨h, s.gens, s.drawn, tk, s.os⟩) P hl fun h' P' => wpAny_pure (hQ h' P'))
theorem sub_hit {q : Nat} {y : List Nat} {tR : Tok} {other : Sem Fin} {c : Code} (P : Pcs h₀ h L ss) (hsz : T.length ≤ 1000000) (hl : ss.length + 1 ≤ 3000000) (hdq : d ≤ q)
    (hQ : ∀ ss' h' tk', ss'.length ≤ ss.length + 2 → Pcs h₀ h' L ss' → ss'.flatten = ss.flatten ++ (T.take q).drop d ++ y → Q (.again c) ⟨h', s.gens, s.drawn, tk', s.os⟩) : wpAny MM A (subHit T.toArray L d q (.str ⟨y.toArray⟩ tR) other c) Q E ⟨h, s.gens, s.drawn, tk, s.os⟩ := by
  unfold subHit
  by_cases hd : d < q
  · rw [if_pos hd]
    refine wpAny_bind (slice_ok hsz (wpAny_bind (push_piece (s := ⟨h, s.gens, s.drawn, tk + 1, s.os⟩) P (by omega) fun h' P' => sub_put (s := s) P' (by simp; omega) fun h'' P'' => hQ _ h'' _ (by simp) P'' (by simp))))
  · rw [if_neg hd]
    have : q = d := by omega
    subst this
    exact sub_put P (by omega) fun h'' P'' => hQ _ h'' _ (by simp) P'' (by simp)
end

noncomputable def subArgs (p : Addr) (T : List Nat) (tT : Tok) (k : Nat) (tR : Tok) (n : Int) (d : Nat) (must : Bool) (L : Addr) : Args :=
  ⟨[.ref p, .str ⟨T.toArray⟩ tT, .str ⟨(List.replicate k 32).toArray⟩ tR, .int 0 0, .int 0 0, .int n 0, .int d 0, .int d 0, .bool must, .ref L, .bool false], []⟩
noncomputable def SubPost (R : Value → Shared → Prop) (r : Result) (s' : Shared) : Prop := match r with | .ok (.ret v) => R v s' | .ok _ => False | .error _ => False
noncomputable def mu (must : Bool) : Nat := if must then 1 else 0

noncomputable def subBody (p : Addr) (T : List Nat) (tT : Tok) (k : Nat) (tR : Tok) (n : Int) (d : Nat) (must : Bool) (L : Addr) (other : M → Sem Fin) : Sem Fin := do
  match ← reNextFound ⟨.ref p, .str ⟨T.toArray⟩ tT, ic, T.toArray, 0, 0, 0, T.toArray.size⟩ d must with
  | some m => subHit T.toArray L d m.start (.str ⟨(List.replicate k 32).toArray⟩ tR) (other m) (.builtin "re.Pattern.sub.loop" (subArgs p T tT k tR (n + 1) m.handed (m.handed == m.start) L))
  | none => subMiss T.toArray L d T.toArray.size (subEnd T.toArray L n)

theorem sub_body {h₀ h : Heap} {p : Addr} {T : List Nat} {tT tR : Tok} {k : Nat} {n : Int} {d : Nat} {must : Bool} {L : Addr} {other : M → Sem Fin} {ss : List (List Nat)} {tk : Nat} {A : Around} {Q : Fin → Shared → Prop} (hsz : T.length ≤ 1000000) (hd : d ≤ T.length)
    (hl : ss.length + 1 ≤ 3000000) (P : Pcs h₀ h L ss) (hfull : (indentL k true T).length ≤ 3000000) (hj : ss.flatten ++ indentL k (bolAt T.toArray d && !must) (T.drop d) = indentL k true T)
    (hR : ∀ h' tk tv, (∀ b o, h₀.get? b = some o → h'.get? b = some o) → Q (.done (.ret (.str ⟨(indentL k true T).toArray⟩ tv))) ⟨h', s.gens, s.drawn, tk, s.os⟩)
    (hQ : ∀ q ss' h' tk', d ≤ q → q < T.length → (must = true → d < q) → ss'.length ≤ ss.length + 2 → Pcs h₀ h' L ss' → ss'.flatten ++ indentL k false (T.drop q) = indentL k true T →
      Q (.again (.builtin "re.Pattern.sub.loop" (subArgs p T tT k tR (n + 1) q true L))) ⟨h', s.gens, s.drawn, tk', s.os⟩) :
    wpAny (model prog w) A (subBody p T tT k tR n d must L other) Q (fun _ _ => False) ⟨h, s.gens, s.drawn, tk, s.os⟩ := by
  have e0 : (T.toArray.size) = T.length := List.size_toArray ..
  have hn := nextHit_indent k T (T.length - d) d must (by omega)
  refine wpAny_bind (found_ok (start := d) (by rw [e0]; exact hd) (by rw [e0]; exact hsz) fun m => ?_)
  rw [e0]
  cases hq : nextHit T.toArray T.length must d (T.length - d) with
  | some q =>
    rw [hq] at hn
    obtain ⟨a1, a2, a3, a4⟩ := hn
    intro hx
    dsimp only
    rw [hx.1, hx.2, show (q == q) = true from beq_self_eq_true q]
    refine sub_hit P hsz hl a1 fun ss' h' tk' hl' P' hj' => hQ q ss' h' tk' a1 a2 a3 hl' P' ?_
    rw [hj', ← hj, a4, ← List.drop_take]
    simp
  | none =>
    rw [hq] at hn
    dsimp only
    refine sub_miss P hsz (by omega) fun ss' h' tk' hl' P' hj' => sub_end P' ?_ hfull (by omega) hsz hR
    rw [hj', ← hj, hn]

/-- the loop over the places found -/
theorem sub_loop {h₀ : Heap} {p : Addr} {T : List Nat} {tT tR : Tok} {k : Nat} {L : Addr} (hP : PatAt h₀ p) (hsz : T.length ≤ 1000000) {R : Value → Shared → Prop} {A : Around}
    (hR : ∀ h' tk tv, (∀ b o, h₀.get? b = some o → h'.get? b = some o) → R (.str ⟨(indentL k true T).toArray⟩ tv) ⟨h', s.gens, s.drawn, tk, s.os⟩) (hfull : (indentL k true T).length ≤ 3000000) :
    ∀ (f d : Nat) (must : Bool) (n : Int) (ss : List (List Nat)) (h : Heap) (tk : Nat), T.length + 2 ≤ d + mu must + f → d ≤ T.length → ss.length ≤ 2 * (d + mu must) →
      Pcs h₀ h L ss → ss.flatten ++ indentL k (bolAt T.toArray d && !must) (T.drop d) = indentL k true T →
      codeAny (model prog w) A (.builtin "re.Pattern.sub.loop" (subArgs p T tT k tR n d must L)) (SubPost R) ⟨h, s.gens, s.drawn, tk, s.os⟩
  | 0, d, must, _, _, _, _, hf, hd, _, _, _ => by
    have : mu must ≤ 1 := by cases must <;> decide
    omega
  | f + 1, d, must, n, ss, h, tk, hf, hd, hss, P, hj => by
    have hm1 : mu must ≤ 1 := by cases must <;> decide
    refine codeAny_builtin entry_sub_loop (wpAny_bind (m := reWholeTarget _ _) (whole_ok (hP.keep P.keep) (wpAny_bind (m := reLiteralCannotBeTurned _) (f := fun _ => subBody p T tT k tR n d must L _) (wpAny_pure
      (sub_body hsz hd (by omega) P hfull hj hR fun q ss' h' tk' a1 a2 a3 hl' P' hj' => ⟨plainId_quiet plain_sub_loop _, sub_loop hP hsz hR hfull f q true (n + 1) ss' h' tk' (show _ ≤ q + 1 + f from ?_) (Nat.le_of_lt a2) (show _ ≤ 2 * (q + 1) from ?_) P' ?_⟩)))))
    · cases must with
      | true => have := a3 rfl; simp only [mu, if_true] at hf; omega
      | false => simp only [mu, Bool.false_eq_true, if_false] at hf; omega
    · cases must with
      | true => have := a3 rfl; simp only [mu, if_true] at hss; omega
      | false => simp only [mu, Bool.false_eq_true, if_false] at hss; omega
    · rw [Bool.not_true, Bool.and_false]; exact hj'
end
end Mine
end

section
open PySem PySem.W PyProof.Rows PySem.Calls PySem.SeqAt PySem.Builtin PySem.Builtin.Re
set_option maxRecDepth 100000
set_option linter.unusedSimpArgs false
namespace Mine

theorem plainAttrs_pattern : PlainAttrs "re.Pattern" := ⟨⟨"object.__getattribute__", by rw [typeLookup_type, builtinLookup_eq_fast]; kernel_rfl, by decide +kernel⟩, by rw [typeLookup_type, builtinLookup_eq_fast]; kernel_rfl⟩
theorem slot_sub : Slot "re.Pattern" "sub" "re.Pattern.sub" :=
  .of (owner := "re.Pattern") (n := "sub") (by rw [typeLookup_type, builtinLookup_eq_fast]; kernel_rfl) (by decide +kernel) (by decide +kernel) (by decide +kernel)
    (by first | exact .inl (by decide +kernel) | exact .inr (by decide +kernel)) (by rw [isSubtype_type]; kernel_rfl)
theorem type_sub : typeOf (.builtin "re.Pattern.sub") = pure (.type "method_descriptor") := by show builtinType _ = _; rw [builtinType_eq_fast]; kernel_rfl
theorem entry_sub : entryFor table "re.Pattern.sub" = some Builtin.«re.Pattern.sub» := entryFor_of_tree (by kernel_rfl)
theorem args_sub (a b c : Value) : argsOk "re.Pattern.sub" ⟨[a, b, c], []⟩ := by unfold argsOk; kernel_rfl

theorem named_sub (id f : String) (a b : Value) : reNamed id f ["repl", "string", "count"] 2 [a, b] [] = pure [some a, some b, none] := by
  rfl
theorem noCall_str : typeLookup (.type "str") "__call__" = pure none := by rw [typeLookup_type, builtinLookup_eq_fast]; kernel_rfl

section
variable {prog : Program} {w : World} {A : Around} {s : Shared}

theorem no92 (k : Nat) : ((List.replicate k 32).toArray : Array Nat).contains 92 = false := by
  simp

theorem sub_ok {p : Addr} {T : List Nat} {tT tR : Tok} {k : Nat} (hP : PatAt s.heap p) (hsz : T.length ≤ 1000000) (hfull : (indentL k true T).length ≤ 3000000) {R : Value → Shared → Prop}
    (hR : ∀ h' tk tv, (∀ b o, s.heap.get? b = some o → h'.get? b = some o) → R (.str ⟨(indentL k true T).toArray⟩ tv) ⟨h', s.gens, s.drawn, tk, s.os⟩) :
    wpAny (model prog w) A (call (.builtin "re.Pattern.sub") [.ref p, .str ⟨(List.replicate k 32).toArray⟩ tR, .str ⟨T.toArray⟩ tT]) R Fls s := by
  have hT : s.TypeIs (.ref p) "re.Pattern" := by
    obtain ⟨o, _, _, _, _, _, _, _, _, _, _, a, b, _⟩ := hP
    exact ⟨o, a, b⟩
  refine wpAny_call (codeAny_call_builtin slot_sub.plain entry_sub (slot_sub.check _ _ _ _ _ _ _ _ hT (args_sub _ _ _) ?_))
  unfold Builtin.«re.Pattern.sub» reSubstitute
  dsimp only
  rw [named_sub]
  refine wpAny_bind (wpAny_pure ?_)
  dsimp only
  refine wpAny_bind (wpAny_pure ?_)
  refine wpAny_bind (wpAny_specialOf_val (T := "str") rfl noCall_str ?_)
  dsimp only [Option.isSome]
  rw [if_neg (show ¬ (false = true) by decide)]
  refine wpAny_bind (m := asStr? _) (wpAny_pure ?_)
  dsimp only
  rw [no92]
  refine wpAny_bind (wpAny_pure ?_)
  rw [if_neg (show ¬ (false = true) by decide), if_pos (show (!false) = true from rfl)]
  refine wpAny_bind (wpAny_pure ?_)
  dsimp only
  refine wpAny_bind (wpAny_holding (whole_ok hP ?_))
  rw [if_neg (show ¬ (((0 : Int) == 1) = true) by decide)]
  refine wpAny_bind (wpAny_newList ?_ (Nat.zero_le _))
  refine wpAny_pure ⟨plainId_quiet plain_sub_loop _, ?_⟩
  have nL : s.heap.get? s.heap.objs.size = none := by
    cases e : s.heap.get? s.heap.objs.size with
    | none => rfl
    | some o => exact absurd (Heap.lt_size e) (Nat.lt_irrefl _)
  have hb : (bolAt T.toArray 0 && !false) = true := rfl
  refine codeAny_mono (sub_loop (s := s) (h₀ := s.heap) (k := k) (L := s.heap.objs.size) hP hsz (R := R) hR hfull (T.length + 3) 0 false 0 [] _ s.toks (by omega) (Nat.zero_le _) (Nat.zero_le _) ⟨fun b o e => ?_, ⟨[], 0, ?_, .nil⟩, nL⟩ ?_) fun r s' hr => ?_
  · exact Heap.get?_push_of_some _ e
  · exact Heap.get?_push_size _ rfl
  · rw [hb]; simp
  · exact hr
end
end Mine
end

section
open PySem PySem.W PyProof.Rows PySem.Calls PySem.SeqAt
set_option maxRecDepth 100000
set_option linter.unusedSimpArgs false
namespace Mine

theorem indentL_len (k : Nat) : ∀ (b : Bool) (l : List Nat), (indentL k b l).length ≤ l.length * (k + 1)
  | _, [] => by simp [indentL_0]
  | true, c :: r => by
    have h1 := indentL_len k true r
    have h2 := indentL_len k false r
    simp only [indentL_t]
    split
    · simp only [List.length_cons, Nat.succ_mul]; omega
    · simp only [List.length_append, List.length_replicate, List.length_cons, Nat.succ_mul]; omega
  | false, c :: r => by
    have h2 := indentL_len k (c == 10) r
    simp only [indentL_f, List.length_cons, Nat.succ_mul]; omega

section
variable {prog : Program} {w : World} {A : Around} {hB : Heap} {mg : Str → Option Value}

theorem indent_goes {g iv sv : Str} {p1 p2 p3 p4 p5 p6 p7 p8 : Pos} {kd : Nat} {fd : FuncData} {fI pa : Addr} (F : PlFn hB fI fd) (hlim : hB.NoLimit)
    (hbody : fd.body = .stmts [.Return (some (.Call (.Attribute (.Name g p1) "sub" p2) [.BinOp (.Name iv p3) .Mult (.Constant (.str ⟨#[32]⟩) kd p4) p5, .Name sv p6] [] p7)) p8])
    (hline : (p2.endLine == p7.line) = true) (hd : (g == ("__debug__" : Str)) = false ∧ (iv == ("__debug__" : Str)) = false ∧ (sv == ("__debug__" : Str)) = false) (hne : sv ≠ iv)
    (hk : fd.scope.names.lookup g = some .globalImplicit ∧ fd.scope.names.lookup iv = some .local ∧ fd.scope.names.lookup sv = some .local)
    (hok : okEs (fun _ => true) fd.scope [.BinOp (.Name iv p3) .Mult (.Constant (.str ⟨#[32]⟩) kd p4) p5, .Name sv p6] = true)
    (hbind : ∀ (M : Model) (a : Str) (t : Tok) (i : Int) (u : Tok), Looks M hB (bindArgs fd ⟨[.str a t, .int i u], []⟩) [(sv, .str a t), (iv, .int i u)])
    (Tg : hB.Ns mainGlobals mg) (hg : mg g = some (.ref pa)) (P : PatAt hB pa)
    {s : Shared} {T : List Nat} {t u : Tok} {i : Int} (k : ∀ b o, hB.get? b = some o → s.heap.get? b = some o) (hA : A.depth < recursionLimit)
    (h1 : T.length ≤ 1000000) (h2 : i.natAbs ≤ 1000000) (h3 : (T.length + 1) * (i.natAbs + 1) ≤ 1000000) :
    wpAny (model prog w) A (call (.ref fI) [.str ⟨T.toArray⟩ t, .int i u]) (fun v s' => (∃ tv, v = .str ⟨(indentL i.toNat true T).toArray⟩ tv) ∧ Goes s s') Fls s := by
  refine wpAny_call (codeAny_mono (pl_enter (s := s) F hlim hbody k hA (fun M' A' E' Q' hq => ?_) (binds := [(sv, .str ⟨T.toArray⟩ t), (iv, .int i u)]) ?_
    (R := fun r s' => match r with | .ok (.ret v) => (∃ tv, v = .str ⟨(indentL i.toNat true T).toArray⟩ tv) ∧ Goes s s' | _ => False) fun h₀ hn hk' => ?_) (fun r s' hr => ?_))
  · exact (hbind M' _ _ _ _).keeps k |>.at hq
  · intro q hq
    rcases List.mem_cons.mp hq with rfl | hq
    · exact hk.2.2
    · cases List.mem_singleton.mp hq; exact hk.2.1
  · have k0 : ∀ b o, hB.get? b = some o → h₀.get? b = some o := fun b o e => hk' b o (k b o e)
    generalize hE : callEnv fd s.heap.objs.size fI = env
    have hloc : env.locals = s.heap.objs.size := by subst hE; rfl
    have hkind : env.scope.kind = .function := by subst hE; exact F.kind
    have hglob : env.globals = mainGlobals := by subst hE; exact F.glob
    have kg : env.kindOf g = some .globalImplicit := by subst hE; exact hk.1
    have ki : env.kindOf iv = some .local := by subst hE; exact hk.2.1
    have ks : env.kindOf sv = some .local := by subst hE; exact hk.2.2
    have b1 : (sv == iv) = false := by simpa using hne
    refine wpAny_execs_cons (wpAny_Return_some ?_)
    rw [arm_eval_Call, base_plain rfl]
    refine wpAny_bind (Name_function_global hkind kg ?_ hd.1)
    refine ((looks_global Tg hg env hglob).keeps k0).here ?_
    refine wpAny_bind (wpAny_standAt ?_)
    have okk : okEs (fun _ => true) env.scope [.BinOp (.Name iv p3) .Mult (.Constant (.str ⟨#[32]⟩) kd p4) p5, .Name sv p6] = true := by
      subst hE; exact hok
    have hform : methodCallForm (2 + 0) (backTo p7 (starEach [.BinOp (.Name iv p3) .Mult (.Constant (.str ⟨#[32]⟩) kd p4) p5, .Name sv p6] env)) (backToKw p7 (keywordEach [] env)) = true := rfl
    have hpos : methodCallPos true (.Name g p1) env p2 p7 = pure p7 := by unfold methodCallPos; simp [hline]
    show wpAny _ _ (methodCall _ _ _ _ _ _ (2 + 0) _ _) _ _ _
    unfold methodCall
    rw [hform]
    have Pn : PatAt h₀ pa := P.keep k0
    have Po : ∃ o, h₀.get? pa = some o ∧ o.cls = .type "re.Pattern" ∧ o.dict = none := by
      obtain ⟨o, _, _, _, _, _, _, _, _, _, _, a, b, c, _⟩ := Pn
      exact ⟨o, a, b, c⟩
    obtain ⟨o, ho, hc, hdd⟩ := Po
    refine wpAny_bind (wpAny_holding (getMethod_builtin (T := "re.Pattern") ⟨o, ho, hc⟩ plainAttrs_pattern slot_sub type_sub (fun a e => by cases e; exact ⟨o, ho, hdd⟩) ?_))
    refine wpAny_bind (wpAny_of_eq hpos ?_)
    refine callWith_of (P := fun h => ∀ b o, h₀.get? b = some o → h.get? b = some o) (by rw [okEs_plain okk]; rfl) (fun h hp => ⟨.machine, .inr (.inl rfl), .of_pure rfl⟩) (evalArgs_all okk ?_)
    have nI : ∀ (h : Heap), (∀ b o, h₀.get? b = some o → h.get? b = some o) → h = h₀ ∨ True := fun _ _ => .inr trivial
    refine wpAny_items_cons ?_ (okE_noStar (kn := fun _ => true) (sc := env.scope) ((and2 (a := okE (fun _ => true) env.scope _) (b := okEs (fun _ => true) env.scope [.Name sv p6]) okk).1) _ env)
    refine wpAny_BinOp (wpAny_Name (wpAny_loadName_local (v := .int i u) hkind ki (hloc ▸ hn) (by simp []) ?_) hd.2.1)
    refine wpAny_Constant_str ?_
    refine mul_int_str (l := [32]) h2 (by simp) (by simp; omega) fun x tx tk hx => ?_
    have ex : x = ⟨(List.replicate i.toNat 32).toArray⟩ := by
      have : mulText i [32] = List.replicate i.toNat 32 := by simp [mulText]
      rw [this] at hx
      cases x
      simp at hx ⊢
      apply Array.ext'
      rw [hx]; simp
    subst ex
    refine wpAny_items_cons (wpAny_Name (wpAny_loadName_local (v := .str ⟨T.toArray⟩ t) hkind ks (hloc ▸ hn) (by simp [List.lookup, b1]) ?_) hd.2.2) (okE_noStar (kn := fun _ => true) (sc := env.scope) ((and2 (a := okE (fun _ => true) env.scope (.Name sv p6)) (b := okEs (fun _ => true) env.scope []) ((and2 (a := okE (fun _ => true) env.scope _) (b := okEs (fun _ => true) env.scope [.Name sv p6]) okk).2)).1) _ env)
    refine wpAny_items_nil ⟨fun b o e => e, ?_⟩
    have hlen : (indentL i.toNat true T).length ≤ 3000000 := by
      have := indentL_len i.toNat true T
      have h4 : T.length * (i.toNat + 1) ≤ (T.length + 1) * (i.natAbs + 1) := Nat.mul_le_mul (by omega) (by omega)
      omega
    refine sub_ok (k := i.toNat) Pn h1 hlen fun h' tk' tv kk => ⟨⟨_, rfl⟩, h', tk', rfl, fun b o e => kk b o (hk' b o e)⟩
  · cases r with
    | ok f => cases f <;> first | exact hr | exact hr.elim
    | error e => exact hr
end
end Mine
end

section
open PySem PySem.W PyProof.Rows PySem.Calls PySem.SeqAt
set_option maxRecDepth 100000
set_option linter.unusedSimpArgs false
namespace Mine

section
variable {prog : Program} {w : World} {A : Around} {E : Value → Shared → Prop} {s : Shared} {K : Frag} {C x : Addr} {ox : Obj} {od : Option Obj}

theorem iter_kind : builtinKind "list.__iter__" = some .slot := by decide +kernel
theorem iter_split : splitId "list.__iter__" = some ("list", "__iter__") := by decide +kernel

theorem special_slot {name : Str} {id : String} {refuse : Sem Value} {Q : Option Value → Shared → Prop} (X : K.In s.heap) (I : InstAt s.heap x ox C od) (hs : findIn K (.ref C) name = some (some (.builtin id))) (hb : ∀ v, bindSpecial (.builtin id) v = pure (.builtin id, [v]))
    (h : wpAny (model prog w) A (call (.builtin id) [.ref x]) (fun v => Q (some v)) E s) : wpAny (model prog w) A (callSpecialIfBoundUnlessNone? (.ref x) name refuse) Q E s := by
  unfold callSpecialIfBoundUnlessNone? bindSpecialIfBound?
  refine wpAny_holding (wpAny_bind (wpAny_bind (wpAny_bind (I.type.here ((looks_findIn X hs).here ?_)))))
  dsimp only
  rw [hb]
  have fin : wpAny (model prog w) A (call (.builtin id) [.ref x] >>= fun v => pure (some v)) Q E s := wpAny_bind (wpAny_mono h (fun v s' h' => wpAny_pure h') fun _ _ h' => h')
  refine wpAny_bind (wpAny_askSetting (wpAny_ite ?_))
  split
  · exact wpAny_bind (wpAny_pure (wpAny_pure fin))
  · exact wpAny_tryCatch (wpAny_bind (wpAny_pure (wpAny_pure fin)))

/-- what goes over an object of a class whose objects are lists -/
theorem iter_own {Q : Value → Shared → Prop} (X : K.In s.heap) (I : InstAt s.heap x ox C od) (hs : findIn K (.ref C) "__iter__" = some (some (.builtin "list.__iter__"))) (hl : subIn K (.ref C) (.type "list") = some true)
    (h : Q (.ref s.heap.objs.size) { s with heap := s.heap.push { cls := .type "list_iterator", data := .fields #[.ref x, .int 0 0] } }) : wpAny (model prog w) A (pyIter (.ref x)) Q E s := by
  have hin : Looks (model prog w) s.heap (isInstance (.ref x) (.type "list")) true := I.type.andThen (looks_subIn X hl)
  have hc : wpAny (model prog w) A (call (.builtin "list.__iter__") [.ref x]) (fun it s' => s'.TypeIs it "list_iterator" ∧ Q it s') E s := by
    refine wpAny_call (codeAny_call_builtin slot_list_iter.plain entry_list_iter (@check_slot (model prog w) _ _ s "list.__iter__" "list" "__iter__" (.ref x) [] [] _ iter_kind iter_split hin (args_list_iter _) ?_))
    show wpAny _ _ (do ret (← newFields "list_iterator" [.ref x, rawInt 0])) _ _ s
    exact wpAny_bind (wpAny_newObj_type (wpAny_pure ⟨⟨_, Heap.get?_push_size _ rfl, rfl⟩, h⟩))
  unfold pyIter
  refine wpAny_bind (wpAny_bind (I.type.here ((looks_findIn X hs).here ?_)))
  dsimp only
  refine wpAny_bind (special_slot X I hs (fun v => slot_list_iter.bind v) (wpAny_mono hc (fun it s' hq => ?_) fun _ _ e => e))
  exact wpAny_bind (wpAny_specialOf hq.1 slot_listiter_next.lookup (wpAny_pure hq.2))

/-- one item of it -/
noncomputable def SeqAtH (h : Heap) (l : Addr) (items : Array Value) : Prop := ∃ cl dd n sl, h.get? l = some ⟨cl, dd, .seq items n, sl⟩
theorem SeqAtH.at {h h' : Heap} {l : Addr} {items : Array Value} (x : SeqAtH h l items) (k : ∀ o, h.get? l = some o → h'.get? l = some o) : SeqAtH h' l items :=
  let ⟨cl, dd, n, sl, e⟩ := x; ⟨cl, dd, n, sl, k _ e⟩
theorem next_item {it l : Addr} {i : Nat} {items : Array Value} {v : Value} {Q : Option Value → Shared → Prop} (hit : s.heap.IsListIter it l i) (hl : SeqAtH s.heap l items) (hx : items[i]? = some v)
    (hQ : ∀ h', h'.IsListIter it l (i + 1) → Heap.SameBut it s.heap h' → Q (some v) { s with heap := h' }) : wpAny (model prog w) A (pyNext (.ref it)) Q E s := by
  obtain ⟨o, ho, hc, hd⟩ := id hit
  obtain ⟨cl, dd, n, sl, hol⟩ := hl
  unfold pyNext
  refine wpAny_bind (wpAny_attempt (wpAny_callSpecial?_slot (name := Str.ofString "__next__") hit.typeIs slot_listiter_next
    (wpAny_call_entry slot_listiter_next hit.typeIs entry_listiter_next ?_ (args_listiter_next _))))
  show wpAny _ _ (field (.ref it) 0 >>= _) _ _ s
  refine wpAny_bind (wpAny_field ho hd (x := .ref l) rfl ?_)
  show wpAny _ _ (if (Value.ref l == Value.none) = true then _ else _) _ _ s
  rw [if_neg (show ¬ ((Value.ref l == Value.none) = true) from Bool.false_ne_true)]
  show wpAny _ _ (field (.ref it) 1 >>= _) _ _ s
  refine wpAny_bind (wpAny_field ho hd (x := .int i 0) rfl ?_)
  show wpAny _ _ (seqItems? (.ref l) >>= _) _ _ s
  refine wpAny_bind (wpAny_seqItems hol rfl ?_)
  dsimp only [Int.toNat_natCast]
  rw [hx]
  refine wpAny_bind (wpAny_setField ho hd (by simp) (wpAny_pure ⟨v, rfl, wpAny_pure (hQ _ ?_ (Heap.SameBut.update ..))⟩))
  exact ⟨_, Heap.get?_update_self _ ho (Obj.isFreed_of_fields (Obj.data_mapFields hd _)), (Obj.cls_mapFields ..).trans hc, by
    rw [Obj.data_mapFields hd]; simp [rawInt]⟩
theorem next_end {it l : Addr} {i : Nat} {items : Array Value} {Q : Option Value → Shared → Prop} (hh : A.handled = none) (hit : s.heap.IsListIter it l i) (hl : SeqAtH s.heap l items) (hx : items[i]? = none)
    (hQ : ∀ h', Heap.ExtBut it s.heap h' → Q none { s with heap := h' }) : wpAny (model prog w) A (pyNext (.ref it)) Q E s := by
  obtain ⟨o, ho, hc, hd⟩ := id hit
  obtain ⟨cl, dd, n, sl, hol⟩ := hl
  unfold pyNext
  refine wpAny_bind (wpAny_attempt (wpAny_callSpecial?_slot (name := Str.ofString "__next__") hit.typeIs slot_listiter_next
    (wpAny_call_entry slot_listiter_next hit.typeIs entry_listiter_next ?_ (args_listiter_next _))))
  show wpAny _ _ (field (.ref it) 0 >>= _) _ _ s
  refine wpAny_bind (wpAny_field ho hd (x := .ref l) rfl ?_)
  show wpAny _ _ (if (Value.ref l == Value.none) = true then _ else _) _ _ s
  rw [if_neg (show ¬ ((Value.ref l == Value.none) = true) from Bool.false_ne_true)]
  show wpAny _ _ (field (.ref it) 1 >>= _) _ _ s
  refine wpAny_bind (wpAny_field ho hd (x := .int i 0) rfl ?_)
  show wpAny _ _ (seqItems? (.ref l) >>= _) _ _ s
  refine wpAny_bind (wpAny_seqItems hol rfl ?_)
  dsimp only [Int.toNat_natCast]
  rw [hx]
  refine wpAny_bind (wpAny_rule (wpAny_bind (wpAny_setField ho hd (by simp) ?_)))
  show wpAny _ _ (newExc (.type "StopIteration") [] >>= _) _ _ _
  refine wpAny_bind ?_
  simp only [newExc, newTuple]
  refine wpAny_bind (wpAny_newObj_type ?_ (by size_fits))
  refine wpAny_bind (m := firstArgMember _ _) (wpAny_of_eq (a := Value.none) (by first | rfl | (simp only [firstArgMember]; rfl)) ?_)
  refine wpAny_newObj_type ?_ (by size_fits)
  simp only [raiseNew]
  refine wpAny_bind (wpAny_handled ?_)
  rw [show A.in1.handled = none from hh]
  refine wpAny_bind (wpAny_pure (wpAny_throw ?_))
  refine wpAny_bind (wpAny_isInstance (T := "StopIteration") (b := true) ⟨_, Heap.get?_push_size _ rfl, rfl⟩ isSubtype_stop ?_)
  exact wpAny_pure (hQ _ (((Heap.SameBut.update ..).extBut.push _).push _))
end

/-- pairs that lie in such a list -/
theorem walks_pairs {prog : Program} {w : World} {A : Around} (hh : A.handled = none) (I ax : Addr) (hne : ax ≠ I) (items : Array Value) (Ts : Nat → Addr) (vals : Nat → Array Value)
    (hit : ∀ j, j < items.size → items[j]? = some (.ref (Ts j))) (hTI : ∀ j, j < items.size → Ts j ≠ I) :
    WalksU prog w A I (I :: ax :: (List.range items.size).map Ts) [I] items.size (fun j v => j < items.size ∧ v = vals j)
      (fun j h => h.IsListIter I ax j ∧ SeqAtH h ax items ∧ ∀ k, k < items.size → h.IsTuple (Ts k) (vals k))
      (fun j T h => (j < items.size ∧ T = Ts j) ∧ h.IsListIter I ax (j + 1) ∧ SeqAtH h ax items ∧ ∀ k, k < items.size → h.IsTuple (Ts k) (vals k)) where
  sub := fun b hb => by simp at hb; simp [hb]
  frame := fun _ _ _ st hk => ⟨st.1.at fun o e => hk I (by simp) o e, st.2.1.at fun o e => hk ax (by simp) o e,
    fun k hk' => (st.2.2 k hk').at fun o e => hk (Ts k) (List.mem_cons_of_mem _ (List.mem_cons_of_mem _ (List.mem_map.mpr ⟨k, List.mem_range.mpr hk', rfl⟩))) o e⟩
  item := fun i s Q E hi st hQ => by
    refine next_item st.1 st.2.1 (v := .ref (Ts i)) (hit i hi) fun h' hit' hs' => ?_
    have tup : ∀ k, k < items.size → h'.IsTuple (Ts k) (vals k) := fun k hk' => (st.2.2 k hk').extBut hs'.extBut (hTI k hk')
    exact hQ (Ts i) (vals i) h' s.toks ⟨hi, rfl⟩ (tup i hi) ⟨⟨hi, rfl⟩, hit', st.2.1.at fun o e => hs'.extBut _ _ hne e, tup⟩ fun b o hb e => hs'.extBut b o (fun h => hb (by simp [h])) e
  go := fun _ _ _ _ _ s Q _ hm hQ => wpAny_letOwnedTupleGo_listiter hm.2.1 (hQ s.heap hm.2 fun _ _ _ e => e)
  apart := fun j T _ hm hmem => by
    rcases List.mem_cons.mp hmem with e | e
    · exact hTI j hm.1.1 (hm.1.2 ▸ e)
    · cases e
  done := fun s Q E st hQ => next_end hh st.1 st.2.1 (by simp) fun h' he' => hQ h' s.toks fun b o hb e => he' b o (fun h => hb (by simp [h])) e
  self := fun _ _ _ _ st hQ => wpAny_pyIter_listiter st.1 hQ

/-- a sum that begins at a number -/
noncomputable def shiftV (i0 : Int) (val : Nat → Int) : Nat → Int
  | 0 => i0
  | j + 1 => val j
theorem preSum_shift (i0 : Int) (val : Nat → Int) : ∀ n, preSum (shiftV i0 val) (n + 1) = i0 + preSum val n
  | 0 => by simp [preSum, shiftV]
  | n + 1 => by
    show preSum (shiftV i0 val) (n + 1) + shiftV i0 val (n + 1) = i0 + (preSum val n + val n)
    rw [preSum_shift i0 val n]
    show i0 + preSum val n + val n = _
    omega
theorem walks_shift {prog : Program} {w : World} {A : Around} {I : Addr} {fp wr : List Addr} {G : Array GenState → Array GenState → Prop} {n : Nat} {P : Nat → Value → Prop} {St : Nat → Shared → Prop} (W : WalksS prog w A I fp wr G n P St) :
    WalksS prog w A I fp wr G (n + 1) (fun i v => ∃ j, i = j + 1 ∧ P j v) (fun i s => ∃ j, i = j + 1 ∧ St j s) where
  sub := W.sub
  grefl := W.grefl
  gtrans := W.gtrans
  frame := fun i s h' tk ⟨j, e, st⟩ ht hk => ⟨j, e, W.frame j s h' tk st ht hk⟩
  item := fun i s Q E hi ⟨j, e, st⟩ hQ => by
    subst e
    exact W.item j s Q E (by omega) st fun v s' hP hst hm => hQ v s' ⟨j, rfl, hP⟩ ⟨j + 1, rfl, hst⟩ hm
  done := fun s Q E ⟨j, e, st⟩ hQ => by
    cases e
    exact W.done s Q E st hQ
  self := fun i s Q E ⟨j, e, st⟩ hQ => W.self j s Q E st hQ

section
variable {prog : Program} {w : World} {A : Around} {E : Value → Shared → Prop} {s : Shared}
theorem args_sum2 (a b : Value) : argsOk "sum" ⟨[a, b], []⟩ := by unfold argsOk; kernel_rfl
noncomputable def sumTail (it start : Value) (stage : Int) : Sem Fin := do
  for (ty, what, hint) in [("str", "strings", "''"), ("bytes", "bytes", "b''"), ("bytearray", "bytearray", "b''")] do
    if ← isInstance start (.type ty) then
      rule "sum.start-refused"; raiseError "TypeError" s!"sum() can't sum {what} [use {hint}.join(seq) instead]"
  again (.builtin "sum.loop" ⟨[it, ← newList [start], rawInt stage, rawInt 0], []⟩)
theorem sum_tail {it : Value} {i0 : Int} {tA : Tok} {st : Int} {Q : Fin → Shared → Prop}
    (h : Q (.again (.builtin "sum.loop" ⟨[it, .ref s.heap.objs.size, rawInt st, rawInt 0], []⟩)) { s with heap := s.heap.push { cls := .type "list", data := .seq #[.int i0 tA] } }) : wpAny (model prog w) A (sumTail it (.int i0 tA) st) Q E s := by
  unfold sumTail
  simp only [List.forIn_cons, List.forIn_nil]
  refine wpAny_bind (wpAny_bind (wpAny_bind (wpAny_isInstance (T := "int") (b := false) (typeIs_int _ _ _) PySem.sub_int_str ?_)))
  simp only [Bool.false_eq_true, if_false]
  refine wpAny_pure (wpAny_bind (wpAny_bind (wpAny_isInstance (T := "int") (b := false) (typeIs_int _ _ _) PySem.sub_int_bytes ?_)))
  simp only [Bool.false_eq_true, if_false]
  refine wpAny_pure (wpAny_bind (wpAny_bind (wpAny_isInstance (T := "int") (b := false) (typeIs_int _ _ _) PySem.sub_int_bytearray ?_)))
  simp only [Bool.false_eq_true, if_false]
  refine wpAny_pure (wpAny_pure ?_)
  exact wpAny_bind (wpAny_newObj_type (wpAny_pure h))
theorem sum_from {x : Value} {i0 : Int} {t0 : Tok} {Q : Value → Shared → Prop}
    (h : wpAny (model prog w) A.in1 (pyIter x) (fun it s₂ => ∃ I fp wr G n P St val, it = .ref I ∧ WalksS prog w A.in1 I fp wr G n P St ∧ St 0 s₂ ∧ (∀ b ∈ fp, b < s₂.heap.objs.size) ∧
      (∀ i v, P i v → ∃ t, v = .int (val i) t) ∧ ∀ s' t', Moved wr G s₂ s' → Q (.int (i0 + preSum val n) t') s') E s) :
    wpAny (model prog w) A (call (.builtin "sum") [x, .int i0 t0]) Q E s := by
  refine call_function_tree F.kind_sum F.plain_sum F.entry_sum (args_sum2 _ _) ?_
  unfold Builtin.«sum»
  simp only [List.length_cons, List.length_nil]
  rw [if_neg (by decide)]
  refine wpAny_bind (wpAny_of_eq (show Builtin.Builtins.bindParams "sum" ["start"] 0 ⟨[.int i0 t0], []⟩ = pure [some (.int i0 t0)] from rfl) ?_)
  refine wpAny_bind (wpAny_mono h (fun it s₂ h₂ => ?_) fun _ _ e => e)
  obtain ⟨I, fp, wr, G, n, P, St, val, rfl, W, hst, hfp, hval, hQ⟩ := h₂
  have W' := walks_shift W
  have hval' : ∀ i v, (∃ j, i = j + 1 ∧ P j v) → ∃ t, v = .int (shiftV i0 val i) t := fun i v ⟨j, e, hP⟩ => by subst e; exact hval j v hP
  have hSf : s₂.heap.objs.size ∉ fp := fun hm => Nat.lt_irrefl _ (hfp _ hm)
  have e1 : preSum (shiftV i0 val) 1 = i0 := by simp [preSum, shiftV]
  have go : ∀ (tk tA : Tok) (st : Int), (st = 0 ∨ st = 2) → s₂.toks ≤ tk → codeAny (model prog w) A (.builtin "sum.loop" ⟨[.ref I, .ref s₂.heap.objs.size, rawInt st, rawInt 0], []⟩) (fun r s' => match r with | .ok (.ret v) => Q v s' | .ok _ => False | .error e => E e s')
      { s₂ with heap := s₂.heap.push { cls := .type "list", data := .seq #[.int i0 tA] }, toks := tk } := fun tk tA st hst2 htk => by
    refine codeAny_sum_loopAnyS W' (shiftV i0 val) hval' s₂.heap.objs.size hSf n 1 _ tA 0 st hst2 (by omega) (by omega)
      ⟨0, rfl, W.frame 0 s₂ _ _ hst htk fun b _ o e => Heap.get?_push_of_some _ e⟩ (by rw [e1]; exact Heap.get?_push_size _ rfl) fun s' t' hm => ?_
    rw [preSum_shift]
    exact hQ s' t' (hm.drop_new htk)
  show wpAny _ _ (if (_ : Bool) = true then (rule "sum.start-copied" >>= fun _ => mkInt i0 >>= fun v => pure (v, (0 : Int)) >>= fun p => sumTail (.ref I) p.1 p.2) else (pure (Value.int i0 t0, (2 : Int)) >>= fun p => sumTail (.ref I) p.1 p.2)) _ _ _
  split
  · refine wpAny_bind (wpAny_rule (wpAny_bind (wpAny_mkInt (wpAny_bind (wpAny_pure ?_)))))
    exact sum_tail (s := { s₂ with toks := s₂.toks + 1 }) ⟨plainId_quiet F.plain_sum_loop _, go _ _ 0 (.inl rfl) (Nat.le_succ _)⟩
  · refine wpAny_bind (wpAny_pure ?_)
    exact sum_tail (s := s₂) ⟨plainId_quiet F.plain_sum_loop _, go _ _ 2 (.inr rfl) (Nat.le_refl _)⟩
end
end Mine
end

section
open PySem PySem.W PyProof.Rows PySem.Calls PySem.SeqAt
set_option maxRecDepth 100000
set_option linter.unusedSimpArgs false
namespace Mine

/-- a def's table of codes, with room for one code at a place -/
noncomputable def TabR (h : Heap) (P : Addr) (l c : Nat) : Prop := ∃ ps : Array Value, h.get? P = some { cls := .none, data := .fields ps } ∧ (ps = #[] ∨ ∃ x, ps = #[.int (l : Nat) 0, .int (c : Nat) 0, x])

section
variable {hB : Heap} {os : OsState} {C : Addr} {ρ : Rho} {σ : Sto} {s s' : Shared}
theorem StG.codeTurn (G : StG hB os C ρ σ s) {r : Nat} {p : Addr × Addr} {b0 l c : Nat} (hp : ρ[r]? = some p) (hc : σ[r]? = some (.code b0 l c)) (kp : KeepH (· = p.1) s.heap s'.heap)
    (R : TabR s'.heap p.1 l c) (hg : AllBare s'.gens) (hos : s'.os = s.os) : StG hB os C ρ σ s' ∧ Step ρ s ρ s' := by
  have hin : inρ ρ p.1 := ⟨p, List.mem_of_getElem? hp, rfl⟩
  have hm : ∀ b, b = p.1 → Mut s.heap b ∧ hB.get? b = none := fun b e => by subst e; exact G.mut hin
  have R' : CellR hB C ρ s'.heap (.code b0 l c) p := ⟨(G.cell _ _ _ hc hp).1, R⟩
  have hl : ∀ b, inρ ρ b → (s'.heap.get? b).isSome = true := fun b hb => by
    by_cases q : b = p.1
    · subst q; exact R'.lies
    · obtain ⟨o, ho⟩ := Option.isSome_iff_exists.mp (G.lies hb)
      rw [kp b o ho q]; rfl
  refine ⟨⟨fun b o e => ?_, G.len, fun i c1 p1 e1 e2 => ?_, G.lo, G.apart, hg, hos.trans G.os, fun q hq => ?_⟩, .refl, kp.weak fun b o _ e => by subst e; exact hin, hl⟩
  · refine kp b o (G.base b o e) fun q => ?_
    have := (G.mut hin).2
    rw [← q, e] at this
    cases this
  · by_cases hi : i = r
    · subst hi
      rw [hp] at e2; cases e2
      rw [hc] at e1
      cases e1
      exact R'
    · refine (G.cell i c1 p1 e1 e2).mono kp hm (n := s.heap) .refl (fun q => hi ?_) fun n xs ec => ?_
      · have ap := G.apart
        rw [List.Nodup, List.pairwise_iff_getElem] at ap
        obtain ⟨l1, g1⟩ := List.getElem?_eq_some_iff.mp e2
        obtain ⟨l2, g2⟩ := List.getElem?_eq_some_iff.mp hp
        rcases Nat.lt_trichotomy i r with z | z | z
        · exact absurd (by rw [List.getElem_map, List.getElem_map, g1, g2, q]) (ap i r (by simpa using l1) (by simpa using l2) z)
        · exact z
        · exact absurd (by rw [List.getElem_map, List.getElem_map, g1, g2, q]) (ap r i (by simpa using l2) (by simpa using l1) z)
      · subst ec
        exact G.noDict hin e2 e1
  · have t := G.two q hq
    by_cases e : q.2 = p.1
    · show (s'.heap.get? q.2).isSome = true
      rw [e]; exact R'.lies
    · exact isSome_keep (fun o ho => kp _ o ho e) t
end

section
variable {M : Model} {A : Around} {E : Value → Shared → Prop} {s : Shared}
theorem gen_code {env : Env} {pos : Pos} {qual : Str} {scope : Scope} {c P : Addr} {Q : Value → Shared → Prop} (hcode : env.code = .ref c) (H : CodeHd s.heap c P) (x : TabR s.heap P pos.line pos.col)
    (h : ∀ cv h' tk, Heap.ExtBut P s.heap h' → s.heap.objs.size ≤ h'.objs.size → TabR h' P pos.line pos.col → Q cv { s with heap := h', toks := tk }) : wpAny M A (genexprCode env pos qual scope) Q E s := by
  obtain ⟨ps, hP, rfl | ⟨x, rfl⟩⟩ := x
  · exact wpAny_genexprCodeX hcode (H.code hP trivial) (H.tab hP) rfl fun c' h' tk hx hge hlt _ _ htab _ => h _ h' tk hx (Nat.le_of_lt (Nat.lt_of_le_of_lt hge hlt)) ⟨_, htab.2, .inr ⟨.ref c', by simp [rawInt]⟩⟩
  · refine wpAny_genexprCode_hit (c' := x) hcode (H.code hP ?_) ?_ (h x s.heap s.toks (fun _ _ _ e => e) (Nat.le_refl _) ⟨_, hP, .inr ⟨_, rfl⟩⟩)
    · simp [TriplesOk]
    · simp [codeAmong]
end

theorem walks_mono {prog : Program} {w : World} {A : Around} {I : Addr} {fp wr : List Addr} {G : Array GenState → Array GenState → Prop} {n n' : Nat} {P P' : Nat → Value → Prop} {St : Nat → Shared → Prop} (W : WalksS prog w A I fp wr G n P St) (e : n = n') (h : ∀ i v, P i v → P' i v) :
    WalksS prog w A I fp wr G n' P' St := by
  subst e
  exact ⟨W.sub, W.grefl, W.gtrans, W.frame, fun i s Q E hi st hQ => W.item i s Q E hi st fun v s' hP => hQ v s' (h i v hP), W.done, W.self⟩
theorem passing_all (n : Nat) : passing (fun _ => true) n 0 = List.range n := by simp [passing]

/-- two texts each -/
noncomputable def pairAV (y : List Nat × List Nat) : AV := .tup [.str y.1, .str y.2]

/-- what the machine's list shows of pairs of texts -/
theorem pairs_lie {hB : Heap} {ρ : Rho} {h : Heap} {ys : List (List Nat × List Nat)} {vs : List Value} (R : RelVs hB ρ h (ys.map pairAV) vs) :
    ∃ f : Nat → Addr × Array Value, ∀ j, j < vs.length → vs[j]? = some (.ref (f j).1) ∧ h.IsTuple (f j).1 (f j).2 ∧ ∃ y ta tb, ys[j]? = some y ∧ (f j).2 = #[.str ⟨y.1.toArray⟩ ta, .str ⟨y.2.toArray⟩ tb] := by
  have all : ∀ j, ∃ q : Addr × Array Value, j < vs.length → vs[j]? = some (.ref q.1) ∧ h.IsTuple q.1 q.2 ∧ ∃ y ta tb, ys[j]? = some y ∧ q.2 = #[.str ⟨y.1.toArray⟩ ta, .str ⟨y.2.toArray⟩ tb] := fun j => by
    by_cases hj : j < vs.length
    · have hl := R.length
      rw [List.length_map] at hl
      have hy : j < ys.length := by omega
      obtain ⟨v, hv, r⟩ := R.get (i := j) (x := pairAV ys[j]) (by rw [List.getElem?_map, List.getElem?_eq_getElem hy]; rfl)
      obtain ⟨ad, us, t, rs, rfl⟩ := r.tupE
      obtain ⟨va, vb, r1, r2, rfl⟩ := rs.twoE
      obtain ⟨ta, rfl⟩ := r1.strE
      obtain ⟨tb, rfl⟩ := r2.strE
      exact ⟨(ad, _), fun _ => ⟨hv, t, ys[j], ta, tb, List.getElem?_eq_getElem hy, rfl⟩⟩
    · exact ⟨(0, #[]), fun h => absurd h hj⟩
  exact ⟨fun j => Classical.choose (all j), fun j => Classical.choose_spec (all j)⟩

section
variable {prog : Program} {w : World} {A : Around} {E : Value → Shared → Prop} {hB : Heap} {os : OsState} {C : Addr} {ρ : Rho} {σ : Sto} {s : Shared} {K : Frag}

/-- what a generator over an accumulator's pairs is -/
structure GenR (prog : Program) (w : World) (A : Around) (hB : Heap) (os : OsState) (C : Addr) (ρ : Rho) (σ : Sto) (s : Shared) (P : Addr) (n : Nat) (F : Nat → Value → Prop) (a : Addr) (s₆ : Shared) (fp wr : List Addr) (g : Nat) (St : Nat → Shared → Prop) : Prop where
  walks : WalksS prog w A.in4 a fp wr (GenOnlyQ g) n F St
  at_ : St 0 s₆
  typ : ∀ i s', St i s' → s'.TypeIs (.ref a) "generator"
  mem : a ∈ fp
  lies : ∀ b ∈ fp, b < s₆.heap.objs.size
  done : ∀ s', Moved wr (GenOnlyQ g) s₆ s' → StG hB os C ρ σ s' ∧ Step ρ s ρ s' ∧ KeepH (· = P) s.heap s'.heap

theorem gen_own {env : Env} {elt : PySem.Expr} {xa xb sn : Str} {pa pb pt psn : Pos} {kt : Nat} {scope : Scope} {pos : Pos} {Q : Value → Shared → Prop} {c bm : Addr} {mg : Str → Option Value} {ob : Obj} {p q : Addr × Addr} {r k : Nat} {size : Int} {ys : List (List Nat × List Nat)} {F : Nat → Value → Prop}
    (hh : A.handled = none) (hco : scope.isCoroutine = false) (hclos : closureFor scope env = pure []) (hcell : ∀ y ∈ scope.names, y.2 ≠ .cell) (h0 : scope.names.lookup (".0" : Str) = some NameKind.local)
    (hxa : scope.names.lookup xa = some .local) (hxb : scope.names.lookup xb = some .local) (hab : xa ≠ xb) (hkind : scope.kind = .function) (hroom : A.depth < recursionLimit)
    (G : StG hB os C ρ σ s) (X : K.In hB) (hlim : hB.NoLimit) (hr : ρ[r]? = some p) (hc : σ[r]? = some (.acc size (ys.map pairAV))) (hk : ρ[k]? = some q) {b0 : Nat} (hd : σ[k]? = some (.code b0 pos.line pos.col))
    (hcode : env.code = .ref c) (H : CodeHd hB c q.1) (M : BMod hB env.globals mg bm ob) (hit : findIn K (.ref C) "__iter__" = some (some (.builtin "list.__iter__"))) (hls : subIn K (.ref C) (.type "list") = some true)
    (hself : ∀ Q', Q' (.ref p.1) s → wpAny (model prog w) A (eval (.Name sn psn) env) Q' E s)
    (helt : ∀ (code : Value) (Cc : Addr) (A' : Around) E' i y ta tb (s₂ : Shared) m₂, A'.handled = none → ys[i]? = some y → s₂.heap.Ns Cc m₂ → m₂ xa = some (.str ⟨y.1.toArray⟩ ta) → m₂ xb = some (.str ⟨y.2.toArray⟩ tb) → (∀ b o, hB.get? b = some o → s₂.heap.get? b = some o) →
      wpAny (model prog w) A' (eval elt (genEnv scope [] Cc code builtinsNs env)) (fun v s₃ => F i v ∧ Keeps s₂ s₃) E' s₂)
    (hQ : ∀ a s₆ fp wr g St, GenR prog w A hB os C ρ σ s q.1 ys.length F a s₆ fp wr g St → Q (.ref a) s₆) :
    wpAny (model prog w) A (eval (.GeneratorExp elt [⟨.Tuple [.Name xa pa, .Name xb pb] kt pt, .Name sn psn, [], 0⟩] scope pos) env) Q E s := by
  obtain ⟨us, at_, rs⟩ := G.cell _ _ _ hc hr
  obtain ⟨n1, od1, I1, ha1, _⟩ := at_.inst
  have htab : TabR s.heap q.1 pos.line pos.col := (G.cell _ _ _ hd hk).2
  obtain ⟨f, hf⟩ := pairs_lie rs
  have hn : ys.length = us.length := by have := rs.length; rwa [List.length_map] at this
  have Xs : K.In s.heap := X.keeps G.base
  have hqB : hB.get? q.1 = none := G.lo q (List.mem_of_getElem? hk)
  have hPs : (s.heap.get? q.1).isSome = true := G.lies ⟨q, List.mem_of_getElem? hk, rfl⟩
  refine wpAny_GeneratorExp_walksQT hh hco hclos hcell h0 hxa hxb hab hkind hroom (hself _ (iter_own Xs I1 hit hls ?_)) (fun _ => rfl)
  have lt0 : ∀ {b : Addr} {o : Obj}, s.heap.get? b = some o → b < s.heap.objs.size := fun e => Heap.lt_size e
  have keep1 : ∀ b o, s.heap.get? b = some o → (s.heap.push { cls := .type "list_iterator", data := .fields #[.ref p.1, .int 0 0] }).get? b = some o := fun b o e => Heap.get?_push_of_some _ e
  have itI : (s.heap.push { cls := .type "list_iterator", data := .fields #[.ref p.1, .int 0 0] }).get? s.heap.objs.size = some { cls := .type "list_iterator", data := .fields #[.ref p.1, .int 0 0] } := Heap.get?_push_size _ rfl
  have sz1 : (s.heap.push { cls := .type "list_iterator", data := .fields #[.ref p.1, .int 0 0] }).objs.size = s.heap.objs.size + 1 := Heap.size_push ..
  have qlt : q.1 < s.heap.objs.size := by
    obtain ⟨o, ho⟩ := Option.isSome_iff_exists.mp hPs
    exact lt0 ho
  have tab1 : TabR (s.heap.push { cls := .type "list_iterator", data := .fields #[.ref p.1, .int 0 0] }) q.1 pos.line pos.col := let ⟨ps, e, h⟩ := htab; ⟨ps, keep1 _ _ e, h⟩
  generalize s.heap.push { cls := .type "list_iterator", data := .fields #[.ref p.1, .int 0 0] } = h1 at keep1 itI sz1 tab1
  refine ⟨(hlim.keeps G.base).keeps keep1, gen_code hcode (H.keeps fun b o e => keep1 _ _ (G.base b o e)) tab1 fun cv h₃ tk₃ hx₃ hsz₃ tab₃ => ?_⟩
  replace hx₃ : Heap.ExtBut q.1 h1 h₃ := hx₃
  replace hsz₃ : h1.objs.size ≤ h₃.objs.size := hsz₃
  have hz : s.heap.objs.size < h₃.objs.size := Nat.lt_of_lt_of_le (by rw [sz1]; exact Nat.lt_succ_self _) hsz₃
  have keep3 : ∀ b o, b ≠ q.1 → s.heap.get? b = some o → h₃.get? b = some o := fun b o n e => hx₃ b o n (keep1 b o e)
  have base3 : ∀ b o, hB.get? b = some o → h₃.get? b = some o := fun b o e => keep3 b o (fun q' => by rw [q', hqB] at e; cases e) (G.base b o e)
  have M₃ := M.keeps base3
  refine wpAny_builtinsFor M₃.ns M₃.name M₃.ne M₃.obj M₃.cls M₃.dict M₃.data ?_
  have hpI : p.1 ≠ s.heap.objs.size := Nat.ne_of_lt (lt0 ha1)
  have tup : ∀ j, j < us.length → us[j]? = some (.ref (f j).1) ∧ s.heap.IsTuple (f j).1 (f j).2 ∧ ∃ y ta tb, ys[j]? = some y ∧ (f j).2 = #[.str ⟨y.1.toArray⟩ ta, .str ⟨y.2.toArray⟩ tb] := hf
  have tlt : ∀ j, j < us.length → (f j).1 < s.heap.objs.size ∧ (f j).1 ≠ q.1 := fun j hj => by
    obtain ⟨_, ⟨o, ho, hcl, _⟩, _⟩ := tup j hj
    refine ⟨lt0 ho, fun e => ?_⟩
    obtain ⟨ps, hps, _⟩ := htab
    rw [e, hps] at ho; cases ho; cases hcl
  have pq : p.1 ≠ q.1 := fun e => by
    obtain ⟨ps, hps, _⟩ := htab
    rw [e, hps] at ha1; cases ha1
  have hIq : s.heap.objs.size ≠ q.1 := fun e => Nat.lt_irrefl _ (e ▸ qlt)
  have us_sz : us.toArray.size = us.length := List.size_toArray ..
  refine ⟨s.heap.objs.size, s.heap.objs.size :: p.1 :: (List.range us.toArray.size).map fun j => (f j).1, [s.heap.objs.size], us.toArray.size, _, _, _, fun _ => true, F, rfl,
    fun A' hA => walks_pairs hA s.heap.objs.size p.1 hpI us.toArray (fun j => (f j).1) (fun j => (f j).2) (fun j hj => by have := (tup j (us_sz ▸ hj)).1; simpa using this) fun j hj => Nat.ne_of_lt (tlt j (us_sz ▸ hj)).1,
    fun i vals hv => ?_, ⟨⟨_, hx₃ _ _ hIq itI, rfl, rfl⟩, ⟨_, _, _, _, keep3 _ _ pq ha1⟩, fun k' hk' => ?_⟩, fun b hb => ?_, hlim.keeps base3, fun hb => ?_, fun href hhref => ⟨?_, ?_⟩, fun a h₅ tk₅ gs hgb hlt₅ hsz₅ hk₅ W hat => ?_⟩
  · obtain ⟨hi, e⟩ := hv
    obtain ⟨_, _, y, ta, tb, _, e2⟩ := tup i (us_sz ▸ hi)
    exact ⟨_, _, e.trans e2⟩
  · obtain ⟨_, ⟨o, ho, r⟩, _⟩ := tup k' (us_sz ▸ hk')
    exact ⟨o, keep3 _ _ (tlt k' (us_sz ▸ hk')).2 ho, r⟩
  · show b < h₃.objs.size
    rcases List.mem_cons.mp hb with rfl | hb
    · exact hz
    · rcases List.mem_cons.mp hb with rfl | hb
      · exact Nat.lt_trans (lt0 ha1) hz
      · obtain ⟨j, hj, rfl⟩ := List.mem_map.mp hb
        exact Nat.lt_trans (tlt j (us_sz ▸ List.mem_range.mp hj)).1 hz
  · have hcs := List.mem_singleton.mp hb
    obtain ⟨_, hns, _⟩ := hlim
    obtain ⟨o, es, ep, ho, _⟩ := hns
    exact Nat.lt_irrefl _ (hcs ▸ lt0 (G.base _ _ ho))
  · intro A' E' i va vb s₂ m₂ _ _ _ _ _ _
    exact wpAny_pure ⟨rfl, _, _, rfl, fun _ _ e => e⟩
  · intro A' E' i va vb s₂ m₂ hA hv _ hns hma hmb hkp
    obtain ⟨hi, e⟩ := hv
    obtain ⟨_, _, y, ta, tb, hy, e2⟩ := tup i (us_sz ▸ hi)
    have e3 := e.trans e2
    simp only [Array.mk.injEq, List.cons.injEq, and_true] at e3
    obtain ⟨rfl, rfl⟩ := e3
    refine helt cv _ A' E' i y ta tb s₂ m₂ hA hy hns hma hmb fun b o e => hkp b (List.mem_range.mpr (Heap.lt_size (base3 b o e))) (fun hb => ?_) o (hhref b o (base3 b o e))
    exact Nat.lt_irrefl _ (List.mem_singleton.mp hb ▸ lt0 (G.base b o e))
  · rw [passing_all, List.length_range] at W
    have hsub : ∀ b, b ∈ a :: h₃.objs.size :: List.range h₃.objs.size → b < h₅.objs.size := fun b hb => by
      have hlt₅' : h₃.objs.size < a := hlt₅
      rw [hsz₅]
      rcases List.mem_cons.mp hb with rfl | hb
      · exact Nat.lt_succ_self _
      · rcases List.mem_cons.mp hb with rfl | hb
        · exact Nat.lt_succ_of_lt hlt₅'
        · exact Nat.lt_succ_of_lt (Nat.lt_trans (List.mem_range.mp hb) hlt₅')
    have nw : ∀ b, b < s.heap.objs.size → b ∉ h₃.objs.size :: [s.heap.objs.size] := fun b hb hm => by
      rcases List.mem_cons.mp hm with rfl | hm
      · exact Nat.lt_irrefl _ (Nat.lt_trans hb hz)
      · exact Nat.lt_irrefl _ (List.mem_singleton.mp hm ▸ hb)
    refine hQ a _ _ _ _ _ ⟨walks_mono W (by rw [us_sz, hn]) fun j y ⟨i, hi, hF⟩ => ?_, hat, fun i s' st => st.1.typeIs, List.mem_cons_self, hsub, fun s' hm => ?_⟩
    · obtain ⟨h1, h2⟩ := List.getElem?_eq_some_iff.mp hi
      rw [List.getElem_range] at h2
      exact h2 ▸ hF
    · have kp : KeepH (· = q.1) s.heap s'.heap := fun b o e n => hm.heap b o (nw b (lt0 e)) (hk₅ b o (keep3 b o n e))
      obtain ⟨ps, hps, hor⟩ := tab₃
      obtain ⟨G', T'⟩ := G.codeTurn hk hd kp ⟨ps, hm.heap _ _ (nw _ qlt) (hk₅ _ _ hps), hor⟩ (AllBare.moved (G.gens.push hgb) hm.gens) hm.os
      exact ⟨G', T', kp⟩
end
end Mine
end

section
open PySem PySem.W PyProof.Rows PySem.Calls PySem.SeqAt
set_option maxRecDepth 100000
set_option linter.unusedSimpArgs false
namespace Mine

theorem join_cat (ss : List (List Nat)) : Txt.join ⟨#[]⟩ (ss.map fun l => ⟨l.toArray⟩) = ⟨ss.flatten.toArray⟩ := by
  have h1 : (Builtin.Str.glued ⟨([] : List Nat).toArray⟩ (ss.map fun l => (⟨l.toArray⟩ : Str))).cps.toList = ss.flatten := by
    rw [StrLaws.glued_eq_join, join_list', joinL_nil]
  have h2 : (Txt.join ⟨([] : List Nat).toArray⟩ (ss.map fun l => (⟨l.toArray⟩ : Str))).cps = ss.flatten.toArray := by
    apply Array.ext'
    exact h1
  show Txt.join ⟨([] : List Nat).toArray⟩ _ = _
  generalize Txt.join ⟨([] : List Nat).toArray⟩ (ss.map fun l => (⟨l.toArray⟩ : Str)) = z at h2
  cases z
  simp at h2
  rw [h2]

section
variable {prog : Program} {w : World} {A : Around} {E : Value → Shared → Prop} {s : Shared} {env : Env}

/-- a built-in of the globals is called -/
theorem call_glob {g : Str} {id : String} {np pos : Pos} {e0 : PySem.Expr} {r : List PySem.Expr} {Q : Value → Shared → Prop} (hkind : env.scope.kind = .function) (hk : env.kindOf g = some .globalImplicit) (hd : (g == ("__debug__" : Str)) = false)
    (L : Looks (model prog w) s.heap (loadGlobal env g) (.builtin id)) (h1 : starEach (e0 :: r) env = (false, eval e0 env) :: starEach r env) (h2 : (backTo pos (starEach r env)).any (·.1) = false)
    (h : wpAny (model prog w) A (spliced (backTo pos (starEach (e0 :: r) env))) (fun vs s' => wpAny (model prog w) A (call (.builtin id) vs) Q E s') E s) : wpAny (model prog w) A (eval (.Call (.Name g np) (e0 :: r) [] pos) env) Q E s := by
  show wpAny _ _ (eval (.Name g np) env >>= fun f => callWith pos f [] (backTo pos (starEach (e0 :: r) env)) []) _ _ _
  refine wpAny_bind (Name_function_global hkind hk (L.here ?_) hd)
  rw [h1] at h ⊢
  refine callWith_of (P := fun _ => True) (by show ((false || (backTo pos (starEach r env)).any (·.1)) || false) = false; rw [h2]; rfl) (fun h hp => ⟨.machine, .inr (.inl rfl), .of_pure rfl⟩) (evalArgs_plain (wpAny_mono h (fun vs s' h' => ⟨trivial, h'⟩) fun _ _ x => x))

theorem one_len {x : Str} {p1 p2 p3 : Pos} {m₂ : Str → Option Value} {l : List Nat} {t : Tok} {Q : Value → Shared → Prop} (hkind : env.scope.kind = .function) (hk : env.kindOf "len" = some .globalImplicit) (hx : env.kindOf x = some .local) (hd : (x == ("__debug__" : Str)) = false)
    (L : Looks (model prog w) s.heap (loadGlobal env "len") (.builtin "len")) (hn : s.heap.Ns env.locals m₂) (hm : m₂ x = some (.str ⟨l.toArray⟩ t)) (hl : l.length ≤ 1000000) (h : ∀ tt k, Q (.int l.length tt) { s with toks := k }) :
    wpAny (model prog w) A (eval (.Call (.Name "len" p1) [.Name x p2] [] p3) env) Q E s := by
  refine call_glob hkind hk (by decide) L rfl rfl (wpAny_items_cons (wpAny_Name (wpAny_loadName_local hkind hx hn hm ?_) hd) rfl)
  refine wpAny_items_nil ?_
  have e : (⟨l.toArray⟩ : Str).length = l.length := by simp [Str.length]
  refine len_str (by rw [e]; omega) ?_
  rw [e]
  exact h _ _

theorem lens_elt {xa xb : Str} {p1 p2 p3 p4 p5 p6 p7 : Pos} {m₂ : Str → Option Value} {y : List Nat × List Nat} {ta tb : Tok} (hkind : env.scope.kind = .function) (hk : env.kindOf "len" = some .globalImplicit) (ha : env.kindOf xa = some .local) (hb : env.kindOf xb = some .local) (hda : (xa == ("__debug__" : Str)) = false) (hdb : (xb == ("__debug__" : Str)) = false)
    (L : ∀ t, Looks (model prog w) { s with toks := t }.heap (loadGlobal env "len") (.builtin "len")) (hn : s.heap.Ns env.locals m₂) (hma : m₂ xa = some (.str ⟨y.1.toArray⟩ ta)) (hmb : m₂ xb = some (.str ⟨y.2.toArray⟩ tb)) (h1 : y.1.length ≤ 1000000) (h2 : y.2.length ≤ 1000000) :
    wpAny (model prog w) A (eval (.BinOp (.Call (.Name "len" p1) [.Name xa p2] [] p3) .Add (.Call (.Name "len" p4) [.Name xb p5] [] p6) p7) env) (fun v s₃ => (∃ t, v = .int ((y.1.length + y.2.length : Nat) : Int) t) ∧ Keeps s s₃) E s := by
  refine wpAny_BinOp (one_len hkind hk ha hda (L s.toks) hn hma h1 fun tt k => ?_)
  refine one_len hkind hk hb hdb (L k) hn hmb h2 fun tt' k' => add_int ?_
  exact ⟨⟨_, by rw [Int.natCast_add]⟩, _, _, rfl, fun _ _ e => e⟩

/-- a text of the globals joins two -/
theorem join_elt {g xa xb : Str} {p1 p2 p3 p4 p5 p6 : Pos} {kt : Nat} {m₂ : Str → Option Value} {y : List Nat × List Nat} {ta tb te : Tok} (hkind : env.scope.kind = .function) (hk : env.kindOf g = some .globalImplicit) (hg : (g == ("__debug__" : Str)) = false) (ha : env.kindOf xa = some .local) (hb : env.kindOf xb = some .local)
    (hda : (xa == ("__debug__" : Str)) = false) (hdb : (xb == ("__debug__" : Str)) = false) (hline : (p2.endLine == p6.line) = true)
    (L : Looks (model prog w) s.heap (loadGlobal env g) (.str ⟨#[]⟩ te)) (hn : s.heap.Ns env.locals m₂) (hma : m₂ xa = some (.str ⟨y.1.toArray⟩ ta)) (hmb : m₂ xb = some (.str ⟨y.2.toArray⟩ tb)) (h1 : y.1.length ≤ 1000000) (h2 : y.2.length ≤ 1000000) :
    wpAny (model prog w) A (eval (.Call (.Attribute (.Name g p1) "join" p2) [.Tuple [.Name xa p3, .Name xb p4] kt p5] [] p6) env) (fun v s₃ => (∃ t, v = .str ⟨(y.1 ++ y.2).toArray⟩ t) ∧ Keeps s s₃) E s := by
  rw [arm_eval_Call, base_plain rfl]
  refine wpAny_bind (Name_function_global hkind hk (L.here ?_) hg)
  refine wpAny_bind (wpAny_standAt ?_)
  have hform : methodCallForm (1 + 0) (backTo p6 (starEach [.Tuple [.Name xa p3, .Name xb p4] kt p5] env)) (backToKw p6 (keywordEach [] env)) = true := rfl
  have hpos : methodCallPos true (.Name g p1) env p2 p6 = pure p6 := by unfold methodCallPos; simp [hline]
  show wpAny _ _ (methodCall _ _ _ _ _ _ (1 + 0) _ _) _ _ _
  unfold methodCall
  rw [hform]
  refine wpAny_bind (wpAny_holding (GM.join ?_))
  refine wpAny_bind (wpAny_of_eq hpos ?_)
  refine callWith_of (P := fun _ => True) rfl (fun h hp => ⟨.machine, .inr (.inl rfl), .of_pure rfl⟩) (evalArgs_plain ?_)
  refine wpAny_items_cons (wpAny_Tuple ?_) rfl
  refine wpAny_items_cons (wpAny_Name (wpAny_loadName_local hkind ha hn hma ?_) hda) rfl
  refine wpAny_items_cons (wpAny_Name (wpAny_loadName_local hkind hb hn hmb ?_) hdb) rfl
  refine wpAny_items_nil ⟨by rw [sizeLine_eq']; simp, ?_⟩
  refine wpAny_items_nil ⟨trivial, ?_⟩
  refine join_tuple (ys := [y.1, y.2].map fun l => ⟨l.toArray⟩) ⟨_, Heap.get?_push_size _ rfl, rfl, _, rfl⟩ (.cons _ _ (.cons _ _ .nil)) ?_ fun t' k => ⟨⟨t', ?_⟩, _, _, rfl, fun b o e => Heap.get?_push_of_some _ e⟩
  · show y.1.toArray.size + (y.2.toArray.size + 0) + 2 * 0 ≤ 16777216
    simp only [List.size_toArray]
    omega
  · rw [join_cat]; simp
end
end Mine
end

section
open PySem PySem.W PyProof.Rows PySem.Calls PySem.SeqAt
set_option maxRecDepth 100000
set_option linter.unusedSimpArgs false
namespace Mine

section
variable {prog : Program} {w : World} {A : Around} {E : Value → Shared → Prop} {s : Shared} {K : Frag} {C x : Addr} {ox : Obj} {od : Option Obj}

theorem lga_kind : builtinKind "list.__getattribute__" = some .slot := by decide +kernel
theorem lga_split : splitId "list.__getattribute__" = some ("list", "__getattribute__") := by decide +kernel

/-- an object's own value is read -/
theorem own_read {name : Str} {v : Value} {Q : Value → Shared → Prop} (X : K.In s.heap) (I : InstAt s.heap x ox C od) (GK : GaK K C) (hl : subIn K (.ref C) (.type "list") = some true) (hf : findObj K C od name = some (.value v)) (hh : handedIn v = true)
    (h : Q v { s with toks := s.toks + 1 }) : wpAny (model prog w) A (getAttr (.ref x) name true) Q E s := by
  obtain ⟨hp, g, d, t, os⟩ := s
  have hin : Looks (model prog w) hp (isInstance (.ref x) (.type "list")) true := I.type.andThen (looks_subIn X hl)
  have L0 := I.type (M := model prog w)
  have L1 := looks_findIn (M := model prog w) X GK.ga
  have L2 := looks_findIn (M := model prog w) X GK.no
  have L3 := looks_find (M := model prog w) X I hf
  unfold getAttr getAttrBy
  refine wpAny_bind (wpAny_mkText (wpAny_holding (wpAny_bind (L0.at (wpAny_bind (L1.at ?_))))))
  show wpAny _ _ (getAttrByItsOwn (.ref x) (.str name t) (.ref C) (.builtin "list.__getattribute__") true true) _ _ _
  unfold getAttrByItsOwn
  refine wpAny_bind (m := hookBefore _) (L2.at ?_)
  refine wpAny_bind (wpAny_attempt (wpAny_holding ?_))
  show wpAny _ _ (bindSpecial (.builtin "list.__getattribute__") (.ref x) >>= _) _ _ _
  refine wpAny_bind (wpAny_of_eq (PySem.F.slot_list_getattribute.bind _) ?_)
  refine wpAny_call (codeAny_call_builtin PySem.F.slot_list_getattribute.plain PySem.F.entry_list_ga (@check_slot (model prog w) _ _ ⟨hp, g, d, t + 1, os⟩ "list.__getattribute__" "list" "__getattribute__" (.ref x) [.str name t] [] _ lga_kind lga_split hin (PySem.F.args_list_getattribute_2 _ _) ?_))
  unfold Builtin.«object.__getattribute__»
  refine wpAny_bind (wpAny_pure (wpAny_bind (wpAny_pure (wpAny_bind (L0.at (wpAny_bind (L3.at ?_)))))))
  refine wpAny_pure ?_
  show wpAny _ _ (handedOut v) _ _ _
  rw [handedOut_of hh]; exact wpAny_pure h

theorem size_at {a d : Addr} {size : Int} {vs : Array Value} {Q : Value → Shared → Prop} (X : K.In s.heap) (GK : GaK K C) (hl : subIn K (.ref C) (.type "list") = some true) (hd : hasDictIn K C = true) (hf : findIn K (.ref C) "_initial_size" = some none) (at_ : AccAt C s.heap a d size vs)
    (h : ∀ t, Q (.int size t) { s with toks := s.toks + 1 }) : wpAny (model prog w) A (getAttr (.ref a) "_initial_size" true) Q E s := by
  obtain ⟨⟨n, ha⟩, hs, kk, tt, j, hdd⟩ := at_
  have I : InstAt s.heap a ⟨.ref C, some d, .seq vs n, #[]⟩ C (some ⟨.type "dict", none, .dict #[⟨hs, .str (Str.ofString "_initial_size") kk, .int size tt⟩] j, #[]⟩) := ⟨ha, rfl, rfl, hdd⟩
  have hlk : lookIn "_initial_size" (⟨.type "dict", none, .dict #[⟨hs, .str (Str.ofString "_initial_size") kk, .int size tt⟩] j, #[]⟩ : Obj) = some (some (.int size tt)) := by
    have hb : (Value.str (Str.ofString "_initial_size") kk).isStr "_initial_size" = true := by
      show (Str.ofString "_initial_size" == Str.ofString "_initial_size") = true
      exact beq_self_eq_true _
    simp [lookIn, hb]
  exact own_read X I GK hl (findObj_own hd hf rfl hlk) rfl (h tt)
end

/-- how long the pairs' texts are -/
noncomputable def pairsLen (ys : List (List Nat × List Nat)) : Nat := (ys.map fun y => y.1.length + y.2.length).sum
noncomputable def lenAt (ys : List (List Nat × List Nat)) (j : Nat) : Int := match ys[j]? with
  | some y => ((y.1.length + y.2.length : Nat) : Int)
  | none => 0
theorem lenAt_of {ys : List (List Nat × List Nat)} {j : Nat} {y : List Nat × List Nat} (h : ys[j]? = some y) : lenAt ys j = ((y.1.length + y.2.length : Nat) : Int) := by
  unfold lenAt; rw [h]
theorem preSum_len (ys : List (List Nat × List Nat)) : ∀ n, n ≤ ys.length → preSum (lenAt ys) n = ((pairsLen (ys.take n) : Nat) : Int)
  | 0, _ => by simp [preSum, pairsLen]
  | n + 1, h => by
    have hn : n < ys.length := h
    show preSum (lenAt ys) n + lenAt ys n = _
    rw [preSum_len ys n (by omega), lenAt_of (List.getElem?_eq_getElem hn), List.take_add_one, List.getElem?_eq_getElem hn, Option.toList_some]
    simp only [pairsLen, List.map_append, List.sum_append, List.map_cons, List.map_nil, List.sum_cons, List.sum_nil]
    omega
theorem preSum_all (ys : List (List Nat × List Nat)) : preSum (lenAt ys) ys.length = ((pairsLen ys : Nat) : Int) := by
  rw [preSum_len ys _ (Nat.le_refl _), List.take_length]
end Mine
end

section
open PySem PySem.W PyProof.Rows PySem.Calls PySem.SeqAt
set_option maxRecDepth 100000
set_option linter.unusedSimpArgs false
namespace Mine

/-- a def of the accumulator's that goes over its pairs by a generator -/
structure GFn (hB : Heap) (f : Addr) (fd : FuncData) (sn : Str) (c P : Addr) (scope : Scope) (xa xb : Str) : Prop where
  pl : PlFn hB f fd
  code : fd.code = .ref c
  hd : CodeHd hB c P
  bind : ∀ v : Value, bindArgs fd ⟨[v], []⟩ = pure [(sn, v)]
  self : fd.scope.names.lookup sn = some .local
  dbs : (sn == ("__debug__" : Str)) = false
  co : scope.isCoroutine = false
  clos : ∀ env, closureFor scope env = pure []
  cell : ∀ y ∈ scope.names, y.2 ≠ .cell
  zero : scope.names.lookup (".0" : Str) = some NameKind.local
  na : scope.names.lookup xa = some .local
  nb : scope.names.lookup xb = some .local
  ab : xa ≠ xb
  kind : scope.kind = .function
  dba : (xa == ("__debug__" : Str)) = false
  dbb : (xb == ("__debug__" : Str)) = false

/-- the world about it -/
structure GWld (hB : Heap) (K : Frag) (C : Addr) (mg mb : Str → Option Value) : Prop where
  ins : K.In hB
  lim : hB.NoLimit
  Tg : hB.Ns mainGlobals mg
  Tb : hB.Ns builtinsNs mb
  bm : ∃ bm ob, BMod hB mainGlobals mg bm ob
  iter : findIn K (.ref C) "__iter__" = some (some (.builtin "list.__iter__"))
  list : subIn K (.ref C) (.type "list") = some true
  ga : GaK K C
  dict : hasDictIn K C = true
  size : findIn K (.ref C) "_initial_size" = some none

theorem Moved.refl' {wr : List Addr} {g : Nat} (s : Shared) : Moved wr (GenOnlyQ g) s s := ⟨fun _ _ _ e => e, .inl rfl, rfl, rfl, Nat.le_refl _⟩
theorem Moved.of_toks {wr : List Addr} {g : Nat} {s s' : Shared} {t : Nat} (h : s.toks ≤ t) (m : Moved wr (GenOnlyQ g) { s with toks := t } s') : Moved wr (GenOnlyQ g) s s' := ⟨m.heap, m.gens, m.drawn, m.os, Nat.le_trans h m.toks⟩

section
variable {prog : Program} {w : World} {hB : Heap} {os : OsState} {K : Frag} {C : Addr} {mg mb : Str → Option Value} {f c : Addr} {fd : FuncData} {sn xa xb : Str} {scope : Scope}

theorem len_fn {q : Addr × Addr} {p1 p2 p3 p4 p5 p6 p7 q1 q2 q3 q4 q5 pa pb pt psn pos : Pos} {kt : Nat} (W : GWld hB K C mg mb) (F : GFn hB f fd sn c q.1 scope xa xb)
    (hbody : fd.body = .stmts [.Return (some (.Call (.Name "sum" q1) [.GeneratorExp (.BinOp (.Call (.Name "len" p1) [.Name xa p2] [] p3) .Add (.Call (.Name "len" p4) [.Name xb p5] [] p6) p7) [⟨.Tuple [.Name xa pa, .Name xb pb] kt pt, .Name sn psn, [], 0⟩] scope pos, .Attribute (.Name sn q2) "_initial_size" q3] [] q4)) q5])
    (hks : fd.scope.names.lookup ("sum" : Str) = some .globalImplicit) (hkl : scope.names.lookup ("len" : Str) = some .globalImplicit) (ms : mg "sum" = none ∧ mb "sum" = some (.builtin "sum")) (ml : mg "len" = none ∧ mb "len" = some (.builtin "len"))
    {A : Around} {ρ : Rho} {σ : Sto} {s : Shared} {r k : Nat} {p : Addr × Addr} {size : Int} {ys : List (List Nat × List Nat)} (hh : A.handled = none) (hA : A.depth + 1 < recursionLimit) (G : StG hB os C ρ σ s) (hr : ρ[r]? = some p) (hc : σ[r]? = some (.acc size (ys.map pairAV)))
    (hk : ρ[k]? = some q) {b0 : Nat} (hd : σ[k]? = some (.code b0 pos.line pos.col)) (hy : ∀ y ∈ ys, y.1.length ≤ 1000000 ∧ y.2.length ≤ 1000000) :
    wpAny (model prog w) A (call (.ref f) [.ref p.1]) (fun v s' => (∃ t, v = .int (size + (pairsLen ys : Nat)) t) ∧ StG hB os C ρ σ s' ∧ Step ρ s ρ s') Fls s := by
  refine wpAny_call (codeAny_mono (pl_enter (s := s) (R := fun r s' => match r with | .ok (.ret v) => (∃ t, v = .int (size + (pairsLen ys : Nat)) t) ∧ StG hB os C ρ σ s' ∧ Step ρ s ρ s' | _ => False) F.pl W.lim hbody G.base (Nat.lt_of_succ_lt hA) (.of_eq (F.bind _))
    (fun x hx => by cases List.mem_singleton.mp hx; exact F.self) fun h₀ hn hk' => ?_) fun r s' hr => ?_)
  · have g0 : Goes s { s with heap := h₀, toks := s.toks + 1 } := ⟨h₀, _, rfl, hk'⟩
    have gt0 := g0.step G
    have hloc : (callEnv fd s.heap.objs.size f).locals = s.heap.objs.size := rfl
    have hkind : (callEnv fd s.heap.objs.size f).scope.kind = .function := F.pl.kind
    have hcode : (callEnv fd s.heap.objs.size f).code = .ref c := F.code
    have hgl : (callEnv fd s.heap.objs.size f).globals = mainGlobals := F.pl.glob
    have hbu : (callEnv fd s.heap.objs.size f).builtins = builtinsNs := F.pl.bui
    have hself : (callEnv fd s.heap.objs.size f).kindOf sn = some .local := F.self
    have hsum : (callEnv fd s.heap.objs.size f).kindOf "sum" = some .globalImplicit := hks
    generalize callEnv fd s.heap.objs.size f = env at hloc hkind hcode hgl hbu hself hsum ⊢
    obtain ⟨bm, ob, M⟩ := W.bm
    have hn' : h₀.Ns env.locals (fun x => List.lookup x [(sn, Value.ref p.1)].reverse) := hloc ▸ hn
    have hls : List.lookup sn [(sn, Value.ref p.1)].reverse = some (.ref p.1) := by simp
    refine wpAny_execs_cons (wpAny_Return_some (call_glob hkind hsum (by decide) ((looks_builtin W.Tg W.Tb ms.1 ms.2 env hgl hbu).keeps gt0.1.base) rfl rfl ?_))
    refine wpAny_items_cons (gen_own (F := fun i v => ∃ t, v = .int (lenAt ys i) t) hh F.co (F.clos _) F.cell F.zero F.na F.nb F.ab F.kind hA gt0.1 W.ins W.lim hr hc hk hd hcode F.hd (hgl ▸ M) W.iter W.list (fun Q' h => wpAny_Name (wpAny_loadName_local hkind hself hn' hls h) F.dbs)
      (fun code Cc A' E' i y ta tb s₂ m₂ _ hyi hns ha hb hkp => ?_) fun a s₆ fp wr g St R => ?_) rfl
    · rw [lenAt_of hyi]
      have hyy := hy y (List.mem_of_getElem? hyi)
      exact lens_elt (env := genEnv scope [] Cc code builtinsNs env) F.kind hkl F.na F.nb F.dba F.dbb (fun t => (looks_builtin W.Tg W.Tb ml.1 ml.2 (genEnv scope [] Cc code builtinsNs env) hgl rfl).keeps hkp) hns ha hb hyy.1 hyy.2
    · have d6 := R.done s₆ (Moved.refl' _)
      have qne : env.locals ≠ q.1 := fun e => by
        have a := G.lies ⟨q, List.mem_of_getElem? hk, rfl⟩
        rw [← e, hloc, get_size] at a; cases a
      have hL6 : s₆.heap.Ns env.locals (fun x => List.lookup x [(sn, Value.ref p.1)].reverse) := Ns.keepAt hn' fun o e => d6.2.2 _ _ e qne
      refine wpAny_items_cons (any_attr rfl (wpAny_Name (wpAny_loadName_local hkind hself hL6 hls ?_) F.dbs)) rfl
      obtain ⟨us, at_, _⟩ := d6.1.cell _ _ _ hc hr
      refine size_at (W.ins.keeps d6.1.base) W.ga W.list W.dict W.size at_ fun t => ?_
      refine wpAny_items_nil ?_
      have W1 := R.walks.in4_1
      have st : St 0 { s₆ with toks := s₆.toks + 1 } := W1.frame 0 s₆ s₆.heap _ R.at_ (Nat.le_succ _) fun b _ o e => e
      refine sum_from (W1.self 0 _ _ _ st ⟨a, fp, wr, _, _, _, _, lenAt ys, rfl, W1, st, R.lies, fun i v h => h, fun s' t' hm => ?_⟩)
      have dd := R.done s' (Moved.of_toks (Nat.le_succ _) hm)
      exact ⟨⟨t', by rw [preSum_all]⟩, dd.1, gt0.2.trans dd.2.1⟩
  · rcases r with e | (v | _ | _ | _) <;> first | exact hr | exact hr.elim

/-- the text of the pairs -/
noncomputable def pairsText (ys : List (List Nat × List Nat)) : List Nat := (ys.map fun y => y.1 ++ y.2).flatten
noncomputable def textAt (ys : List (List Nat × List Nat)) (j : Nat) : List Nat := match ys[j]? with
  | some y => y.1 ++ y.2
  | none => []
theorem textAt_of {ys : List (List Nat × List Nat)} {j : Nat} {y : List Nat × List Nat} (h : ys[j]? = some y) : textAt ys j = y.1 ++ y.2 := by
  unfold textAt; rw [h]

theorem items_text {ys : List (List Nat × List Nat)} {lt : List (Str × Tok)} (h : ItemsOf (fun i v => ∃ t, v = Value.str ⟨(textAt ys i).toArray⟩ t) (strValues lt).toArray ys.length) :
    lt.map (·.1) = (ys.map fun y => y.1 ++ y.2).map fun l => ⟨l.toArray⟩ := by
  have hsz : lt.length = ys.length := by simpa [strValues] using h.1
  apply List.ext_getElem?
  intro j
  by_cases hj : j < ys.length
  · have hj' : j < lt.length := hsz ▸ hj
    obtain ⟨t, e⟩ := h.2 j (.str lt[j].1 lt[j].2) (by simp [strValues, List.getElem?_eq_getElem hj'])
    rw [textAt_of (List.getElem?_eq_getElem hj)] at e
    injection e with h1 _
    simp [List.getElem?_eq_getElem hj', List.getElem?_eq_getElem hj, h1]
  · rw [List.getElem?_eq_none (by simpa [hsz] using Nat.le_of_not_lt hj), List.getElem?_eq_none (by simpa using Nat.le_of_not_lt hj)]

theorem str_fn {q : Addr × Addr} {g : Str} {te : Tok} {p1 p2 p3 p4 p5 p6 q1 q2 q4 q5 pa pb pt psn pos : Pos} {kt ku : Nat} (W : GWld hB K C mg mb) (F : GFn hB f fd sn c q.1 scope xa xb)
    (hbody : fd.body = .stmts [.Return (some (.Call (.Attribute (.Name g q1) "join" q2) [.GeneratorExp (.Call (.Attribute (.Name g p1) "join" p2) [.Tuple [.Name xa p3, .Name xb p4] ku p5] [] p6) [⟨.Tuple [.Name xa pa, .Name xb pb] kt pt, .Name sn psn, [], 0⟩] scope pos] [] q4)) q5])
    (hl1 : (p2.endLine == p6.line) = true) (hl2 : (q2.endLine == q4.line) = true) (hg : (g == ("__debug__" : Str)) = false)
    (hks : fd.scope.names.lookup g = some .globalImplicit) (hkl : scope.names.lookup g = some .globalImplicit) (mgl : mg g = some (.str ⟨#[]⟩ te))
    {A : Around} {ρ : Rho} {σ : Sto} {s : Shared} {r k : Nat} {p : Addr × Addr} {size : Int} {ys : List (List Nat × List Nat)} (hh : A.handled = none) (hA : A.depth + 1 < recursionLimit) (G : StG hB os C ρ σ s) (hr : ρ[r]? = some p) (hc : σ[r]? = some (.acc size (ys.map pairAV)))
    (hk : ρ[k]? = some q) {b0 : Nat} (hd : σ[k]? = some (.code b0 pos.line pos.col)) (hy : ∀ y ∈ ys, y.1.length ≤ 1000000 ∧ y.2.length ≤ 1000000) (hty : (pairsText ys).length ≤ 1000000) (hys : ys.length ≤ 1000000) :
    wpAny (model prog w) A (call (.ref f) [.ref p.1]) (fun v s' => (∃ t, v = .str ⟨(pairsText ys).toArray⟩ t) ∧ StG hB os C ρ σ s' ∧ Step ρ s ρ s') Fls s := by
  refine wpAny_call (codeAny_mono (pl_enter (s := s) (R := fun r s' => match r with | .ok (.ret v) => (∃ t, v = .str ⟨(pairsText ys).toArray⟩ t) ∧ StG hB os C ρ σ s' ∧ Step ρ s ρ s' | _ => False) F.pl W.lim hbody G.base (Nat.lt_of_succ_lt hA) (.of_eq (F.bind _))
    (fun x hx => by cases List.mem_singleton.mp hx; exact F.self) fun h₀ hn hk' => ?_) fun r s' hr => ?_)
  · have g0 : Goes s { s with heap := h₀, toks := s.toks + 1 } := ⟨h₀, _, rfl, hk'⟩
    have gt0 := g0.step G
    have hloc : (callEnv fd s.heap.objs.size f).locals = s.heap.objs.size := rfl
    have hkind : (callEnv fd s.heap.objs.size f).scope.kind = .function := F.pl.kind
    have hcode : (callEnv fd s.heap.objs.size f).code = .ref c := F.code
    have hgl : (callEnv fd s.heap.objs.size f).globals = mainGlobals := F.pl.glob
    have hself : (callEnv fd s.heap.objs.size f).kindOf sn = some .local := F.self
    have hgk : (callEnv fd s.heap.objs.size f).kindOf g = some .globalImplicit := hks
    generalize callEnv fd s.heap.objs.size f = env at hloc hkind hcode hgl hself hgk ⊢
    obtain ⟨bm, ob, M⟩ := W.bm
    have hn' : h₀.Ns env.locals (fun x => List.lookup x [(sn, Value.ref p.1)].reverse) := hloc ▸ hn
    have hls : List.lookup sn [(sn, Value.ref p.1)].reverse = some (.ref p.1) := by simp
    refine wpAny_execs_cons (wpAny_Return_some ?_)
    rw [arm_eval_Call, base_plain rfl]
    refine wpAny_bind (Name_function_global hkind hgk (((looks_global W.Tg mgl env hgl).keeps gt0.1.base).here ?_) hg)
    refine wpAny_bind (wpAny_standAt ?_)
    have hform : ∀ e : PySem.Expr, starEach [e] env = [(false, eval e env)] → methodCallForm (1 + 0) (backTo q4 (starEach [e] env)) (backToKw q4 (keywordEach [] env)) = true := fun e he => by rw [he]; rfl
    have hpos : methodCallPos true (.Name g q1) env q2 q4 = pure q4 := by unfold methodCallPos; simp [hl2]
    show wpAny _ _ (methodCall _ _ _ _ _ _ (1 + 0) _ _) _ _ _
    unfold methodCall
    rw [hform _ rfl]
    refine wpAny_bind (wpAny_holding (GM.join ?_))
    refine wpAny_bind (wpAny_of_eq hpos ?_)
    refine callWith_of (P := fun _ => True) rfl (fun h hp => ⟨.machine, .inr (.inl rfl), .of_pure rfl⟩) (evalArgs_plain ?_)
    refine wpAny_items_cons (gen_own (A := A.deeper env) (F := fun i v => ∃ t, v = .str ⟨(textAt ys i).toArray⟩ t) hh F.co (F.clos _) F.cell F.zero F.na F.nb F.ab F.kind hA gt0.1 W.ins W.lim hr hc hk hd hcode F.hd (hgl ▸ M) W.iter W.list (fun Q' h => wpAny_Name (wpAny_loadName_local hkind hself hn' hls h) F.dbs)
      (fun code Cc A' E' i y ta tb s₂ m₂ _ hyi hns ha hb hkp => ?_) fun a s₆ fp wr g St R => ?_) rfl
    · rw [textAt_of hyi]
      have hyy := hy y (List.mem_of_getElem? hyi)
      exact join_elt (env := genEnv scope [] Cc code builtinsNs env) F.kind hkl hg F.na F.nb F.dba F.dbb hl1 ((looks_global W.Tg mgl (genEnv scope [] Cc code builtinsNs env) hgl).keeps hkp) hns ha hb hyy.1 hyy.2
    · refine wpAny_items_nil ⟨trivial, ?_⟩
      have W2 := R.walks.in4_2
      refine SC.joinGen W2 R.typ R.at_ R.lies R.mem (fun i v ⟨t, e⟩ => ⟨_, t, e⟩) (fun s' lt hm hacc => ?_) (by rw [sizeLine_eq']; omega)
      have dd := R.done s' hm
      rw [items_text hacc]
      exact ⟨joinOk_of (by
        have e1 : ((ys.map fun y => y.1 ++ y.2).map fun l => (⟨l.toArray⟩ : Str)).map (·.length) = (ys.map fun y => y.1 ++ y.2).map List.length := by
          rw [List.map_map]; exact List.map_congr_left fun l _ => by simp [Str.length]
        have e2 : ((ys.map fun y => y.1 ++ y.2).map List.length).sum = (pairsText ys).length := by rw [pairsText, List.length_flatten]
        show ((((ys.map fun y => y.1 ++ y.2).map fun l => (⟨l.toArray⟩ : Str)).map (·.length)).sum + _ * 0 ≤ 16777216)
        rw [e1, e2]; omega), fun t' k => ⟨⟨t', by rw [join_cat]; rfl⟩, dd.1.toks k, gt0.2.trans (dd.2.1.toks k)⟩⟩
  · rcases r with e | (v | _ | _ | _) <;> first | exact hr | exact hr.elim
end
end Mine
end

section
open PySem PySem.W PyProof.Rows PySem.Calls PySem.SeqAt
set_option maxRecDepth 100000
set_option linter.unusedSimpArgs false
namespace Mine

section
variable {prog : Program} {w : World} {hB : Heap} {os : OsState} {K : Frag} {C : Addr} {mg mb : Str → Option Value} {f : Addr} {A : Around} {E : Value → Shared → Prop} {s : Shared} {x : Addr} {ox : Obj} {od : Option Obj}

/-- len of an object whose class tells it -/
theorem len_own {Q : Value → Shared → Prop} (X : K.In s.heap) (I : InstAt s.heap x ox C od) (hs : findIn K (.ref C) "__len__" = some (some (.ref f))) (hf : typeIn K (.ref f) = some (.type "function"))
    (h : wpAny (model prog w) A.in1 (call (.ref f) [.ref x]) (fun v s' => ∃ n u, v = .int n u ∧ (0 ≤ n ∧ n < 2 ^ 63) ∧ Q (.int n s'.toks) { s' with toks := s'.toks + 1 }) E s) : wpAny (model prog w) A (call (.builtin "len") [.ref x]) Q E s := by
  have tell : wpAny (model prog w) A.in1 (callSpecial? (.ref x) (Str.ofString "__len__")) (fun o s' => ∃ n u, o = some (.int n u) ∧ (0 ≤ n ∧ n < 2 ^ 63) ∧ Q (.int n s'.toks) { s' with toks := s'.toks + 1 }) E s :=
    special_fn X I hs hf (wpAny_mono h (fun v s' ⟨n, u, e, r⟩ => ⟨n, u, by rw [e], r⟩) fun _ _ e => e)
  refine Calls.call_function_entry kind_len plain_len entry_len (args_len1 _) ?_
  unfold Builtin.«len»
  refine wpAny_bind (m := oneArg "len" _) (wpAny_pure (wpAny_bind (m := callSpecial? (.ref x) (Str.ofString "__len__")) (wpAny_mono tell (fun o s' ⟨n, u, e, hn, hq⟩ => ?_) fun _ _ e => e)))
  subst e
  refine wpAny_bind (wpAny_holding (wpAny_pure (wpAny_bind (wpAny_letGo ?_))))
  show wpAny _ _ (if n < 0 then _ else if n ≥ 2 ^ 63 then _ else _) _ _ _
  rw [if_neg (by omega), if_neg (by omega)]
  exact wpAny_bind (wpAny_mkInt (wpAny_pure ⟨_, rfl, hq⟩))

end

/-- pairs of texts -/
noncomputable def pairOfAV (v : AV) : Option (List Nat × List Nat) := bind1 (asTup v) fun vs => bind2 (two vs) fun a b => bind1 (asStr a) fun x => bind1 (asStr b) fun y => some (x, y)
theorem pairOfAV_inv {v : AV} {y : List Nat × List Nat} (e : pairOfAV v = some y) : v = pairAV y := by
  obtain ⟨vs, h1, e⟩ := bind1_inv e
  obtain ⟨a, b, h2, e⟩ := bind2_inv e
  obtain ⟨x, h3, e⟩ := bind1_inv e
  obtain ⟨z, h4, e⟩ := bind1_inv e
  cases e
  rw [asTup_inv h1, two_inv h2, asStr_inv h3, asStr_inv h4]
  rfl
noncomputable def pairsOf : List AV → Option (List (List Nat × List Nat))
  | [] => some []
  | v :: r => bind1 (pairOfAV v) fun y => bind1 (pairsOf r) fun ys => some (y :: ys)
theorem pairsOf_map : ∀ ys : List (List Nat × List Nat), pairsOf (ys.map pairAV) = some ys
  | [] => rfl
  | y :: ys => by
    show (bind1 (pairOfAV (pairAV y)) fun y => bind1 (pairsOf (ys.map pairAV)) fun ys => some (y :: ys)) = _
    rw [pairsOf_map ys]; rfl
theorem pairsOf_inv : ∀ {xs : List AV} {ys : List (List Nat × List Nat)}, pairsOf xs = some ys → xs = ys.map pairAV := by
  intro xs
  induction xs with
  | nil => intro ys e; cases e; rfl
  | cons v r ih =>
    intro ys e
    obtain ⟨y, h1, e⟩ := bind1_inv (show (bind1 (pairOfAV v) fun y => bind1 (pairsOf r) fun ys => some (y :: ys)) = some ys from e)
    obtain ⟨zs, h2, e⟩ := bind1_inv e
    cases e
    rw [pairOfAV_inv h1, ih h2]; rfl
noncomputable abbrev fitPairs (ys : List (List Nat × List Nat)) : Prop := (∀ y ∈ ys, y.1.length ≤ 1000000 ∧ y.2.length ≤ 1000000) ∧ (pairsText ys).length ≤ 1000000 ∧ ys.length ≤ 1000000
theorem pairsText_len (ys : List (List Nat × List Nat)) : (pairsText ys).length = pairsLen ys := by
  rw [pairsText, pairsLen, List.length_flatten, List.map_map]
  congr 1
  exact List.map_congr_left fun y _ => by simp
noncomputable def accOf (σ : Sto) (r : Nat) : Option (Int × List AV) := match σ[r]? with
  | some (.acc n xs) => some (n, xs)
  | _ => none
theorem accOf_inv {σ : Sto} {r : Nat} {n : Int} {xs : List AV} (h : accOf σ r = some (n, xs)) : σ[r]? = some (.acc n xs) := by
  unfold accOf at h
  cases h1 : σ[r]? with
  | none => rw [h1] at h; exact nn h
  | some c =>
    rw [h1] at h
    cases c with
    | acc m ys => cases h; rfl
    | _ => exact nn h
noncomputable def codeOf (σ : Sto) (k : Nat) : Option (Nat × Nat × Nat) := match σ[k]? with
  | some (.code b l c) => some (b, l, c)
  | _ => none
theorem codeOf_inv {σ : Sto} {k b l c : Nat} (h : codeOf σ k = some (b, l, c)) : σ[k]? = some (.code b l c) := by
  unfold codeOf at h
  cases h1 : σ[k]? with
  | none => rw [h1] at h; exact nn h
  | some x =>
    rw [h1] at h
    cases x with
    | code b' l' c' => cases h; rfl
    | _ => exact nn h
noncomputable def pLen (k b l c : Nat) (vs : List AV) (σ : Sto) : Option (AV × Sto) := bind1 (one vs) fun v => bind1 (asRef v) fun r => bind2 (accOf σ r) fun n xs => bind1 (pairsOf xs) fun ys =>
  if codeOf σ k = some (b, l, c) ∧ fitPairs ys ∧ 0 ≤ n ∧ n ≤ 1000000 then some (.int (n + (pairsLen ys : Nat)), σ) else none
noncomputable def pStr (k b l c : Nat) (vs : List AV) (σ : Sto) : Option (AV × Sto) := bind1 (one vs) fun v => bind1 (asRef v) fun r => bind2 (accOf σ r) fun _ xs => bind1 (pairsOf xs) fun ys =>
  if codeOf σ k = some (b, l, c) ∧ fitPairs ys then some (.str (pairsText ys), σ) else none

/-- how the accumulator's class tells its length -/
inductive LenDef (hB : Heap) (K : Frag) (C : Addr) (mg mb : Str → Option Value) (f b l c0 : Nat) : Prop
  | mk {fd : FuncData} {sn xa xb : Str} {c : Addr} {scope : Scope} {p1 p2 p3 p4 p5 p6 p7 q1 q2 q3 q4 q5 pa pb pt psn pos : Pos} {kt : Nat} : GFn hB f fd sn c b scope xa xb →
    fd.body = .stmts [.Return (some (.Call (.Name "sum" q1) [.GeneratorExp (.BinOp (.Call (.Name "len" p1) [.Name xa p2] [] p3) .Add (.Call (.Name "len" p4) [.Name xb p5] [] p6) p7) [⟨.Tuple [.Name xa pa, .Name xb pb] kt pt, .Name sn psn, [], 0⟩] scope pos, .Attribute (.Name sn q2) "_initial_size" q3] [] q4)) q5] →
    fd.scope.names.lookup ("sum" : Str) = some .globalImplicit → scope.names.lookup ("len" : Str) = some .globalImplicit → (mg "sum" = none ∧ mb "sum" = some (.builtin "sum")) → (mg "len" = none ∧ mb "len" = some (.builtin "len")) →
    findIn K (.ref C) "__len__" = some (some (.ref f)) → typeIn K (.ref f) = some (.type "function") → pos.line = l → pos.col = c0 → LenDef hB K C mg mb f b l c0
/-- and its text -/
inductive StrDef (hB : Heap) (K : Frag) (C : Addr) (mg : Str → Option Value) (f b l c0 : Nat) : Prop
  | mk {fd : FuncData} {sn xa xb g : Str} {te : Tok} {c : Addr} {scope : Scope} {p1 p2 p3 p4 p5 p6 q1 q2 q4 q5 pa pb pt psn pos : Pos} {kt ku : Nat} : GFn hB f fd sn c b scope xa xb →
    fd.body = .stmts [.Return (some (.Call (.Attribute (.Name g q1) "join" q2) [.GeneratorExp (.Call (.Attribute (.Name g p1) "join" p2) [.Tuple [.Name xa p3, .Name xb p4] ku p5] [] p6) [⟨.Tuple [.Name xa pa, .Name xb pb] kt pt, .Name sn psn, [], 0⟩] scope pos] [] q4)) q5] →
    (p2.endLine == p6.line) = true → (q2.endLine == q4.line) = true → (g == ("__debug__" : Str)) = false → fd.scope.names.lookup g = some .globalImplicit → scope.names.lookup g = some .globalImplicit → mg g = some (.str ⟨#[]⟩ te) →
    findIn K (.ref C) "__str__" = some (some (.ref f)) → isFn K (.ref f) = true → pos.line = l → pos.col = c0 → StrDef hB K C mg f b l c0

section
variable {prog : Program} {w : World} {hB : Heap} {os : OsState} {K : Frag} {C : Addr} {mg mb : Str → Option Value} {f b l c0 d : Nat} {A : Around} {ρ : Rho} {σ σ' : Sto} {s : Shared} {vs : List AV} {vals : List Value} {v : AV} {k : Nat}

theorem len_prim (W : GWld hB K C mg mb) (D : LenDef hB K C mg mb f b l c0) (hA : AOk d A) (G : StG hB os C ρ σ s) (R : RelVs hB ρ s.heap vs vals) (e : pLen k b l c0 vs σ = some (v, σ')) : wpAny (model prog w) A (call (.builtin "len") vals) (PostV hB os C ρ s v σ') Fls s := by
  obtain ⟨v', h1, e⟩ := bind1_inv e
  obtain ⟨r, h2, e⟩ := bind1_inv e
  obtain ⟨n, xs, h3, e⟩ := bind2_inv e
  obtain ⟨ys, h4, e⟩ := bind1_inv e
  obtain ⟨⟨h5, h6, h7, h8⟩, e⟩ := guard_inv e
  obtain ⟨rfl, rfl⟩ := Prod.mk.inj (Option.some.inj e)
  rw [one_inv h1, asRef_inv h2] at R
  obtain ⟨x, r1, rfl⟩ := R.oneE
  obtain ⟨p, hp, rfl⟩ := r1.refE
  have hc := accOf_inv h3
  rw [pairsOf_inv h4] at hc
  have hd := codeOf_inv h5
  obtain ⟨q, hq, cq⟩ := G.at hd
  obtain ⟨us, at_, _⟩ := G.cell _ _ _ hc hp
  obtain ⟨n1, od1, I1, _, _⟩ := at_.inst
  obtain ⟨F, hbody, hks, hkl, ms, ml, hs, hf, rfl, rfl⟩ := D
  have hq1 : q.1 = b := cq.1
  subst hq1
  have hdep := hA.depth
  have hl := pairsText_len ys
  have h6l := h6.2.1
  refine len_own (W.ins.keeps G.base) I1 hs hf (wpAny_mono (len_fn W F hbody hks hkl ms ml (show A.in1.handled = none from hA.handled) (show A.in1.depth + 1 < 1000 by show A.depth + 1 < 1000; omega) G hp hc hq hd h6.1) (fun v s' h => ?_) fun _ _ e => e)
  obtain ⟨⟨t, rfl⟩, G', T'⟩ := h
  exact ⟨_, t, rfl, ⟨by omega, by omega⟩, ρ, T'.toks _, G'.toks _, .int _ _⟩

theorem str_prim (W : GWld hB K C mg mb) (D : StrDef hB K C mg f b l c0) (hA : AOk d A) (G : StG hB os C ρ σ s) (R : RelVs hB ρ s.heap vs vals) (e : pStr k b l c0 vs σ = some (v, σ')) : wpAny (model prog w) A (call (.type "str") vals) (PostV hB os C ρ s v σ') Fls s := by
  obtain ⟨v', h1, e⟩ := bind1_inv e
  obtain ⟨r, h2, e⟩ := bind1_inv e
  obtain ⟨n, xs, h3, e⟩ := bind2_inv e
  obtain ⟨ys, h4, e⟩ := bind1_inv e
  obtain ⟨⟨h5, h6⟩, e⟩ := guard_inv e
  obtain ⟨rfl, rfl⟩ := Prod.mk.inj (Option.some.inj e)
  rw [one_inv h1, asRef_inv h2] at R
  obtain ⟨x, r1, rfl⟩ := R.oneE
  obtain ⟨p, hp, rfl⟩ := r1.refE
  have hc := accOf_inv h3
  rw [pairsOf_inv h4] at hc
  have hd := codeOf_inv h5
  obtain ⟨q, hq, cq⟩ := G.at hd
  obtain ⟨us, at_, _⟩ := G.cell _ _ _ hc hp
  obtain ⟨n1, od1, I1, _, _⟩ := at_.inst
  obtain ⟨F, hbody, hl1, hl2, hg, hks, hkl, mgl, hs, hf, rfl, rfl⟩ := D
  have hq1 : q.1 = b := cq.1
  subst hq1
  have hdep := hA.depth
  have hlin := hA.line
  refine kso_call (by show A.in1.in1.units < cLine; simp only; omega) (W.ins.keeps G.base) I1 hs hf (wpAny_mono (str_fn W F hbody hl1 hl2 hg hks hkl mgl (show A.in1.in1.handled = none from hA.handled) (show A.in1.in1.depth + 1 < 1000 by show A.depth + 1 < 1000; omega) G hp hc hq hd h6.1 h6.2.1 h6.2.2) (fun v s' h => ?_) fun _ _ e => e)
  obtain ⟨⟨t, rfl⟩, G', T'⟩ := h
  exact ⟨ρ, T', G', .str _ t⟩
end
end Mine
end

section
open PySem PySem.W PyProof.Rows PySem.Calls PySem.SeqAt PySem.Builtin PySem.Builtin.Str
set_option maxRecDepth 100000
set_option linter.unusedSimpArgs false
namespace Mine

/-- the one sign of a text -/
noncomputable def one1 (l : List Nat) : Option Nat := match l with
  | [c] => some c
  | _ => none
theorem one1_inv {l : List Nat} {c : Nat} (h : one1 l = some c) : l = [c] := by
  cases l with
  | nil => exact nn h
  | cons x r =>
    cases r with
    | nil => cases h; rfl
    | cons y q => exact nn h
/-- a text cut at a sign -/
noncomputable def cutL (c : Nat) : List Nat → List (List Nat)
  | [] => [[]]
  | x :: r => if x = c then [] :: cutL c r else match cutL c r with
    | [] => [[x]]
    | p :: ps => (x :: p) :: ps
theorem cutL_app (c : Nat) : ∀ (p l : List Nat), c ∉ p → cutL c (p ++ c :: l) = p :: cutL c l
  | [], l, _ => if_pos rfl
  | x :: p, l, h => by
    have hx : x ≠ c := fun e => h (e ▸ List.mem_cons_self)
    show (if x = c then [] :: cutL c (p ++ c :: l) else match cutL c (p ++ c :: l) with | [] => [[x]] | p :: ps => (x :: p) :: ps) = _
    rw [if_neg hx, cutL_app c p l fun m => h (List.mem_cons_of_mem _ m)]
theorem cutL_one (c : Nat) : ∀ (p : List Nat), c ∉ p → cutL c p = [p]
  | [], _ => rfl
  | x :: p, h => by
    have hx : x ≠ c := fun e => h (e ▸ List.mem_cons_self)
    show (if x = c then [] :: cutL c p else match cutL c p with | [] => [[x]] | p :: ps => (x :: p) :: ps) = _
    rw [if_neg hx, cutL_one c p fun m => h (List.mem_cons_of_mem _ m)]
/-- the parts of a text are told by what they join to -/
theorem cutL_join (c : Nat) : ∀ (ps : List (List Nat)), ps ≠ [] → (∀ p ∈ ps, c ∉ p) → cutL c (joinL [c] ps) = ps
  | [], h, _ => absurd rfl h
  | [p], _, h => cutL_one c p (h p List.mem_cons_self)
  | p :: q :: r, _, h => by
    show cutL c (p ++ [c] ++ joinL [c] (q :: r)) = _
    rw [List.append_assoc, List.singleton_append, cutL_app c p _ (h p List.mem_cons_self), cutL_join c (q :: r) (List.cons_ne_nil _ _) fun x hx => h x (List.mem_cons_of_mem _ hx)]

theorem split_is (l : List Nat) (c : Nat) : (Txt.split ⟨l.toArray⟩ ⟨#[c]⟩).map (fun p => p.cps.toList) = cutL c l := by
  have e0 : Txt.split (⟨l.toArray⟩ : Str) ⟨#[c]⟩ = ((Txt.split (⟨l.toArray⟩ : Str) ⟨#[c]⟩).map fun p => p.cps.toList).map fun l => (⟨l.toArray⟩ : Str) := by
    rw [List.map_map]
    exact (List.map_id'' (fun p => rfl) _).symm
  have h1 : joinL [c] ((Txt.split (⟨l.toArray⟩ : Str) ⟨#[c]⟩).map fun p => p.cps.toList) = l := by
    rw [← join_list' [c], ← e0]
    have := congrArg (fun z : Str => z.cps.toList) (StrLaws.join_split (⟨l.toArray⟩ : Str) ⟨#[c]⟩)
    exact this
  refine (congrArg (cutL c) h1).symm.trans (cutL_join c _ (fun e => ?_) fun p hp => ?_) |>.symm
  · have := split_pos (⟨l.toArray⟩ : Str) ⟨#[c]⟩
    rw [List.map_eq_nil_iff.mp e] at this
    exact absurd this (by decide)
  · obtain ⟨z, hz, rfl⟩ := List.mem_map.mp hp
    exact StrLaws.split_free _ c z hz

section
variable {prog : Program} {w : World} {hB : Heap} {os : OsState} {C : Addr} {A : Around} {ρ : Rho} {σ σ' : Sto} {s : Shared} {vs : List AV} {vals : List Value} {v : AV}

noncomputable def pSplit (vs : List AV) (σ : Sto) : Option (AV × Sto) := bind2 (two vs) fun a b => bind1 (asStr a) fun x => bind1 (asStr b) fun y => bind1 (one1 y) fun c =>
  if x.length ≤ 1000000 then some (.ref σ.length, σ ++ [.list ((cutL c x).map .str)]) else none
theorem strs_rel {ρ : Rho} {h : Heap} : ∀ {l : List (Str × Tok)}, RelVs hB ρ h ((l.map fun p => p.1.cps.toList).map .str) (strValues l)
  | [] => .nil
  | p :: l => .cons (.str p.1.cps.toList p.2) strs_rel
theorem split_prim (G : StG hB os C ρ σ s) (R : RelVs hB ρ s.heap vs vals) (e : pSplit vs σ = some (v, σ')) : wpAny (model prog w) A (call (.builtin "str.split") vals) (PostV hB os C ρ s v σ') Fls s := by
  obtain ⟨a, b, h1, e⟩ := bind2_inv e
  obtain ⟨x, h2, e⟩ := bind1_inv e
  obtain ⟨y, h3, e⟩ := bind1_inv e
  obtain ⟨c, h4, e⟩ := bind1_inv e
  obtain ⟨h5, e⟩ := guard_inv e
  obtain ⟨rfl, rfl⟩ := Prod.mk.inj (Option.some.inj e)
  rw [two_inv h1, asStr_inv h2, asStr_inv h3, one1_inv h4] at R
  obtain ⟨u1, u2, r1, r2, rfl⟩ := R.twoE
  obtain ⟨t, rfl⟩ := r1.strE
  obtain ⟨u, rfl⟩ := r2.strE
  have fin : ∀ (l : List (Str × Tok)) (tk : Nat), l.map (·.1) = Txt.split ⟨x.toArray⟩ ⟨#[c]⟩ → PostV hB os C ρ s (.ref σ.length) (σ ++ [.list ((cutL c x).map .str)]) (.ref s.heap.objs.size) { s with heap := s.heap.push { cls := .type "list", data := .seq (strValues l).toArray }, toks := tk } := fun l tk h => by
    have e1 : cutL c x = l.map fun p => p.1.cps.toList := by rw [← split_is, ← h, List.map_map]; rfl
    rw [e1]
    exact .list G strs_rel tk
  have hx : (⟨x.toArray⟩ : Str).length ≤ sizeLine := by rw [sizeLine_eq']; show x.toArray.size ≤ _; rw [List.size_toArray]; omega
  have hn := split_le (⟨x.toArray⟩ : Str) ⟨#[c]⟩
  have hy : ((⟨#[c]⟩ : Str).length == 0) = false := rfl
  cases q1 : (decide ((⟨x.toArray⟩ : Str).length < (⟨#[c]⟩ : Str).length) || decide (strKind (⟨x.toArray⟩ : Str) < strKind (⟨#[c]⟩ : Str))) with
  | true => exact call_meets PySem.F.slot_str_split (typeIs_str _ _ _) PySem.F.entry_str_split (PySem.F.args_str_split_2 _ _) (meets_str_split_cannot_occur _ _ t u q1) (fin [(_, t)] s.toks (if_pos q1).symm)
  | false =>
    cases q2 : (occurrences (⟨x.toArray⟩ : Str) ⟨#[c]⟩ 0 (⟨x.toArray⟩ : Str).length ((⟨x.toArray⟩ : Str).length + 1)).isEmpty with
    | true => exact call_meets PySem.F.slot_str_split (typeIs_str _ _ _) PySem.F.entry_str_split (PySem.F.args_str_split_2 _ _) (meets_str_split_not_found _ _ t u q1 hy q2) (fin [(_, t)] s.toks ((if_neg (ne_true_of_eq_false q1)).trans (if_pos q2)).symm)
    | false =>
      have e1 : Txt.split (⟨x.toArray⟩ : Str) ⟨#[c]⟩ = partsBetween (⟨x.toArray⟩ : Str) (occurrences (⟨x.toArray⟩ : Str) ⟨#[c]⟩ 0 (⟨x.toArray⟩ : Str).length ((⟨x.toArray⟩ : Str).length + 1)) (⟨#[c]⟩ : Str).length := (if_neg (ne_true_of_eq_false q1)).trans (if_neg (ne_true_of_eq_false q2))
      have hn2 : (partsBetween (⟨x.toArray⟩ : Str) (occurrences (⟨x.toArray⟩ : Str) ⟨#[c]⟩ 0 (⟨x.toArray⟩ : Str).length ((⟨x.toArray⟩ : Str).length + 1)) (⟨#[c]⟩ : Str).length).length ≤ sizeLine := by
        rw [← e1]; refine Nat.le_trans hn ?_; rw [sizeLine_eq']; show x.toArray.size + 2 ≤ _; rw [List.size_toArray]; omega
      refine call_meets PySem.F.slot_str_split (typeIs_str _ _ _) PySem.F.entry_str_split (PySem.F.args_str_split_2 _ _) (meets_str_split_sep _ _ t u q1 hy q2 hx hn2) ?_
      show wants _ _ _ { s with toks := _, heap := s.heap.push { cls := .type "list", data := .seq (strsFrom s.toks (partsBetween (⟨x.toArray⟩ : Str) _ _)).toArray } }
      rw [strsFrom_eq]
      exact fin (numbered s.toks _) _ ((numbered_texts _ _).trans e1.symm)
end
end Mine
end

section
open PySem PySem.W PyProof.Rows
set_option maxRecDepth 100000
set_option linter.unusedSimpArgs false
namespace Mine

/-! words and the order of their ends -/
theorem ltL_cons_self (c : Nat) (x y : List Nat) : ltL (c :: x) (c :: y) = ltL x y := by simp [ltL_c]
theorem ltL_app_self (u x y : List Nat) : ltL (u ++ x) (u ++ y) = ltL x y := by
  induction u with
  | nil => rfl
  | cons c u ih => rw [List.cons_append, List.cons_append, ltL_cons_self, ih]
theorem ltL_nil_right (x : List Nat) : ltL x [] = false := by cases x <;> rfl
theorem ltL_asymm {x y : List Nat} (h : ltL x y = true) : ltL y x = false := by
  cases h2 : ltL y x with
  | false => rfl
  | true =>
    have := ltL_trans h h2
    rw [ltL_irr] at this
    exact this.symm
theorem ltL_prefix {x z : List Nat} (h : z ≠ []) : ltL x (x ++ z) = true := by
  have := ltL_app_self x [] z
  rw [List.append_nil] at this
  rw [this]
  cases z with
  | nil => exact absurd rfl h
  | cons c z => rfl
theorem ltL_prefix' (x z : List Nat) : ltL (x ++ z) x = false := by
  have := ltL_app_self x z []
  rw [List.append_nil] at this
  rw [this]
  exact ltL_nil_right z

/-- a word between two that begin alike begins so too -/
theorem ltL_between : ∀ {y a d b : List Nat}, ltL (y ++ a) d = true → ltL d (y ++ b) = true → ∃ c, d = y ++ c
  | [], _, d, _, _, _ => ⟨d, rfl⟩
  | c :: y, a, [], b, h, _ => by rw [ltL_nil_right] at h; cases h
  | c :: y, a, e :: d, b, h1, h2 => by
    simp only [List.cons_append, ltL_c] at h1 h2
    have hce : c = e := by
      by_cases q1 : c < e
      · exact absurd h2 (by rw [if_neg (by omega), if_neg (by omega)]; decide)
      · rw [if_neg q1] at h1
        by_cases q2 : c = e
        · exact q2
        · rw [if_neg q2] at h1; cases h1
    subst hce
    simp only [Nat.lt_irrefl, if_false, if_true] at h1 h2
    obtain ⟨r, hr⟩ := ltL_between h1 h2
    exact ⟨r, by rw [hr]; rfl⟩

/-- words of which neither begins with the other are told by their own signs -/
theorem ltL_apart : ∀ {x y : List Nat} (a b : List Nat), ¬ x <+: y → ¬ y <+: x → ltL (x ++ a) (y ++ b) = ltL x y
  | [], y, _, _, h, _ => absurd (List.nil_prefix) h
  | c :: x, [], _, _, _, h => absurd (List.nil_prefix) h
  | c :: x, e :: y, a, b, h1, h2 => by
    simp only [List.cons_append, ltL_c]
    by_cases q : c = e
    · subst q
      rw [if_neg (Nat.lt_irrefl c), if_pos rfl, if_neg (Nat.lt_irrefl c), if_pos rfl]
      exact ltL_apart a b (fun h => h1 (by simpa using h)) (fun h => h2 (by simpa using h))
    · by_cases q2 : c < e
      · rw [if_pos q2, if_pos q2]
      · rw [if_neg q2, if_neg q2, if_neg q, if_neg q]

/-- p signs of v make a piece that is less than all its ends, and what follows is less than v -/
noncomputable def lowTo (v : List Nat) (p : Nat) : Prop := ∀ q, 0 < q → q < p → ltL v (v.drop q) = true
structure NssL (v : List Nat) (p : Nat) : Prop where
  pos : 0 < p
  le : p ≤ v.length
  low : lowTo v p
  nxt : ltL (v.drop p) v = true

theorem drop_app (u v : List Nat) (k : Nat) : (u ++ v).drop (u.length + k) = v.drop k := by
  rw [List.drop_append]
  simp
theorem drop_at (u v : List Nat) : (u ++ v).drop u.length = v := by
  have := drop_app u v 0
  simpa using this

theorem NssL.uniq {v : List Nat} {p q : Nat} (h : NssL v p) (k : NssL v q) : p = q := by
  rcases Nat.lt_trichotomy p q with l | l | l
  · have := k.low p h.pos l
    rw [ltL_asymm h.nxt] at this; cases this
  · exact l
  · have := h.low q k.pos l
    rw [ltL_asymm k.nxt] at this; cases this

/-- the two next pieces are told by their words as their ends are -/
theorem merge_claim {v y r r2 : List Nat} {a : Nat} (hr : v.drop a = r) (e : r = y ++ r2) (hy : y ≠ []) (H1 : lowTo v a) (H2 : lowTo r y.length) (H3 : ltL r2 r = true) : ∀ n k, a - k = n → k < a → (∃ d, v.drop k = y ++ d) → (∃ d, v = y ++ d) → ltL (v.drop k) r = true → False := by
  intro n
  induction n using Nat.strongRecOn with
  | _ n ih =>
    intro k hn hk ⟨d, hd⟩ ⟨d0, hd0⟩ hlt
    have hyl : 0 < y.length := List.length_pos_iff.mpr hy
    have hd' : v.drop (k + y.length) = d := by rw [← List.drop_drop, hd, drop_at]
    have l1 : ltL d r2 = true := by
      rw [hd, e, ltL_app_self] at hlt; exact hlt
    have l2 := ltL_trans l1 H3
    rcases Nat.lt_trichotomy (k + y.length) a with l | l | l
    · have l3 := H1 (k + y.length) (by omega) l
      rw [hd'] at l3
      obtain ⟨c, hc⟩ := ltL_between (y := y) (a := d0) (d := d) (b := r2) (by rw [← hd0]; exact l3) (by rw [← e]; exact l2)
      exact ih (a - (k + y.length)) (by omega) (k + y.length) rfl l ⟨c, by rw [hd', hc]⟩ ⟨d0, hd0⟩ (by rw [hd']; exact l2)
    · have : d = r := by rw [← hd', l, hr]
      rw [this] at l2
      rw [ltL_irr] at l2; cases l2
    · have hdr : d = r.drop (k + y.length - a) := by
        rw [← hr, List.drop_drop, show a + (k + y.length - a) = k + y.length by omega, hd']
      have := H2 (k + y.length - a) (by omega) (by omega)
      rw [← hdr] at this
      rw [ltL_asymm l2] at this; cases this

theorem merge_tell {x y r2 : List Nat} (hx : x ≠ []) (hy : y ≠ []) (H1 : lowTo (x ++ (y ++ r2)) x.length) (H2 : lowTo (y ++ r2) y.length) (H3 : ltL r2 (y ++ r2) = true) :
    ltL x y = ltL (x ++ (y ++ r2)) (y ++ r2) := by
  by_cases p1 : x <+: y
  · obtain ⟨z, hz⟩ := p1
    subst hz
    cases z with
    | nil =>
      rw [List.append_nil] at H3 ⊢
      rw [ltL_irr, ltL_app_self, ltL_asymm H3]
    | cons c z =>
      rw [ltL_prefix (by simp)]
      rw [List.append_assoc x (c :: z) r2, ltL_app_self]
      have h := H2 x.length (List.length_pos_iff.mpr hx) (by simp)
      rw [List.append_assoc, drop_at] at h
      exact h.symm
  · by_cases p2 : y <+: x
    · obtain ⟨z, hz⟩ := p2
      subst hz
      rw [ltL_prefix']
      cases hv : ltL ((y ++ z) ++ (y ++ r2)) (y ++ r2) with
      | false => rfl
      | true =>
        exact (merge_claim (v := (y ++ z) ++ (y ++ r2)) (y := y) (r := y ++ r2) (r2 := r2) (a := (y ++ z).length) (drop_at _ _) rfl hy H1 H2 H3 _ 0 rfl (List.length_pos_iff.mpr hx) ⟨z ++ (y ++ r2), by simp⟩ ⟨z ++ (y ++ r2), by simp⟩ hv).elim
    · exact (ltL_apart _ _ p1 p2).symm

theorem lowTo_join {x y r : List Nat} (H1 : lowTo (x ++ (y ++ r)) x.length) (H2 : lowTo (y ++ r) y.length) (h : ltL (x ++ (y ++ r)) (y ++ r) = true) : lowTo (x ++ (y ++ r)) (x ++ y).length := by
  intro q h0 hq
  rcases Nat.lt_trichotomy q x.length with l | l | l
  · exact H1 q h0 l
  · rw [l, drop_at]; exact h
  · have e : q = x.length + (q - x.length) := by omega
    rw [e, drop_app]
    exact ltL_trans h (H2 (q - x.length) (by omega) (by simp at hq; omega))

/-- the pieces of v: their words, from v's first sign on -/
inductive Chain : List Nat → List (List Nat) → Prop
  | nil : Chain [] []
  | cons {x v : List Nat} {r : List (List Nat)} (hx : x ≠ []) (low : lowTo (x ++ v) x.length) (nxt : ltL v (x ++ v) = true) (t : Chain v r) : Chain (x ++ v) (x :: r)

theorem ltL_of_not {x y : List Nat} (h : ltL x y = false) (hl : x.length ≠ y.length) : ltL y x = true := by
  cases h2 : ltL y x with
  | true => rfl
  | false => exact absurd (congrArg List.length (ltL_tri h h2)) hl
/-- a piece that is not less than the next one -/
theorem Chain.push {x v : List Nat} {l : List (List Nat)} (hx : x ≠ []) (H1 : lowTo (x ++ v) x.length) (h : Chain v l) (hl : ∀ y r, l = y :: r → ltL x y = false) : Chain (x ++ v) (x :: l) := by
  refine .cons hx H1 ?_ h
  cases h with
  | nil =>
    cases x with
    | nil => exact absurd rfl hx
    | cons c x => rfl
  | cons hy low nxt t =>
    rename_i y v' r
    have := merge_tell hx hy H1 low nxt
    rw [hl _ _ rfl] at this
    exact ltL_of_not this.symm (by have := List.length_pos_iff.mpr hx; simp; omega)
end Mine
end

section
open PySem PySem.W PyProof.Rows
set_option maxRecDepth 100000
set_option linter.unusedSimpArgs false
namespace Mine

/-! law 1's mathematics: pieces, their drawings, and how they go together -/
noncomputable def segP (w : List Nat) (a b : Nat) : List Nat := (w.drop a).take (b - a)
/-- the place behind c, of j places from k on, whose end comes first -/
noncomputable def cutP (w : List Nat) : Nat → Nat → Nat → Nat
  | 0, _, c => c
  | j + 1, k, c => cutP w j (k + 1) (if ltL (w.drop k) (w.drop c) = true then k else c)
theorem cutP_s {w : List Nat} {j k c : Nat} : cutP w (j + 1) k c = cutP w j (k + 1) (if ltL (w.drop k) (w.drop c) = true then k else c) := rfl
noncomputable def cutOf (w : List Nat) (b e : Nat) : Nat := cutP w (e - (b + 2)) (b + 2) (b + 1)
theorem cutP_bd (w : List Nat) : ∀ (j k c : Nat), c < k → c ≤ cutP w j k c ∧ cutP w j k c < k + j
  | 0, k, c, h => ⟨Nat.le_refl _, h⟩
  | j + 1, k, c, h => by
    rw [cutP_s]
    by_cases q : ltL (w.drop k) (w.drop c) = true
    · rw [if_pos q]
      have := cutP_bd w j (k + 1) k (Nat.lt_succ_self _)
      omega
    · rw [if_neg q]
      have := cutP_bd w j (k + 1) c (by omega)
      omega
theorem cut_bd (w : List Nat) {b e : Nat} (h : b + 2 ≤ e) : b < cutOf w b e ∧ cutOf w b e < e := by
  have := cutP_bd w (e - (b + 2)) (b + 2) (b + 1) (by omega)
  unfold cutOf
  omega
theorem cutP_min {w : List Nat} {b e m : Nat} (hm : ∀ q, b < q → q < e → q ≠ m → ltL (w.drop m) (w.drop q) = true) : ∀ (j k c : Nat), k + j = e → b < c → c < k → m < e → (c = m ∨ k ≤ m) → cutP w j k c = m
  | 0, k, c, h1, _, _, h3, h4 => by
    rcases h4 with h | h
    · exact h
    · omega
  | j + 1, k, c, h1, h0, h2, h3, h4 => by
    rw [cutP_s]
    by_cases q : k = m
    · subst q
      have hc : c ≠ k := by omega
      rw [if_pos (hm c h0 (by omega) hc)]
      exact cutP_min hm j (k + 1) k (by omega) (by omega) (by omega) h3 (.inl rfl)
    · rcases h4 with h | h
      · subst h
        rw [if_neg (by rw [ltL_asymm (hm k (by omega) (by omega) q)]; exact Bool.false_ne_true)]
        exact cutP_min hm j (k + 1) c (by omega) h0 (by omega) h3 (.inl rfl)
      · by_cases q2 : ltL (w.drop k) (w.drop c) = true
        · rw [if_pos q2]
          exact cutP_min hm j (k + 1) k (by omega) (by omega) (by omega) h3 (.inr (by omega))
        · rw [if_neg q2]
          exact cutP_min hm j (k + 1) c (by omega) h0 (by omega) h3 (.inr (by omega))
theorem cut_min {w : List Nat} {b e m : Nat} (h1 : b < m) (h2 : m < e) (hm : ∀ q, b < q → q < e → q ≠ m → ltL (w.drop m) (w.drop q) = true) : cutOf w b e = m :=
  cutP_min hm (e - (b + 2)) (b + 2) (b + 1) (by omega) (by omega) (by omega) h2 (by omega)

noncomputable def rowP (w : List Nat) (b e n : Nat) : List Nat := List.replicate n 32 ++ (segP w b e ++ [10])
/-- the drawing of w[b:e], n signs in, a step wd wide -/
noncomputable def drawP (w : List Nat) (wd : Nat) : Nat → Nat → Nat → Nat → List Nat
  | 0, _, _, _ => []
  | f + 1, b, e, n => if e - b = 1 then rowP w b e n else rowP w b e n ++ (drawP w wd f b (cutOf w b e) (n + wd) ++ (10 :: drawP w wd f (cutOf w b e) e (n + wd)))
theorem drawP_s {w : List Nat} {wd f b e n : Nat} : drawP w wd (f + 1) b e n = if e - b = 1 then rowP w b e n else rowP w b e n ++ (drawP w wd f b (cutOf w b e) (n + wd) ++ (10 :: drawP w wd f (cutOf w b e) e (n + wd))) := rfl
theorem draw_fuel (w : List Nat) (wd : Nat) : ∀ (f g b e n : Nat), b < e → e - b ≤ f → e - b ≤ g → drawP w wd f b e n = drawP w wd g b e n
  | 0, _, b, e, n, h, h1, _ => by omega
  | f + 1, 0, b, e, n, h, _, h2 => by omega
  | f + 1, g + 1, b, e, n, h, h1, h2 => by
    rw [drawP_s, drawP_s]
    by_cases q : e - b = 1
    · rw [if_pos q, if_pos q]
    · have hc := cut_bd w (b := b) (e := e) (by omega)
      rw [if_neg q, if_neg q, draw_fuel w wd f g b _ _ hc.1 (by omega) (by omega), draw_fuel w wd f g _ e _ hc.2 (by omega) (by omega)]

/-! rows set in -/
theorem indent_line (k : Nat) : ∀ (l t : List Nat), (∀ c ∈ l, c ≠ 10) → indentL k false (l ++ 10 :: t) = l ++ 10 :: indentL k true t
  | [], t, _ => by rw [List.nil_append, indentL_f]; rfl
  | c :: l, t, h => by
    have hc : c ≠ 10 := h c List.mem_cons_self
    rw [List.cons_append, indentL_f, show (c == 10) = false from by simpa using hc, indent_line k l t fun d hd => h d (List.mem_cons_of_mem _ hd)]
    rfl
theorem indent_row (k : Nat) {l : List Nat} (hl : l ≠ []) (h : ∀ c ∈ l, c ≠ 10) (t : List Nat) : indentL k true (l ++ 10 :: t) = List.replicate k 32 ++ l ++ 10 :: indentL k true t := by
  cases l with
  | nil => exact absurd rfl hl
  | cons c l =>
    rw [List.cons_append, indentL_t, if_neg (h c List.mem_cons_self), indent_line k l t fun d hd => h d (List.mem_cons_of_mem _ hd)]
    simp
theorem seg_len {w : List Nat} {b e : Nat} (h : b ≤ e) (he : e ≤ w.length) : (segP w b e).length = e - b := by
  rw [segP, List.length_take, List.length_drop]; omega
theorem seg_mem {w : List Nat} {b e c : Nat} (h : c ∈ segP w b e) : c ∈ w := List.mem_of_mem_drop (List.mem_of_mem_take h)
theorem indent_rowP {w : List Nat} (hw : ∀ c ∈ w, c ≠ 10) {b e : Nat} (h : b < e) (he : e ≤ w.length) (k n : Nat) (t : List Nat) : indentL k true (rowP w b e n ++ t) = rowP w b e (n + k) ++ indentL k true t := by
  have hl : List.replicate n 32 ++ segP w b e ≠ [] := fun q => by
    have := congrArg List.length q
    rw [List.length_append, seg_len (by omega) he] at this
    simp at this
    omega
  have hc : ∀ c ∈ List.replicate n 32 ++ segP w b e, c ≠ 10 := fun c hm => by
    rcases List.mem_append.mp hm with q | q
    · rw [List.eq_of_mem_replicate q]; decide
    · exact hw c (seg_mem q)
  have := indent_row k hl hc t
  rw [show rowP w b e n ++ t = (List.replicate n 32 ++ segP w b e) ++ 10 :: t by simp [rowP], this]
  have e2 : List.replicate (n + k) 32 = List.replicate k 32 ++ List.replicate n 32 := by rw [List.replicate_append_replicate, Nat.add_comm]
  rw [rowP, e2]
  simp only [List.append_assoc, List.cons_append, List.nil_append]
theorem indent_draw {w : List Nat} (hw : ∀ c ∈ w, c ≠ 10) (wd k : Nat) : ∀ (f b e n : Nat) (t : List Nat), b < e → e ≤ w.length → e - b ≤ f → indentL k true (drawP w wd f b e n ++ t) = drawP w wd f b e (n + k) ++ indentL k true t
  | 0, b, e, n, t, h, _, hf => by omega
  | f + 1, b, e, n, t, h, he, hf => by
    rw [drawP_s, drawP_s]
    by_cases q : e - b = 1
    · rw [if_pos q, if_pos q, indent_rowP hw h he]
    · have hc := cut_bd w (b := b) (e := e) (by omega)
      rw [if_neg q, if_neg q, List.append_assoc, indent_rowP hw h he, List.append_assoc, indent_draw hw wd k f b _ _ _ hc.1 (by omega) (by omega), List.cons_append, indentL_t, if_pos rfl, indent_draw hw wd k f _ e _ _ hc.2 he (by omega)]
      rw [show n + wd + k = n + k + wd by omega]
      simp

/-! the pile -/
/-- the piece goes together with those on the pile -/
noncomputable def mergeS (wd : Nat) : List Nat × List Nat → List (List Nat × List Nat) → List (List Nat × List Nat)
  | p, [] => [p]
  | p, q :: r => if ltL p.1 q.1 = true then mergeS wd (p.1 ++ q.1, 10 :: indentL wd true ((p.1 ++ p.2) ++ (10 :: (q.1 ++ q.2)))) r else p :: q :: r
theorem mergeS_0 {wd : Nat} {p : List Nat × List Nat} : mergeS wd p [] = [p] := rfl
theorem mergeS_s {wd : Nat} {p q : List Nat × List Nat} {r : List (List Nat × List Nat)} : mergeS wd p (q :: r) = if ltL p.1 q.1 = true then mergeS wd (p.1 ++ q.1, 10 :: indentL wd true ((p.1 ++ p.2) ++ (10 :: (q.1 ++ q.2)))) r else p :: q :: r := rfl

/-- a piece w[b:e] with its drawing -/
structure PcOk (w : List Nat) (wd b e : Nat) (p : List Nat × List Nat) : Prop where
  lt : b < e
  le : e ≤ w.length
  low : lowTo (w.drop b) (e - b)
  word : p.1 = segP w b e
  draw : p.1 ++ p.2 = drawP w wd (e - b) b e 0
  open_ : ∃ r, p.2 = 10 :: r
/-- the pieces of the end at b, the first one on top -/
inductive Stk (w : List Nat) (wd : Nat) : Nat → List (List Nat × List Nat) → Prop
  | nil : Stk w wd w.length []
  | cons {b e : Nat} {p : List Nat × List Nat} {st : List (List Nat × List Nat)} : PcOk w wd b e p → ltL (w.drop e) (w.drop b) = true → Stk w wd e st → Stk w wd b (p :: st)
theorem Stk.le {w : List Nat} {wd b : Nat} {st : List (List Nat × List Nat)} (h : Stk w wd b st) : b ≤ w.length := by
  cases h with
  | nil => exact Nat.le_refl _
  | cons P _ _ => have := P.lt; have := P.le; omega

theorem drop_seg (w : List Nat) {b e : Nat} (h : b ≤ e) : w.drop b = segP w b e ++ w.drop e := by
  have := List.take_append_drop (e - b) (w.drop b)
  rw [List.drop_drop, show b + (e - b) = e by omega] at this
  exact this.symm
theorem seg_app (w : List Nat) {b m e : Nat} (h1 : b ≤ m) (h2 : m ≤ e) : segP w b m ++ segP w m e = segP w b e := by
  unfold segP
  rw [show e - b = (m - b) + (e - m) by omega, List.take_add, List.drop_drop, show b + (m - b) = m by omega]

/-- the top piece goes together with the one below it -/
theorem merge_one {w : List Nat} (hw : ∀ c ∈ w, c ≠ 10) (wd : Nat) {b e e2 : Nat} {p q : List Nat × List Nat} (P : PcOk w wd b e p) (hmin : ∀ q, b < q → q < e → ltL (w.drop e) (w.drop q) = true) (Q : PcOk w wd e e2 q) (nx : ltL (w.drop e2) (w.drop e) = true) :
    ltL p.1 q.1 = ltL (w.drop b) (w.drop e) ∧ (ltL p.1 q.1 = true → PcOk w wd b e2 (p.1 ++ q.1, 10 :: indentL wd true ((p.1 ++ p.2) ++ (10 :: (q.1 ++ q.2)))) ∧ ∀ z, b < z → z < e2 → ltL (w.drop e2) (w.drop z) = true) := by
  have be := P.lt
  have ee := Q.lt
  have hx : p.1 ≠ [] := fun z => by
    have := congrArg List.length z
    rw [P.word, seg_len (by omega) P.le] at this
    simp at this; omega
  have hy : q.1 ≠ [] := fun z => by
    have := congrArg List.length z
    rw [Q.word, seg_len (by omega) Q.le] at this
    simp at this; omega
  have lx : p.1.length = e - b := by rw [P.word, seg_len (by omega) P.le]
  have ly : q.1.length = e2 - e := by rw [Q.word, seg_len (by omega) Q.le]
  have d1 : w.drop b = p.1 ++ (q.1 ++ w.drop e2) := by rw [drop_seg w (show b ≤ e by omega), drop_seg w (show e ≤ e2 by omega), P.word, Q.word]
  have d2 : w.drop e = q.1 ++ w.drop e2 := by rw [drop_seg w (show e ≤ e2 by omega), Q.word]
  have H1 : lowTo (p.1 ++ (q.1 ++ w.drop e2)) p.1.length := by rw [← d1, lx]; exact P.low
  have H2 : lowTo (q.1 ++ w.drop e2) q.1.length := by rw [← d2, ly]; exact Q.low
  have H3 : ltL (w.drop e2) (q.1 ++ w.drop e2) = true := by rw [← d2]; exact nx
  have tell := merge_tell hx hy H1 H2 H3
  rw [← d1, ← d2] at tell
  refine ⟨tell, fun hl => ?_⟩
  have hlt : ltL (w.drop b) (w.drop e) = true := by rw [← tell]; exact hl
  have cut : cutOf w b e2 = e := cut_min be ee fun z z1 z2 z3 => by
    rcases Nat.lt_trichotomy z e with l | l | l
    · exact hmin z z1 l
    · exact absurd l z3
    · have := Q.low (z - e) (by omega) (by omega)
      rwa [List.drop_drop, show e + (z - e) = z by omega] at this
  refine ⟨⟨by omega, Q.le, ?_, ?_, ?_, _, rfl⟩, fun z z1 z2 => ?_⟩
  · have := lowTo_join H1 H2 (by rw [← d1, ← d2]; exact hlt)
    rw [← d1, List.length_append, lx, ly] at this
    rwa [show e - b + (e2 - e) = e2 - b by omega] at this
  · rw [P.word, Q.word, seg_app w (by omega) (by omega)]
  · have hn : e2 - b = (e2 - b - 1) + 1 := by omega
    rw [hn, drawP_s, if_neg (by omega), cut, Nat.zero_add, P.draw, Q.draw]
    have i1 := indent_draw hw wd wd (e - b) b e 0 (10 :: drawP w wd (e2 - e) e e2 0) be P.le (Nat.le_refl _)
    have i2 := indent_draw hw wd wd (e2 - e) e e2 0 [] ee Q.le (Nat.le_refl _)
    rw [List.append_nil, indentL_0, List.append_nil, Nat.zero_add] at i2
    rw [i1, indentL_t, if_pos rfl, i2, Nat.zero_add, draw_fuel w wd (e - b) (e2 - b - 1) b e wd be (Nat.le_refl _) (by omega), draw_fuel w wd (e2 - e) (e2 - b - 1) e e2 wd ee (Nat.le_refl _) (by omega)]
    rw [rowP, P.word, Q.word, seg_app w (by omega) (by omega)]
    simp
  · rcases Nat.lt_trichotomy z e with l | l | l
    · exact ltL_trans nx (hmin z z1 l)
    · rw [l]; exact nx
    · have := Q.low (z - e) (by omega) (by omega)
      rw [List.drop_drop, show e + (z - e) = z by omega] at this
      exact ltL_trans nx this
theorem merge_stk {w : List Nat} (hw : ∀ c ∈ w, c ≠ 10) (wd : Nat) : ∀ (st : List (List Nat × List Nat)) (b e : Nat) (p : List Nat × List Nat), PcOk w wd b e p → (∀ q, b < q → q < e → ltL (w.drop e) (w.drop q) = true) → Stk w wd e st → Stk w wd b (mergeS wd p st)
  | [], b, e, p, P, _, S => by
    rw [mergeS_0]
    cases S
    refine .cons P ?_ .nil
    rw [List.drop_length]
    have hl : 0 < (w.drop b).length := by rw [List.length_drop]; have := P.lt; omega
    cases hd : w.drop b with
    | nil => rw [hd] at hl; cases hl
    | cons c r => rfl
  | q :: r, b, e, p, P, hmin, S => by
    rw [mergeS_s]
    have S0 := S
    cases S with
    | cons Q nx S' =>
      rename_i e2
      obtain ⟨tell, go⟩ := merge_one hw wd P hmin Q nx
      by_cases hl : ltL p.1 q.1 = true
      · rw [if_pos hl]
        exact merge_stk hw wd r b e2 _ (go hl).1 (go hl).2 S'
      · rw [if_neg hl]
        refine .cons P ?_ S0
        have hf : ltL (w.drop b) (w.drop e) = false := by
          rw [← tell]; cases h : ltL p.1 q.1 with
          | true => exact absurd h hl
          | false => rfl
        exact ltL_of_not hf (by rw [List.length_drop, List.length_drop]; have := P.le; have := P.lt; omega)
theorem sign_ok {w : List Nat} {wd b : Nat} (hb : b < w.length) : PcOk w wd b (b + 1) ([w[b]], [10]) := by
  have sg : segP w b (b + 1) = [w[b]] := by
    rw [segP, show b + 1 - b = 1 by omega, List.drop_eq_getElem_cons hb]
    rfl
  refine ⟨by omega, by omega, fun q h0 h1 => by omega, sg.symm, ?_, _, rfl⟩
  rw [show b + 1 - b = 0 + 1 by omega, drawP_s, if_pos (by omega), rowP, sg]
  rfl
/-- a sign is pushed -/
theorem push_stk {w : List Nat} (hw : ∀ c ∈ w, c ≠ 10) (wd : Nat) {b : Nat} {st : List (List Nat × List Nat)} (hb : b < w.length) (S : Stk w wd (b + 1) st) : Stk w wd b (mergeS wd ([w[b]], [10]) st) :=
  merge_stk hw wd st b (b + 1) _ (sign_ok hb) (fun q h0 h1 => by omega) S

/-- the next place whose end comes ahead of the one at b -/
noncomputable def nextP (w : List Nat) (b : Nat) : Nat → Nat → Nat
  | 0, e => e
  | j + 1, e => if ltL (w.drop b) (w.drop e) = true then nextP w b j (e + 1) else e
theorem nextP_s {w : List Nat} {b j e : Nat} : nextP w b (j + 1) e = if ltL (w.drop b) (w.drop e) = true then nextP w b j (e + 1) else e := rfl
theorem next_is {w : List Nat} {b m : Nat} (hm : m ≤ w.length) (h : ltL (w.drop m) (w.drop b) = true) (low : ∀ q, b < q → q < m → ltL (w.drop b) (w.drop q) = true) : ∀ (j e : Nat), e + j = w.length → b < e → e ≤ m → nextP w b j e = m
  | 0, e, h1, _, h3 => by show e = m; omega
  | j + 1, e, h1, h2, h3 => by
    rw [nextP_s]
    by_cases q : e = m
    · subst q
      rw [if_neg (by rw [ltL_asymm h]; exact Bool.false_ne_true)]
    · rw [if_pos (low e h2 (by omega))]
      exact next_is hm h low j (e + 1) (by omega) (by omega) (by omega)
noncomputable def nextOfP (w : List Nat) (b : Nat) : Nat := nextP w b (w.length - (b + 1)) (b + 1)
/-- the drawings from b on -/
noncomputable def blocksP (w : List Nat) (wd : Nat) : Nat → Nat → List (List Nat)
  | 0, _ => []
  | j + 1, b => if b < w.length then drawP w wd (nextOfP w b - b) b (nextOfP w b) 0 :: blocksP w wd j (nextOfP w b) else []
theorem blocksP_s {w : List Nat} {wd j b : Nat} : blocksP w wd (j + 1) b = if b < w.length then drawP w wd (nextOfP w b - b) b (nextOfP w b) 0 :: blocksP w wd j (nextOfP w b) else [] := rfl
theorem blocks_stk {w : List Nat} {wd : Nat} : ∀ (j b : Nat) (st : List (List Nat × List Nat)), w.length - b ≤ j → Stk w wd b st → blocksP w wd j b = st.map fun p => p.1 ++ p.2
  | 0, b, st, h, S => by
    cases S with
    | nil => rfl
    | cons P _ _ => have := P.lt; have := P.le; omega
  | j + 1, b, st, h, S => by
    rw [blocksP_s]
    cases S with
    | nil => rw [if_neg (Nat.lt_irrefl _)]; rfl
    | cons P nx S' =>
      rename_i e p st
      have hbe := P.lt
      have hle := P.le
      have hn : nextOfP w b = e := next_is hle nx (fun q h1 h2 => by
        have := P.low (q - b) (by omega) (by omega)
        rwa [List.drop_drop, show b + (q - b) = q by omega] at this) _ _ (by omega) (by omega) (by omega)
      rw [if_pos (by omega), hn, List.map_cons, P.draw, blocks_stk j e st (by omega) S']
end Mine
end

section
open PySem PySem.W PyProof.Rows
set_option maxRecDepth 100000
set_option linter.unusedSimpArgs false
set_option maxHeartbeats 1000000
namespace Mine

theorem ofString_inj {a b : String} (h : Str.ofString a = Str.ofString b) : a = b := by
  rw [Str.ofString_eq_toList, Str.ofString_eq_toList] at h
  have h1 : a.toList.map Char.toNat = b.toList.map Char.toNat := by simpa using h
  have h2 : a.toList = b.toList := List.map_inj_right (fun x y e => Char.toNat_inj.mp e) |>.mp h1
  exact String.toList_inj.mp h2
theorem ofString_beq (a b : String) : (Str.ofString a == Str.ofString b) = (a == b) := by
  by_cases h : a = b
  · subst h; simp
  · rw [beq_eq_false_iff_ne.mpr h, beq_eq_false_iff_ne.mpr fun e => h (ofString_inj e)]
theorem ofString_eq (a b : String) : (Str.ofString a = Str.ofString b) = (a = b) := propext ⟨ofString_inj, fun h => by rw [h]⟩

section
variable {O : Oracle} {m : Loc} {σ : Sto} {p q : Pos} {k : Nat}
theorem bind1_some {α β : Type} (a : α) (f : α → Option β) : bind1 (some a) f = f a := rfl
theorem bind2_some {α β γ : Type} (a : α) (b : β) (f : α → β → Option γ) : bind2 (some (a, b)) f = f a b := rfl
theorem ev_const (c : Const) : ev O m (.Constant c k p) σ = bind1 (constAV c) fun v => some (v, σ) := rfl
theorem const_int (i : Int) : constAV (.int i) = some (.int i) := rfl
theorem const_str (s : Str) : constAV (.str s) = some (.str s.cps.toList) := rfl
theorem const_bool (b : Bool) : constAV (.bool b) = some (.bool b) := rfl
theorem ev_name (x : Str) : ev O m (.Name x p) σ = bind1 (m.lookup x) fun v => some (v, σ) := rfl
theorem ev_boolop (op : BoolOp) (vs : List PySem.Expr) : ev O m (.BoolOp op vs p) σ = evBool O m op vs σ := rfl
theorem ev_binop (l r : PySem.Expr) (op : Operator) : ev O m (.BinOp l op r p) σ = bind2 (ev O m l σ) fun a σ1 => bind2 (ev O m r σ1) fun b σ2 => binop op a b σ2 := rfl
theorem ev_usub (x : PySem.Expr) : ev O m (.UnaryOp .USub x p) σ = bind2 (ev O m x σ) fun v σ1 => bind1 (asInt v) fun i => some (.int (-i), σ1) := rfl
theorem ev_list (es : List PySem.Expr) : ev O m (.List es p) σ = bind2 (evs O m es σ) fun vs σ1 => if sizeOk vs.length then some (.ref σ1.length, σ1 ++ [.list vs]) else none := rfl
theorem ev_tuple (es : List PySem.Expr) : ev O m (.Tuple es k p) σ = bind2 (evs O m es σ) fun vs σ1 => if sizeOk vs.length then some (.tup vs, σ1) else none := rfl
theorem ev_cmp (l r : PySem.Expr) (op : CmpOp) : ev O m (.Compare l [op] [r] p) σ = if isQ l then (if isQ r then bind2 (evQ O m l σ) fun a σ1 => bind2 (evQ O m r σ1) fun b σ2 => bind1 (cmpQ op a b) fun c => some (.bool c, σ2) else none)
      else bind2 (ev O m l σ) fun a σ1 => bind2 (ev O m r σ1) fun b σ2 => bind1 (cmpop op a b σ2) fun c => some (.bool c, σ2) := rfl
theorem isQ_name (x : Str) : isQ (.Name x p) = false := rfl
theorem isQ_const (c : Const) : isQ (.Constant c k p) = false := rfl
theorem isQ_sub (v i : PySem.Expr) : isQ (.Subscript v i p) = false := rfl
theorem isQ_bin (l r : PySem.Expr) (op : Operator) : isQ (.BinOp l op r p) = false := rfl
theorem isQ_attr (o : PySem.Expr) (x : Str) (args : List PySem.Expr) (ks : List Keyword) : isQ (.Call (.Attribute o x p) args ks q) = false := rfl
theorem isQ_call (x : Str) (args : List PySem.Expr) (ks : List Keyword) : isQ (.Call (.Name x p) args ks q) = (x == qname && args.length == 1 && ks.isEmpty) := rfl
theorem evQ_call (f : PySem.Expr) (args : List PySem.Expr) (ks : List Keyword) : evQ O m (.Call f args ks p) σ = bind2 (evs O m args σ) fun vs σ1 => bind1 (one vs) fun v => some (v, σ1) := rfl
theorem one_one (v : AV) : one [v] = some v := rfl
theorem ev_callN (g : Str) (args : List PySem.Expr) : ev O m (.Call (.Name g p) args [] q) σ = if (m.lookup g).isSome then none else bind2 (evs O m args σ) fun vs σ1 => match bifOf g with
          | some b => builtin O b vs σ1
          | none => O g vs σ1 := rfl
theorem ev_callA (o : PySem.Expr) (x : Str) (args : List PySem.Expr) : ev O m (.Call (.Attribute o x p) args [] q) σ = bind1 (mthOf x) fun mt => bind2 (ev O m o σ) fun ov σ1 => if recv mt ov σ1 then (bind2 (evs O m args σ1) fun vs σ2 => methCall O mt ov vs σ2) else none := rfl
theorem ev_subSl (v : PySem.Expr) (lo hi st : Option PySem.Expr) : ev O m (.Subscript v (.Slice lo hi st q) p) σ = bind2 (ev O m v σ) fun a σ1 => bind2 (evOpt O m lo σ1) fun x σ2 => bind2 (evOpt O m hi σ2) fun y σ3 => bind2 (evOpt O m st σ3) fun z σ4 =>
      bind1 (bound x) fun x' => bind1 (bound y) fun y' => bind1 (bound z) fun z' => slc a x' y' z' σ4 := by
  show bind2 (ev O m v σ) (fun a σ1 => bind2 (bind2 (evOpt O m lo σ1) fun x σ2 => bind2 (evOpt O m hi σ2) fun y σ3 => bind2 (evOpt O m st σ3) fun z σ4 =>
      bind1 (bound x) fun x' => bind1 (bound y) fun y' => bind1 (bound z) fun z' => some ((x', y', z'), σ4)) fun z σ4 => slc a z.1 z.2.1 z.2.2 σ4) = _
  congr 1; funext a σ1
  cases evOpt O m lo σ1 with
  | none => rfl
  | some r => cases r with | mk x σ2 =>
    simp only [bind2_some]
    cases evOpt O m hi σ2 with
    | none => rfl
    | some r => cases r with | mk y σ3 =>
      simp only [bind2_some]
      cases evOpt O m st σ3 with
      | none => rfl
      | some r => cases r with | mk z σ4 =>
        simp only [bind2_some]
        cases bound x with
        | none => rfl
        | some x' =>
          cases bound y with
          | none => rfl
          | some y' => cases bound z <;> rfl
theorem ev_subN (v : PySem.Expr) (x : Str) : ev O m (.Subscript v (.Name x q) p) σ = bind2 (ev O m v σ) fun a σ1 => bind2 (ev O m (.Name x q) σ1) fun b σ2 => bind1 (subs a b σ2) fun v => some (v, σ2) := rfl
theorem ev_subC (v : PySem.Expr) (c : Const) : ev O m (.Subscript v (.Constant c k q) p) σ = bind2 (ev O m v σ) fun a σ1 => bind2 (ev O m (.Constant c k q) σ1) fun b σ2 => bind1 (subs a b σ2) fun v => some (v, σ2) := rfl
theorem ev_subB (v l r : PySem.Expr) (op : Operator) : ev O m (.Subscript v (.BinOp l op r q) p) σ = bind2 (ev O m v σ) fun a σ1 => bind2 (ev O m (.BinOp l op r q) σ1) fun b σ2 => bind1 (subs a b σ2) fun v => some (v, σ2) := rfl
theorem evs_nil : evs O m [] σ = some ([], σ) := rfl
theorem evs_cons (e : PySem.Expr) (r : List PySem.Expr) : evs O m (e :: r) σ = bind2 (ev O m e σ) fun v σ1 => bind2 (evs O m r σ1) fun vs σ2 => some (v :: vs, σ2) := rfl
theorem evOpt_none : evOpt O m none σ = some (none, σ) := rfl
theorem evOpt_some (e : PySem.Expr) : evOpt O m (some e) σ = bind2 (ev O m e σ) fun v σ1 => some (some v, σ1) := rfl
theorem evBool_one (op : BoolOp) (e : PySem.Expr) : evBool O m op [e] σ = ev O m e σ := rfl
theorem evBool_cons (op : BoolOp) (e b : PySem.Expr) (r : List PySem.Expr) : evBool O m op (e :: b :: r) σ = bind2 (ev O m e σ) fun v σ1 => bind1 (asBool v) fun c => if stops op c then some (.bool c, σ1) else evBool O m op (b :: r) σ1 := rfl
theorem stops_and (b : Bool) : stops .And b = !b := rfl
theorem stops_or (b : Bool) : stops .Or b = b := rfl
theorem tr_boolop (op : BoolOp) (vs : List PySem.Expr) (w : Option (AV × Sto)) : tr O m (.BoolOp op vs p) σ w = trAll O m op vs σ := rfl
theorem tr_cmp (l : PySem.Expr) (ops : List CmpOp) (rs : List PySem.Expr) (w : Option (AV × Sto)) : tr O m (.Compare l ops rs p) σ w = byV w := rfl
theorem trAll_nil (op : BoolOp) : trAll O m op [] σ = some (stops op false, σ) := rfl
theorem trAll_cons (op : BoolOp) (e : PySem.Expr) (r : List PySem.Expr) : trAll O m op (e :: r) σ = bind2 (tr O m e σ (ev O m e σ)) fun b σ1 => if stops op b then some (b, σ1) else trAll O m op r σ1 := rfl
theorem trs_nil : trs O m [] σ = some (true, σ) := rfl
theorem byV_bool (b : Bool) : byV (some (.bool b, σ)) = some (b, σ) := rfl
theorem as_int (i : Int) : asInt (.int i) = some i := rfl
theorem ex_assign (x : Str) (e : PySem.Expr) : ex O m (.Assign [.Name x q] e p) σ = bind2 (ev O m e σ) fun v σ1 => some (.next, setL m x v, σ1) := rfl
theorem ex_expr (e : PySem.Expr) : ex O m (.Expr e p) σ = bind2 (ev O m e σ) fun _ σ1 => some (.next, m, σ1) := rfl
theorem ex_return (e : PySem.Expr) : ex O m (.Return (some e) p) σ = bind2 (ev O m e σ) fun v σ1 => some (.ret v, m, σ1) := rfl
theorem ex_if (t : PySem.Expr) (b o : List PySem.Stmt) : ex O m (.If t b o p) σ = bind2 (tr O m t σ (ev O m t σ)) fun c σ1 => if c then exs O m b σ1 else exs O m o σ1 := rfl
theorem ex_break : ex O m (.Break p) σ = some (.brk, m, σ) := rfl
theorem exs_nil : exs O m [] σ = some (.next, m, σ) := rfl
theorem exs_more (s : PySem.Stmt) (r : List PySem.Stmt) : exs O m (s :: r) σ = match ex O m s σ with
    | some (.next, m', σ') => exs O m' r σ'
    | x => x := rfl
theorem add_int' (x y : Int) : binop .Add (.int x) (.int y) σ = some (.int (x + y), σ) := rfl
theorem sub_int' (x y : Int) : binop .Sub (.int x) (.int y) σ = some (.int (x - y), σ) := rfl
theorem fdiv_int' (x y : Int) : binop .FloorDiv (.int x) (.int y) σ = if 0 < y ∧ y < 1000000000 then some (.int (x / y), σ) else none := rfl
theorem mod_int2 (x y : Int) : binop .Mod (.int x) (.int y) σ = if 0 < y then some (.int (x % y), σ) else none := rfl
theorem add_str' (x y : List Nat) : binop .Add (.str x) (.str y) σ = if sizeOk (x.length + y.length) then some (.str (x ++ y), σ) else none := rfl
theorem mul_str' (x : Int) (y : List Nat) : binop .Mult (.int x) (.str y) σ = if sizeOk x.natAbs && sizeOk y.length && sizeOk (x.natAbs * y.length) then some (.str (mulText x y), σ) else none := rfl
theorem cmp_eq (a b : AV) : cmpop .Eq a b σ = eqTop a b σ := rfl
theorem cmp_ne (a b : AV) : cmpop .NotEq a b σ = bind1 (eqTop a b σ) fun c => some (!c) := rfl
theorem cmp_lt (x y : Int) : cmpop .Lt (.int x) (.int y) σ = some (decide (x < y)) := rfl
theorem cmp_gt (x y : Int) : cmpop .Gt (.int x) (.int y) σ = some (decide (y < x)) := rfl
theorem cmp_lts (x y : List Nat) : cmpop .Lt (.str x) (.str y) σ = some (ltL x y) := rfl
theorem cmp_gts (x y : List Nat) : cmpop .Gt (.str x) (.str y) σ = some (ltL y x) := rfl
theorem eqTop_int (x y : Int) : eqTop (.int x) (.int y) σ = some (x == y) := rfl
theorem eqTop_str (x y : List Nat) : eqTop (.str x) (.str y) σ = some (x == y) := rfl
theorem eqTop_ref (r q : Nat) : eqTop (.ref r) (.ref q) σ = bind1 (listAt σ r) fun xs => bind1 (listAt σ q) fun ys => if xs.length = ys.length then eqAVs xs ys else some false := rfl
theorem recv_append (r : Nat) : recv .append (.ref r) σ = (listAt σ r).isSome := rfl
theorem recv_push (r : Nat) : recv .push (.ref r) σ = isAccAt σ r := rfl
theorem recv_pop (r : Nat) : recv .pop (.ref r) σ = isAccAt σ r := rfl
theorem recv_pc (r : Nat) : recv .partCount (.ref r) σ = isAccAt σ r := rfl
theorem recv_join (l : List Nat) : recv .join (.str l) σ = true := rfl
theorem meth_push (r : Nat) (args : List AV) : methCall O .push (.ref r) args σ = if isAccAt σ r then O "#push" (.ref r :: args) σ else none := rfl
theorem meth_pop (r : Nat) (args : List AV) : methCall O .pop (.ref r) args σ = if isAccAt σ r then O "#pop" (.ref r :: args) σ else none := rfl
theorem meth_pc (r : Nat) (args : List AV) : methCall O .partCount (.ref r) args σ = if isAccAt σ r then O "#part_count" (.ref r :: args) σ else none := rfl
theorem b_new (args : List AV) : builtin O .accum args σ = O "#new" args σ := rfl
theorem bindT_name (x : Str) (v : AV) : bindT (.Name x p) v m = some (setL m x v) := rfl
theorem slc_str' (l : List Nat) (lo hi st : Option Int) : slc (.str l) lo hi st σ = if st = some 0 then none else if sizeOk l.length then some (.str (pickL l lo hi st), σ) else none := rfl
theorem slc_frz (xs : List AV) (lo hi st : Option Int) : slc (.frz xs) lo hi st σ = if st = some 0 then none else if sizeOk xs.length then some (.ref σ.length, σ ++ [.list (pickL xs lo hi st)]) else none := rfl
theorem slc_ref (r : Nat) (lo hi st : Option Int) : slc (.ref r) lo hi st σ = if st = some 0 then none else bind1 (listAt σ r) fun xs => if sizeOk xs.length then some (.ref σ.length, σ ++ [.list (pickL xs lo hi st)]) else none := rfl
theorem bound_i (i : Int) : bound (some (.int i)) = if intOk i then some (some i) else none := rfl
theorem listAt_of {r : Nat} {xs : List AV} (h : σ[r]? = some (.list xs)) : listAt σ r = some xs := by unfold listAt; rw [h]
theorem isAccAt_of {r : Nat} {n : Int} {xs : List AV} (h : σ[r]? = some (.acc n xs)) : isAccAt σ r = true := by unfold isAccAt; rw [h]
end
end Mine
end

section
open PySem PySem.W PyProof.Rows
set_option Elab.async false
set_option maxRecDepth 100000
set_option linter.unusedSimpArgs false
set_option maxHeartbeats 8000000
namespace Mine
local macro_rules | `(tactic| o_head ($_ $K $as $e)) => `(tactic| o_head (kmHook $K $as $e [93, 100]))
open_top hd1 for PySem.Challenge.rw_wu0020_01
end Mine
end

section
open PySem PySem.W PyProof.Rows PySem.Calls PySem.SeqAt
set_option maxRecDepth 100000
set_option linter.unusedSimpArgs false
set_option maxHeartbeats 4000000
namespace Mine.L1

noncomputable abbrev K (p : Params) : Frag := Mine.hd1.heap_39 p
noncomputable def fdOf (o : Option Obj) : FuncData := match o with
  | some ⟨_, _, .func fd, _⟩ => fd
  | _ => default
noncomputable def prog : Program := PySem.Challenge.rw_wu0020_01.row.prog
noncomputable def fnOf (f : Str) : Fn := ((defsOf prog f).getD ⟨[], []⟩)
noncomputable def fd (p : Params) (a : Addr) : FuncData := fdOf ((K p).lookup a)
noncomputable def ob (p : Params) (a : Addr) : Obj := ((K p).lookup a).getD default
end Mine.L1
end

section
open PySem PySem.W PyProof.Rows PySem.Calls PySem.SeqAt
set_option maxRecDepth 100000
set_option linter.unusedSimpArgs false
set_option maxHeartbeats 4000000
namespace Mine.L1

noncomputable def N : Nm := ⟨131, 75, 91, 128, fun f => if f = "_indent" then 51 else if f = "_law_drawn" then 220 else if f = "_law_blocks" then 227 else if f = "law" then 232 else 0⟩
noncomputable def names : List Str := ["_indent", "_law_drawn", "_law_blocks", "law"]
noncomputable def kn (g : Str) : Bool := names.contains g
noncomputable def fns (f : Str) : Option Fn := if f = "_law_drawn" ∨ f = "_law_blocks" ∨ f = "law" then some (fnOf f) else none

section
variable {w : World} {hB : Heap} {os : OsState} {mg mb : Str → Option Value}

theorem fns_is {f : Str} {fn : Fn} (h : fns f = some fn) : fn = fnOf f ∧ (f = "_law_drawn" ∨ f = "_law_blocks" ∨ f = "law") := by
  unfold fns at h
  by_cases q : f = "_law_drawn" ∨ f = "_law_blocks" ∨ f = "law"
  · rw [if_pos q] at h; cases h; exact ⟨rfl, q⟩
  · rw [if_neg q] at h; cases h

theorem vcons {vals : List Value} {n : Nat} (h : vals.length = n + 1) : ∃ a t, vals = a :: t ∧ t.length = n := by
  cases vals with
  | nil => cases h
  | cons a t => exact ⟨a, t, rfl, Nat.succ.inj h⟩
theorem one {vals : List Value} (h : vals.length = 1) : ∃ a, vals = [a] := by
  obtain ⟨a, t, e, k⟩ := vcons h
  subst e
  exact ⟨a, by rw [List.eq_nil_of_length_eq_zero k]⟩
theorem two {vals : List Value} (h : vals.length = 2) : ∃ a b, vals = [a, b] := by
  obtain ⟨a, t, e, k⟩ := vcons h
  subst e
  obtain ⟨b, rfl⟩ := one k
  exact ⟨a, b, rfl⟩
theorem three {vals : List Value} (h : vals.length = 3) : ∃ a b c, vals = [a, b, c] := by
  obtain ⟨a, t, e, k⟩ := vcons h
  subst e
  obtain ⟨b, c, rfl⟩ := two k
  exact ⟨a, b, c, rfl⟩

theorem five {vals : List Value} (h : vals.length = 5) : ∃ a b c d e, vals = [a, b, c, d, e] := by
  obtain ⟨a, t1, e1, k1⟩ := vcons h
  obtain ⟨b, t2, e2, k2⟩ := vcons k1
  obtain ⟨c, d, e, e3⟩ := three k2
  subst e1 e2 e3
  exact ⟨a, b, c, d, e, rfl⟩
theorem fnAt (KX : (K w.params).In hB) {f : Str} {fn : Fn} (h : fns f = some fn) : N.val f = .ref (N.fn f) ∧ FnAt hB (N.fn f) fn (ob w.params (N.fn f)) (fd w.params (N.fn f)) ∧ okSs kn (fd w.params (N.fn f)).scope fn.body = true := by
  obtain ⟨rfl, hf⟩ := fns_is h
  rcases hf with rfl | rfl | rfl
  · refine ⟨by kernel_rfl, ⟨KX _ _ (by kernel_rfl), by kernel_rfl, by kernel_rfl, by kernel_rfl, by kernel_rfl, by kernel_rfl, by kernel_rfl, by kernel_rfl, by kernel_rfl, codeRec_of KX (by kernel_rfl), fun vals hv => ?_, of_decide_eq_true (by kernel_rfl), of_decide_eq_true (by kernel_rfl), of_decide_eq_true (by kernel_rfl), of_decide_eq_true (by kernel_rfl)⟩, by kernel_rfl⟩
    obtain ⟨a, b, c, d, e, rfl⟩ := five (hv.trans (by kernel_rfl))
    kernel_rfl
  · refine ⟨by kernel_rfl, ⟨KX _ _ (by kernel_rfl), by kernel_rfl, by kernel_rfl, by kernel_rfl, by kernel_rfl, by kernel_rfl, by kernel_rfl, by kernel_rfl, by kernel_rfl, codeRec_of KX (by kernel_rfl), fun vals hv => ?_, of_decide_eq_true (by kernel_rfl), of_decide_eq_true (by kernel_rfl), of_decide_eq_true (by kernel_rfl), of_decide_eq_true (by kernel_rfl)⟩, by kernel_rfl⟩
    obtain ⟨a, b, c, rfl⟩ := three (hv.trans (by kernel_rfl))
    kernel_rfl
  · refine ⟨by kernel_rfl, ⟨KX _ _ (by kernel_rfl), by kernel_rfl, by kernel_rfl, by kernel_rfl, by kernel_rfl, by kernel_rfl, by kernel_rfl, by kernel_rfl, by kernel_rfl, codeRec_of KX (by kernel_rfl), fun vals hv => ?_, of_decide_eq_true (by kernel_rfl), of_decide_eq_true (by kernel_rfl), of_decide_eq_true (by kernel_rfl), of_decide_eq_true (by kernel_rfl)⟩, by kernel_rfl⟩
    obtain ⟨a, rfl⟩ := one (hv.trans (by kernel_rfl))
    kernel_rfl

theorem makes131 (KX : (K w.params).In hB) : MakesL (model prog w) hB 131 := by
  have h131 : ∃ oc od cd sl, (K w.params).lookup 131 = some ⟨oc, od, .cls cd, sl⟩ ∧ cd.abstract = false ∧ cd.hasDel = false ∧ cd.mro.isEmpty = false ∧ cd.hasDict = true := ⟨_, _, _, _, by rfl, by rfl, by rfl, by rfl, by rfl⟩
  obtain ⟨oc, od, cd, sl, a, b⟩ := h131
  refine ⟨⟨oc, od, cd, sl, KX _ _ a, b⟩, .of_peek KX (by kernel_rfl), .of_peek KX (by kernel_rfl), looks_subIn KX (by kernel_rfl), looks_subIn KX (by kernel_rfl), looks_specialIn KX (by kernel_rfl), looks_instIn KX (by kernel_rfl), .of_peek KX (by kernel_rfl)⟩

noncomputable def cdOf (o : Option ClassData) : ClassData := o.getD default
noncomputable def cd131 (p : Params) : ClassData := cdOf (clsIn (K p) 131)
noncomputable def cd209 (p : Params) : ClassData := cdOf (clsIn (K p) 209)
theorem acc131 : AccC prog w (K w.params) 131 (cd131 w.params) :=
  ⟨by kernel_rfl, fun h X => looks_opaque X (by kernel_rfl), by kernel_rfl, by kernel_rfl, by kernel_rfl, by kernel_rfl, by kernel_rfl, by kernel_rfl, by kernel_rfl, fun y => by kernel_rfl⟩
theorem gaK : GaK (K w.params) 131 := ⟨by kernel_rfl, by kernel_rfl⟩
theorem qcls : QCls (K w.params) 209 (cd209 w.params) := by
  constructor <;> first | kernel_rfl | exact fun _ => by kernel_rfl
end
end Mine.L1
end

section
open PySem PySem.W PyProof.Rows PySem.Calls PySem.SeqAt
set_option maxRecDepth 100000
set_option linter.unusedSimpArgs false
set_option maxHeartbeats 4000000
namespace Mine.L1

noncomputable def arOf (fd : FuncData) : Arg := ((fd.params.posonlyargs ++ fd.params.args).head?).getD ⟨"", .none, default⟩
section
variable {w : World} {hB : Heap} {os : OsState} {mg mb : Str → Option Value}

structure Here (w : World) (hB : Heap) (mg mb : Str → Option Value) : Prop where
  K : (K w.params).In hB
  Tg : hB.Ns mainGlobals mg
  Tb : hB.Ns builtinsNs mb
  lim : hB.NoLimit
  bi : ∀ x : Str, x ≠ "__name__" → mb x = bootBuiltins x

theorem bi_of (H : Here w hB mg mb) {x : Str} {v : Value} (h : (x == ("__name__" : Str)) = false) (e : bootBuiltins x = some v) : mb x = some v := (H.bi x (by simpa using h)).trans e

theorem sup68 (H : Here w hB mg mb) : SupFn prog hB mg mb (K w.params) 68 131 (arOf (fd w.params 68)) (fd w.params 68) :=
  ⟨⟨(ob w.params 68).cls, (ob w.params 68).dict, (ob w.params 68).slots, by kernel_rfl⟩, ⟨55, by kernel_rfl, ⟨(ob w.params 55).cls, (ob w.params 55).dict, (ob w.params 55).slots, by kernel_rfl⟩⟩, ⟨_, _, _, _, _, _, _, by rfl, by rfl, by rfl, by kernel_rfl⟩, codeRec_of H.K (by kernel_rfl), by kernel_rfl, by kernel_rfl, by kernel_rfl, of_decide_eq_true (by kernel_rfl), by kernel_rfl, by kernel_rfl, by kernel_rfl, by kernel_rfl, by kernel_rfl, by kernel_rfl, by kernel_rfl, H.Tg, H.Tb, mg_none_of H.K H.Tg (by kernel_rfl), bi_of H (by kernel_rfl) (by kernel_rfl)⟩
theorem sup91 (H : Here w hB mg mb) : SupFn prog hB mg mb (K w.params) 91 131 (arOf (fd w.params 91)) (fd w.params 91) :=
  ⟨⟨(ob w.params 91).cls, (ob w.params 91).dict, (ob w.params 91).slots, by kernel_rfl⟩, ⟨55, by kernel_rfl, ⟨(ob w.params 55).cls, (ob w.params 55).dict, (ob w.params 55).slots, by kernel_rfl⟩⟩, ⟨_, _, _, _, _, _, _, by rfl, by rfl, by rfl, by kernel_rfl⟩, codeRec_of H.K (by kernel_rfl), by kernel_rfl, by kernel_rfl, by kernel_rfl, of_decide_eq_true (by kernel_rfl), by kernel_rfl, by kernel_rfl, by kernel_rfl, by kernel_rfl, by kernel_rfl, by kernel_rfl, by kernel_rfl, H.Tg, H.Tb, mg_none_of H.K H.Tg (by kernel_rfl), bi_of H (by kernel_rfl) (by kernel_rfl)⟩
theorem sup128 (H : Here w hB mg mb) : SupFn prog hB mg mb (K w.params) 128 131 (arOf (fd w.params 128)) (fd w.params 128) :=
  ⟨⟨(ob w.params 128).cls, (ob w.params 128).dict, (ob w.params 128).slots, by kernel_rfl⟩, ⟨55, by kernel_rfl, ⟨(ob w.params 55).cls, (ob w.params 55).dict, (ob w.params 55).slots, by kernel_rfl⟩⟩, ⟨_, _, _, _, _, _, _, by rfl, by rfl, by rfl, by kernel_rfl⟩, codeRec_of H.K (by kernel_rfl), by kernel_rfl, by kernel_rfl, by kernel_rfl, of_decide_eq_true (by kernel_rfl), by kernel_rfl, by kernel_rfl, by kernel_rfl, by kernel_rfl, by kernel_rfl, by kernel_rfl, by kernel_rfl, H.Tg, H.Tb, mg_none_of H.K H.Tg (by kernel_rfl), bi_of H (by kernel_rfl) (by kernel_rfl)⟩

noncomputable def X (w : World) (hB : Heap) (os : OsState) : Cx := ⟨prog, w, hB, os, N, 209, 0, fun _ _ _ => none, kn⟩

theorem body128 : ∃ p0 p1 p2 p3 p4, (fd w.params 128).body = .stmts [.Return (some (.Call (.Attribute (.Call (.Name "super" p0) [] [] p1) "__len__" p2) [] [] p3)) p4] ∧ (p2.endLine == p3.line) = true := ⟨_, _, _, _, _, by rfl, by rfl⟩

theorem accFns (H : Here w hB mg mb) : ∃ p0 p1 p2 p3 p4, AccFns (X w hB os) mg mb (K w.params) (cd131 w.params) (arOf (fd w.params 128)) (fd w.params 128) p0 p1 p2 p3 p4 := by
  obtain ⟨p0, p1, p2, p3, p4, hb, hl⟩ := body128 (w := w)
  exact ⟨p0, p1, p2, p3, p4, ⟨H.K, H.lim, acc131, sup128 H, hb, hl, fun v => by kernel_rfl, kp_of H.K (by kernel_rfl), fun h a dd size vs k at_ pl => meth_of H.K gaK (by kernel_rfl) (by kernel_rfl) (by decide) k at_ pl⟩⟩

theorem pcPrim (H : Here w hB mg mb) {A : Around} {ρ : Rho} {σ : Sto} {s : Shared} {r : Nat} {size : Int} {xs : List AV} {vals : List Value} (hA : AOk 1 A) (G : StG hB os 131 ρ σ s) (R : RelVs hB ρ s.heap [.ref r] vals)
    (hc : σ[r]? = some (.acc size xs)) : wpAny (model prog w) A (call (.ref 128) vals) (PostV hB os 131 ρ s (.int xs.length) σ) Fls s := by
  obtain ⟨p0, p1, p2, p3, p4, FF⟩ := accFns (os := os) H
  exact partcount_ok FF hA G R hc

inductive B91 (w : World) : Prop
  | mk (q1 q2 q3 q4 q5 q6 q7 q8 q9 q10 r0 r1 r2 r3 r4 : Pos) (k0 k1 k2 k3 : Nat) (es : Str) : (fd w.params 91).body = .stmts [.If (.Compare (.Call (.Attribute (.Name (arOf (fd w.params 91)).arg q1) "part_count" q2) [] [] q3) [.Eq] [.Constant (.int 0) k0 q4] q5) [.Return (some (.Tuple [.Constant (.str es) k1 q6, .Constant (.str es) k2 q7] k3 q8)) q9] [] q10,
      .Return (some (.Call (.Attribute (.Call (.Name "super" r0) [] [] r1) "pop" r2) [] [] r3)) r4] → es.cps = #[] → (q2.endLine == q3.line) = true → (r2.endLine == r3.line) = true → B91 w
theorem body91 : B91 w := ⟨_, _, _, _, _, _, _, _, _, _, _, _, _, _, _, _, _, _, _, _, by rfl, by rfl, by rfl, by rfl⟩

theorem popPrim (H : Here w hB mg mb) {A : Around} {ρ : Rho} {σ : Sto} {s : Shared} {r : Nat} {size : Int} {xs : List AV} {vals : List Value} (hA : AOk 2 A) (G : StG hB os 131 ρ σ s) (R : RelVs hB ρ s.heap [.ref r] vals)
    (hc : σ[r]? = some (.acc size xs)) (hsz : sizeOk xs.length = true) {Q : Value → Shared → Prop}
    (hQ0 : xs = [] → ∀ v s', PostV hB os 131 ρ s emptyPair σ v s' → Q v s') (hQ1 : ∀ x, xs.getLast? = some x → ∀ v s', PostV hB os 131 ρ s x (σ.set r (.acc size xs.dropLast)) v s' → Q v s') :
    wpAny (model prog w) A (call (.ref 91) vals) Q Fls s := by
  obtain ⟨p0, p1, p2, p3, p4, FF⟩ := accFns (os := os) H
  obtain ⟨q1, q2, q3, q4, q5, q6, q7, q8, q9, q10, r0, r1, r2, r3, r4, k0, k1, k2, k3, es, hb, he, h1, h2⟩ := body91 (w := w)
  exact pop_ok FF (sup91 H) hb he h1 h2 (by kernel_rfl) (fun v => by kernel_rfl) hA G R hc hsz hQ0 hQ1
end
end Mine.L1
end

section
open PySem PySem.W PyProof.Rows PySem.Calls PySem.SeqAt
set_option maxRecDepth 100000
set_option linter.unusedSimpArgs false
set_option maxHeartbeats 4000000
namespace Mine.L1

section
variable {w : World} {hB : Heap} {os : OsState} {mg mb : Str → Option Value}

inductive F75 (w : World) (hB : Heap) : Prop
  | mk (sn fw st : Str) (p1 p2 p3 p4 p5 p6 p7 : Pos) (k : Nat) : FnAt hB 75 ⟨[sn, fw, st], [.Expr (.Call (.Attribute (.Name sn p1) "append" p2) [.Tuple [.Name fw p3, .Name st p4] k p5] [] p6) p7]⟩ (ob w.params 75) (fd w.params 75) →
    okE kn (fd w.params 75).scope (.Call (.Attribute (.Name sn p1) "append" p2) [.Tuple [.Name fw p3, .Name st p4] k p5] [] p6) = true → (sn ≠ fw ∧ sn ≠ st ∧ fw ≠ st) → F75 w hB
theorem fn75 (KX : (K w.params).In hB) : F75 w hB := by
  refine ⟨_, _, _, _, _, _, _, _, _, _, _, ⟨KX _ _ (by kernel_rfl), by kernel_rfl, by rfl, by kernel_rfl, by kernel_rfl, by kernel_rfl, by kernel_rfl, by kernel_rfl, by kernel_rfl, codeRec_of KX (by kernel_rfl), fun vals hv => ?_, of_decide_eq_true (by kernel_rfl), of_decide_eq_true (by kernel_rfl), of_decide_eq_true (by kernel_rfl), of_decide_eq_true (by kernel_rfl)⟩, by kernel_rfl, of_decide_eq_true (by kernel_rfl)⟩
  obtain ⟨a, b, c, rfl⟩ := three hv
  kernel_rfl

theorem pushPrim (H : Here w hB mg mb) {A : Around} {ρ : Rho} {σ : Sto} {s : Shared} {r : Nat} {size : Int} {xs : List AV} {a b : AV} {vals : List Value} (hA : AOk 1 A) (G : StG hB os 131 ρ σ s) (R : RelVs hB ρ s.heap [.ref r, a, b] vals)
    (hc : σ[r]? = some (.acc size xs)) (hsz : sizeOk xs.length = true) : wpAny (model prog w) A (call (.ref 75) vals) (PostV hB os 131 ρ s .none (σ.set r (.acc size (xs ++ [.tup [a, b]])))) Fls s := by
  obtain ⟨sn, fw, st, p1, p2, p3, p4, p5, p6, p7, k, F, ok, hn⟩ := fn75 H.K
  exact push_ok (X := X w hB os) H.K gaK (by kernel_rfl) (by kernel_rfl) H.lim F ok hn hA G R hc hsz

inductive B68 (w : World) : Prop
  | mk (sz : Str) (p1 p2 p3 p4 r0 r1 r2 r3 r4 : Pos) : (fd w.params 68).body = .stmts [.Assign [.Attribute (.Name (arOf (fd w.params 68)).arg p1) "_initial_size" p2] (.Name sz p3) p4, .Expr (.Call (.Attribute (.Call (.Name "super" r0) [] [] r1) "__init__" r2) [] [] r3) r4] → (r2.endLine == r3.line) = true → (sz == ("__debug__" : Str)) = false → sz ≠ (arOf (fd w.params 68)).arg → (fd w.params 68).scope.names.lookup sz = some .local → (∀ S (x : Addr) (i : Int) (t : Tok), peek (K w.params) S (bindArgs (fd w.params 68) ⟨[.ref x, .int i t], []⟩) = some [((arOf (fd w.params 68)).arg, .ref x), (sz, .int i t)]) → B68 w
theorem body68 : B68 w :=
  ⟨_, _, _, _, _, _, _, _, _, _, by rfl, by rfl, by kernel_rfl, of_decide_eq_true (by kernel_rfl), by kernel_rfl, fun S x i t => by kernel_rfl⟩

theorem newPrim (H : Here w hB mg mb) {A : Around} {ρ : Rho} {σ : Sto} {s : Shared} {size : Int} {vals : List Value} (hA : AOk 2 A) (G : StG hB os 131 ρ σ s) (R : RelVs hB ρ s.heap [.int size] vals) :
    wpAny (model prog w) A (call (.ref 131) vals) (PostV hB os 131 ρ s (.ref σ.length) (σ ++ [.acc size []])) Fls s := by
  obtain ⟨sz, p1, p2, p3, p4, r0, r1, r2, r3, r4, hb, hl, h1, h2, h3, h4⟩ := body68 (w := w)
  exact new_ok (X := X w hB os) H.K H.lim (makes131 H.K) acc131 (sup68 H) (by kernel_rfl) (by kernel_rfl) hb hl (by kernel_rfl) h1 h2 h3 (fun M x i t => .of_peek H.K (h4 _ x i t)) (by kernel_rfl) (fun self => by kernel_rfl) (by kernel_rfl) (by kernel_rfl) (by kernel_rfl) hA G R

theorem pl (a : Addr) (KX : (K w.params).In hB) (h1 : (K w.params).lookup a = some (ob w.params a)) (h2 : (ob w.params a).data = .func (fd w.params a)) (h3 : (fd w.params a).closure = []) (h4 : codeIn (K w.params) (fd w.params a).code (fd w.params a).qualname = true)
    (h5 : (fd w.params a).globals = mainGlobals) (h6 : (fd w.params a).builtins = builtinsNs) (h7 : (fd w.params a).scope.kind = .function) (h8 : ∀ x ∈ (fd w.params a).scope.names, x.2 ≠ .cell) (h9 : (fd w.params a).scope.isCoroutine = false) (h10 : (fd w.params a).scope.isGenerator = false) : PlFn hB a (fd w.params a) :=
  ⟨⟨_, KX _ _ h1, h2⟩, h3, codeRec_of KX h4, h5, h6, h7, h8, h9, h10⟩

theorem patAt (KX : (K w.params).In hB) : PatAt hB 43 := by
  have h : ∃ (o oc : Obj) (c : Addr) (pt fl gi gn : Value) (t0 t6 : Tok) (items : Array Value) (n : Nat), (K w.params).lookup 43 = some o ∧ o.cls = .type "re.Pattern" ∧ o.dict = none ∧ o.data = .fields #[pt, fl, .int 0 t0, gi, gn, .ref c, .int 0 t6] ∧
      (K w.params).lookup c = some oc ∧ oc.data = .seq items n ∧ (items.map Builtin.Re.reRawOf).map (·.toNat) = ic := ⟨_, _, _, _, _, _, _, _, _, _, _, by rfl, by rfl, by rfl, by rfl, by rfl, by rfl, by kernel_rfl⟩
  obtain ⟨o, oc, c, pt, fl, gi, gn, t0, t6, items, n, a, b, c', d, e, f, g⟩ := h
  exact ⟨o, oc, c, pt, fl, gi, gn, t0, t6, items, n, KX _ _ a, b, c', d, KX _ _ e, f, g⟩

inductive B51 (w : World) : Prop
  | mk (g iv sv : Str) (kd : Nat) (p1 p2 p3 p4 p5 p6 p7 p8 : Pos) : (fd w.params 51).body = .stmts [.Return (some (.Call (.Attribute (.Name g p1) "sub" p2) [.BinOp (.Name iv p3) .Mult (.Constant (.str ⟨#[32]⟩) kd p4) p5, .Name sv p6] [] p7)) p8] →
    (p2.endLine == p7.line) = true → ((g == ("__debug__" : Str)) = false ∧ (iv == ("__debug__" : Str)) = false ∧ (sv == ("__debug__" : Str)) = false) → sv ≠ iv →
    ((fd w.params 51).scope.names.lookup g = some .globalImplicit ∧ (fd w.params 51).scope.names.lookup iv = some .local ∧ (fd w.params 51).scope.names.lookup sv = some .local) →
    okEs (fun _ => true) (fd w.params 51).scope [.BinOp (.Name iv p3) .Mult (.Constant (.str ⟨#[32]⟩) kd p4) p5, .Name sv p6] = true →
    (∀ S (a : Str) (t : Tok) (i : Int) (u : Tok), peek (K w.params) S (bindArgs (fd w.params 51) ⟨[.str a t, .int i u], []⟩) = some [(sv, .str a t), (iv, .int i u)]) → nsIn (K w.params) mainGlobals g = some (some (.ref 43)) → B51 w
theorem body51 : B51 w :=
  ⟨_, _, _, _, _, _, _, _, _, _, _, _, by rfl, by rfl, ⟨by kernel_rfl, by kernel_rfl, by kernel_rfl⟩, of_decide_eq_true (by kernel_rfl), ⟨by kernel_rfl, by kernel_rfl, by kernel_rfl⟩, by kernel_rfl, fun S a t i u => by kernel_rfl, by kernel_rfl⟩

theorem indentPrim (H : Here w hB mg mb) {A : Around} {ρ : Rho} {σ : Sto} {s : Shared} {T : List Nat} {i : Int} {vals : List Value} (hA : AOk 2 A) (G : StG hB os 131 ρ σ s) (R : RelVs hB ρ s.heap [.str T, .int i] vals)
    (h1 : T.length ≤ 1000000) (h2 : i.natAbs ≤ 1000000) (h3 : (T.length + 1) * (i.natAbs + 1) ≤ 1000000) : wpAny (model prog w) A (call (.ref 51) vals) (PostV hB os 131 ρ s (.str (indentL i.toNat true T)) σ) Fls s := by
  obtain ⟨va, vb, rfl, ra, rb⟩ := RelVs.two R
  obtain ⟨_, rfl⟩ := ra.strE
  obtain ⟨_, rfl⟩ := rb.intE
  obtain ⟨g, iv, sv, kd, p1, p2, p3, p4, p5, p6, p7, p8, hb, hl, hd, hne, hk, hok, hbd, hg⟩ := body51 (w := w)
  have F : PlFn hB 51 (fd w.params 51) := pl 51 H.K (by kernel_rfl) (by kernel_rfl) (by kernel_rfl) (by kernel_rfl) (by kernel_rfl) (by kernel_rfl) (by kernel_rfl) (of_decide_eq_true (by kernel_rfl)) (by kernel_rfl) (by kernel_rfl)
  refine wpAny_mono (indent_goes F H.lim hb hl hd hne hk hok (fun M a t i u => .of_peek H.K (hbd _ a t i u)) H.Tg (mg_of H.K H.Tg hg) (patAt H.K) G.base hA.room h1 h2 h3) (fun v s' h => ?_) fun _ _ x => x
  obtain ⟨⟨tv, rfl⟩, g⟩ := h
  obtain ⟨G', T'⟩ := g.step G
  exact ⟨ρ, T', G', .str _ _⟩
end
end Mine.L1
end

section
open PySem PySem.W PyProof.Rows PySem.Calls PySem.SeqAt
set_option maxRecDepth 100000
set_option linter.unusedSimpArgs false
set_option maxHeartbeats 4000000
namespace Mine.L1

/-- where a class's own def lies -/
noncomputable def defAt (p : Params) (C : Addr) (x : Str) : Addr := match findIn (K p) (.ref C) x with
  | some (some (.ref a)) => a
  | _ => 0

section
variable {w : World} {hB : Heap} {os : OsState} {mg mb : Str → Option Value}

theorem qfnGe (H : Here w hB mg mb) : ∃ g fd sn on, QFn (X w hB os) (K w.params) .GtE g fd sn on := by
  refine ⟨defAt w.params 209 "__ge__", fd w.params (defAt w.params 209 "__ge__"), _, _, pl _ H.K (by kernel_rfl) (by kernel_rfl) (by kernel_rfl) (by kernel_rfl) (by kernel_rfl) (by kernel_rfl) (by kernel_rfl) (of_decide_eq_true (by kernel_rfl)) (by kernel_rfl) (by kernel_rfl),
    by kernel_rfl, by kernel_rfl, ⟨_, _, _, _, _, _, _, _, _, _, _, _, by rfl⟩, of_decide_eq_true (by kernel_rfl), ⟨by kernel_rfl, by kernel_rfl⟩, by kernel_rfl, by kernel_rfl, by kernel_rfl, by kernel_rfl, fun a b => by kernel_rfl⟩
theorem qfnLe (H : Here w hB mg mb) : ∃ g fd sn on, QFn (X w hB os) (K w.params) .LtE g fd sn on := by
  refine ⟨defAt w.params 209 "__le__", fd w.params (defAt w.params 209 "__le__"), _, _, pl _ H.K (by kernel_rfl) (by kernel_rfl) (by kernel_rfl) (by kernel_rfl) (by kernel_rfl) (by kernel_rfl) (by kernel_rfl) (of_decide_eq_true (by kernel_rfl)) (by kernel_rfl) (by kernel_rfl),
    by kernel_rfl, by kernel_rfl, ⟨_, _, _, _, _, _, _, _, _, _, _, _, by rfl⟩, of_decide_eq_true (by kernel_rfl), ⟨by kernel_rfl, by kernel_rfl⟩, by kernel_rfl, by kernel_rfl, by kernel_rfl, by kernel_rfl, fun a b => by kernel_rfl⟩

theorem qall (H : Here w hB mg mb) : QAll (X w hB os) (K w.params) (cd209 w.params) mg mb :=
  ⟨H.K, H.lim, qcls, H.Tg, H.Tb, ⟨mg_none_of H.K H.Tg (by kernel_rfl), bi_of H (by kernel_rfl) (by kernel_rfl)⟩, mg_of H.K H.Tg (by kernel_rfl), qfnGe H, qfnLe H⟩

theorem body150 : ∃ tg tx ar : Str, ∃ q1 q2 p1 p2 p3 p4 : Pos, ∃ bi, (fd w.params 150).body = .stmts [.If (.Name tg q1) bi [] q2, .Assign [.Attribute (.Name ar p1) "text" p2] (.Name tx p3) p4] ∧
    (ar == ("__debug__" : Str)) = false ∧ (tx == ("__debug__" : Str)) = false ∧ (tg == ("__debug__" : Str)) = false ∧ (tx ≠ ar ∧ tg ≠ ar ∧ tg ≠ tx) ∧
    ((fd w.params 150).scope.names.lookup ar = some .local ∧ (fd w.params 150).scope.names.lookup tx = some .local ∧ (fd w.params 150).scope.names.lookup tg = some .local) ∧
    (∀ S (x : Addr) (a : Str) (t : Tok), peek (K w.params) S (bindArgs (fd w.params 150) ⟨[.ref x, .str a t], []⟩) = some [(ar, .ref x), (tx, .str a t), (tg, .none)]) :=
  ⟨_, _, _, _, _, _, _, _, _, _, by rfl, by kernel_rfl, by kernel_rfl, by kernel_rfl, of_decide_eq_true (by kernel_rfl), ⟨by kernel_rfl, by kernel_rfl, by kernel_rfl⟩, fun S x a t => by kernel_rfl⟩

theorem qok (H : Here w hB mg mb) : QOk prog w hB os N 209 1 := by
  obtain ⟨tg, tx, ar, q1, q2, p1, p2, p3, p4, bi, hb, h1, h2, h3, h4, h5, h6⟩ := body150 (w := w)
  have F : PlFn hB 150 (fd w.params 150) := pl 150 H.K (by kernel_rfl) (by kernel_rfl) (by kernel_rfl) (by kernel_rfl) (by kernel_rfl) (by kernel_rfl) (by kernel_rfl) (of_decide_eq_true (by kernel_rfl)) (by kernel_rfl) (by kernel_rfl)
  exact q_ok (qall (os := os) H) F (by kernel_rfl) (by kernel_rfl) hb h1 h2 h3 h4 h5 fun M x a t => .of_peek H.K (h6 _ x a t)

theorem kn_is {g : Str} (h : kn g = true) : g = "_indent" ∨ g = "_law_drawn" ∨ g = "_law_blocks" ∨ g = "law" := by
  simpa [kn, names] using h
theorem pick_if {g x : Str} {α : Type} {a b : α} {o : Option α} {P : Prop} (h1 : g = x → a = b → P) (h2 : o = some b → P) (e : (if g = x then some a else o) = some b) : P := by
  by_cases q : g = x
  · rw [if_pos q] at e; exact h1 q (Option.some.inj e)
  · rw [if_neg q] at e; exact h2 e
theorem kn_cases {C : Str → Prop} {g : Str} (h : kn g = true) (h0 : C "_indent") (h1 : C "_law_drawn") (h2 : C "_law_blocks") (h4 : C "law") : C g := by
  rcases kn_is h with rfl | rfl | rfl | rfl
  · exact h0
  · exact h1
  · exact h2
  · exact h4
theorem wld_b (H : Here w hB mg mb) {g : Str} {b : Bif} (e : bifOf g = some b) {env : Env} (he : env.globals = mainGlobals) (hb : env.builtins = builtinsNs) : Looks (model prog w) hB (loadGlobal env g) (bifVal N b) := by
  unfold bifOf at e
  refine pick_if (fun q r => ?_) (pick_if (fun q r => ?_) (pick_if (fun q r => ?_) (pick_if (fun q r => ?_) (pick_if (fun q r => ?_) (pick_if (fun q r => ?_) (pick_if (fun q r => ?_) fun e => nn e)))))) e
  · subst q; subst r; exact looks_builtin H.Tg H.Tb (mg_none_of H.K H.Tg (by kernel_rfl)) (bi_of H (by kernel_rfl) (by kernel_rfl)) env he hb
  · subst q; subst r; exact looks_builtin H.Tg H.Tb (mg_none_of H.K H.Tg (by kernel_rfl)) (bi_of H (by kernel_rfl) (by kernel_rfl)) env he hb
  · subst q; subst r; exact looks_builtin H.Tg H.Tb (mg_none_of H.K H.Tg (by kernel_rfl)) (bi_of H (by kernel_rfl) (by kernel_rfl)) env he hb
  · subst q; subst r; exact looks_builtin H.Tg H.Tb (mg_none_of H.K H.Tg (by kernel_rfl)) (bi_of H (by kernel_rfl) (by kernel_rfl)) env he hb
  · subst q; subst r; exact looks_builtin H.Tg H.Tb (mg_none_of H.K H.Tg (by kernel_rfl)) (bi_of H (by kernel_rfl) (by kernel_rfl)) env he hb
  · subst q; subst r; exact looks_builtin H.Tg H.Tb (mg_none_of H.K H.Tg (by kernel_rfl)) (bi_of H (by kernel_rfl) (by kernel_rfl)) env he hb
  · subst q; subst r; exact looks_global H.Tg (mg_of H.K H.Tg (by kernel_rfl)) env he
theorem wld_m (H : Here w hB mg mb) {name : Str} {m : Mth} (e1 : mthOf name = some m) (e2 : isAcc m = true) {h : Heap} {a dd : Addr} {size : Int} {vs : Array Value} (k : ∀ b o, hB.get? b = some o → h.get? b = some o) (at_ : AccAt 131 h a dd size vs) (pl : Sem Bool) :
    Looks (model prog w) h (getMethod (.ref a) name pl) (mthVal N m, [.ref a]) := by
  unfold mthOf at e1
  refine pick_if (fun _ r => ?_) (pick_if (fun _ r => ?_) (pick_if (fun _ r => ?_) (pick_if (fun _ r => ?_) (pick_if (fun _ r => ?_) (pick_if (fun q r => ?_) (pick_if (fun q r => ?_) (pick_if (fun q r => ?_) fun e => nn e))))))) e1
  · subst r; exact ff e2
  · subst r; exact ff e2
  · subst r; exact ff e2
  · subst r; exact ff e2
  · subst r; exact ff e2
  · subst q; subst r; exact meth_of H.K gaK (by kernel_rfl) (by kernel_rfl) (by decide) k at_ pl
  · subst q; subst r; exact meth_of H.K gaK (by kernel_rfl) (by kernel_rfl) (by decide) k at_ pl
  · subst q; subst r; exact meth_of H.K gaK (by kernel_rfl) (by kernel_rfl) (by decide) k at_ pl
theorem kpM (H : Here w hB mg mb) : ∀ m, isAcc m = true → ∃ k, (k = Keeper.frame ∨ k = Keeper.machine ∨ k = Keeper.boundFrame) ∧ Looks (model prog w) hB (keeperOf (mthVal N m)) k
  | .push, _ => kp_of H.K (by kernel_rfl)
  | .pop, _ => kp_of H.K (by kernel_rfl)
  | .partCount, _ => kp_of H.K (by kernel_rfl)
theorem wld (H : Here w hB mg mb) : Wld prog w hB N 209 kn :=
  ⟨fun _ _ e _ he hb => wld_b H e he hb,
    fun _ e env he hb => kn_cases (C := fun g => Looks (model prog w) hB (loadGlobal env g) (N.val g)) e (looks_global H.Tg (mg_of H.K H.Tg (by kernel_rfl)) env he) (looks_global H.Tg (mg_of H.K H.Tg (by kernel_rfl)) env he) (looks_global H.Tg (mg_of H.K H.Tg (by kernel_rfl)) env he) (looks_global H.Tg (mg_of H.K H.Tg (by kernel_rfl)) env he),
    fun env he hb => looks_global H.Tg (mg_of H.K H.Tg (by kernel_rfl)) env he,
    fun _ e => kn_cases (C := fun g => ∃ k, (k = Keeper.frame ∨ k = Keeper.machine ∨ k = Keeper.boundFrame) ∧ Looks (model prog w) hB (keeperOf (N.val g)) k) e (kp_of H.K (by kernel_rfl)) (kp_of H.K (by kernel_rfl)) (kp_of H.K (by kernel_rfl)) (kp_of H.K (by kernel_rfl)),
    kp_of H.K (by kernel_rfl), kp_of H.K (by kernel_rfl), kpM H, fun _ _ e1 e2 _ _ _ _ _ k at_ pl => wld_m H e1 e2 k at_ pl⟩
end
end Mine.L1
end

section
open PySem PySem.W PyProof.Rows PySem.Calls PySem.SeqAt
set_option maxRecDepth 100000
set_option linter.unusedSimpArgs false
set_option maxHeartbeats 4000000
namespace Mine.L1


noncomputable def accAt (σ : Sto) (r : Nat) : Option (Int × List AV) := match σ[r]? with
  | some (.acc n xs) => some (n, xs)
  | _ => none
theorem accAt_of {σ : Sto} {r : Nat} {n : Int} {xs : List AV} (h : σ[r]? = some (.acc n xs)) : accAt σ r = some (n, xs) := by
  unfold accAt; rw [h]
theorem accAt_inv {σ : Sto} {r : Nat} {n : Int} {xs : List AV} (h : accAt σ r = some (n, xs)) : σ[r]? = some (.acc n xs) := by
  unfold accAt at h
  cases h1 : σ[r]? with
  | none => rw [h1] at h; cases h
  | some c => rw [h1] at h; cases c <;> cases h; rfl
noncomputable def pIndent (vs : List AV) (σ : Sto) : Option (AV × Sto) := bind2 (Mine.two vs) fun a b => bind1 (asStr a) fun s => bind1 (asInt b) fun k =>
  if sizeOk s.length ∧ sizeOk k.natAbs ∧ sizeOk ((s.length + 1) * (k.natAbs + 1)) then some (.str (indentL k.toNat true s), σ) else none
noncomputable def pNew (vs : List AV) (σ : Sto) : Option (AV × Sto) := bind1 (Mine.one vs) fun a => bind1 (asInt a) fun n => some (.ref σ.length, σ ++ [.acc n []])
noncomputable def pPush (vs : List AV) (σ : Sto) : Option (AV × Sto) := bind1 vs.head? fun v => bind1 (asRef v) fun r => bind2 (Mine.two vs.tail) fun a b => bind2 (accAt σ r) fun n xs =>
  if sizeOk xs.length then some (.none, σ.set r (.acc n (xs ++ [.tup [a, b]]))) else none
noncomputable def popped (σ : Sto) (r : Nat) (n : Int) (xs : List AV) (o : Option AV) : AV × Sto := match o with
  | some v => (v, σ.set r (.acc n xs.dropLast))
  | none => (emptyPair, σ)
noncomputable def pPop (vs : List AV) (σ : Sto) : Option (AV × Sto) := bind1 (Mine.one vs) fun v => bind1 (asRef v) fun r => bind2 (accAt σ r) fun n xs =>
  if sizeOk xs.length then some (popped σ r n xs xs.getLast?) else none
noncomputable def pCount (vs : List AV) (σ : Sto) : Option (AV × Sto) := bind1 (Mine.one vs) fun v => bind1 (asRef v) fun r => bind2 (accAt σ r) fun _ xs =>
  if sizeOk xs.length then some (.int xs.length, σ) else none
/-- the rarer calls that the law needs -/
noncomputable def pr : Oracle := fun f vs σ =>
  if f = "_indent" then pIndent vs σ else if f = "#new" then pNew vs σ else if f = "#push" then pPush vs σ else if f = "#pop" then pPop vs σ else if f = "#part_count" then pCount vs σ
  else if f = "#len" then pLen 0 93 29 19 vs σ else if f = "#str" then pStr 1 100 32 32 vs σ else if f = "#split" then pSplit vs σ else none
theorem prim0 (vs : List AV) (σ : Sto) : pr "_indent" vs σ = pIndent vs σ := if_pos rfl
theorem prim1 (vs : List AV) (σ : Sto) : pr "#new" vs σ = pNew vs σ := rfl
theorem prim2 (vs : List AV) (σ : Sto) : pr "#push" vs σ = pPush vs σ := rfl
theorem prim3 (vs : List AV) (σ : Sto) : pr "#pop" vs σ = pPop vs σ := rfl
theorem prim4 (vs : List AV) (σ : Sto) : pr "#part_count" vs σ = pCount vs σ := rfl
theorem prim5 (vs : List AV) (σ : Sto) : pr "#len" vs σ = pLen 0 93 29 19 vs σ := rfl
theorem prim6 (vs : List AV) (σ : Sto) : pr "#str" vs σ = pStr 1 100 32 32 vs σ := rfl
theorem prim7 (vs : List AV) (σ : Sto) : pr "#split" vs σ = pSplit vs σ := rfl
theorem pr_in {f : Str} {vs : List AV} {σ : Sto} {x : AV × Sto} (e : pr f vs σ = some x) : f = "_indent" ∨ f = "#new" ∨ f = "#push" ∨ f = "#pop" ∨ f = "#part_count" ∨ f = "#len" ∨ f = "#str" ∨ f = "#split" := by
  refine Classical.byContradiction fun hn => ?_
  simp only [not_or] at hn
  obtain ⟨h0, h1, h2, h3, h4, h5, h6, h7⟩ := hn
  rw [show pr f vs σ = none from (if_neg h0).trans ((if_neg h1).trans ((if_neg h2).trans ((if_neg h3).trans ((if_neg h4).trans ((if_neg h5).trans ((if_neg h6).trans (if_neg h7)))))))] at e
  cases e
theorem pIndent_inv {vs : List AV} {σ : Sto} {x : AV × Sto} (e : pIndent vs σ = some x) : ∃ T i, vs = [.str T, .int i] ∧ T.length ≤ 1000000 ∧ i.natAbs ≤ 1000000 ∧ (T.length + 1) * (i.natAbs + 1) ≤ 1000000 ∧ (.str (indentL i.toNat true T), σ) = x := by
  obtain ⟨a, b, h1, e⟩ := bind2_inv e
  obtain ⟨T, h2, e⟩ := bind1_inv e
  obtain ⟨i, h3, e⟩ := bind1_inv e
  obtain ⟨⟨k1, k2, k3⟩, e⟩ := guard_inv e
  exact ⟨T, i, by rw [two_inv h1, asStr_inv h2, asInt_inv h3], sizeOk_le k1, sizeOk_le k2, sizeOk_le k3, Option.some.inj e⟩
theorem pNew_inv {vs : List AV} {σ : Sto} {x : AV × Sto} (e : pNew vs σ = some x) : ∃ n, vs = [.int n] ∧ (.ref σ.length, σ ++ [.acc n []]) = x := by
  obtain ⟨a, h1, e⟩ := bind1_inv e
  obtain ⟨n, h2, e⟩ := bind1_inv e
  exact ⟨n, by rw [one_inv h1, asInt_inv h2], Option.some.inj e⟩
theorem pPush_inv {vs : List AV} {σ : Sto} {x : AV × Sto} (e : pPush vs σ = some x) : ∃ r a b n xs, vs = [.ref r, a, b] ∧ σ[r]? = some (.acc n xs) ∧ sizeOk xs.length = true ∧ (.none, σ.set r (.acc n (xs ++ [.tup [a, b]]))) = x := by
  obtain ⟨v, h1, e⟩ := bind1_inv e
  obtain ⟨r, h2, e⟩ := bind1_inv e
  obtain ⟨a, b, h3, e⟩ := bind2_inv e
  obtain ⟨n, xs, h4, e⟩ := bind2_inv e
  obtain ⟨h5, e⟩ := guard_inv e
  refine ⟨r, a, b, n, xs, ?_, accAt_inv h4, h5, Option.some.inj e⟩
  cases vs with
  | nil => cases h1
  | cons u t =>
    have h3' := two_inv h3
    simp at h1 h3'
    rw [h1, h3', asRef_inv h2]
theorem ref_inv {vs : List AV} {v : AV} {r : Nat} (h1 : Mine.one vs = some v) (h2 : asRef v = some r) : vs = [.ref r] := by rw [one_inv h1, asRef_inv h2]

section
variable {w : World} {hB : Heap} {os : OsState} {mg mb : Str → Option Value}

section
variable {vs : List AV} {σ : Sto} {v : AV} {σ' : Sto} {A : Around} {ρ : Rho} {s : Shared} {vals : List Value}
theorem pokIndent (H : Here w hB mg mb) (e : pIndent vs σ = some (v, σ')) (hA : AOk 2 A) (G : StG hB os N.acc ρ σ s) (R : RelVs hB ρ s.heap vs vals) : wpAny (model prog w) A (call (N.val "_indent") vals) (PostV hB os N.acc ρ s v σ') Fls s := by
  rw [show N.val "_indent" = .ref 51 from by kernel_rfl]
  obtain ⟨T, i, rfl, h1, h2, h3, h4⟩ := pIndent_inv e
  obtain ⟨rfl, rfl⟩ := Prod.mk.inj h4
  exact indentPrim H hA G R h1 h2 h3
theorem pokNew (H : Here w hB mg mb) (e : pNew vs σ = some (v, σ')) (hA : AOk 2 A) (G : StG hB os N.acc ρ σ s) (R : RelVs hB ρ s.heap vs vals) : wpAny (model prog w) A (call (N.val "#new") vals) (PostV hB os N.acc ρ s v σ') Fls s := by
  rw [show N.val "#new" = .ref 131 from by kernel_rfl]
  obtain ⟨n, rfl, h4⟩ := pNew_inv e
  obtain ⟨rfl, rfl⟩ := Prod.mk.inj h4
  exact newPrim H hA G R
theorem pokPush (H : Here w hB mg mb) (e : pPush vs σ = some (v, σ')) (hA : AOk 2 A) (G : StG hB os N.acc ρ σ s) (R : RelVs hB ρ s.heap vs vals) : wpAny (model prog w) A (call (N.val "#push") vals) (PostV hB os N.acc ρ s v σ') Fls s := by
  rw [show N.val "#push" = .ref 75 from by kernel_rfl]
  obtain ⟨r, a, b, n, xs, rfl, hc, hk, h4⟩ := pPush_inv e
  obtain ⟨rfl, rfl⟩ := Prod.mk.inj h4
  exact pushPrim H (hA.mono (by omega)) G R hc hk
theorem pokPop (H : Here w hB mg mb) (e : pPop vs σ = some (v, σ')) (hA : AOk 2 A) (G : StG hB os N.acc ρ σ s) (R : RelVs hB ρ s.heap vs vals) : wpAny (model prog w) A (call (N.val "#pop") vals) (PostV hB os N.acc ρ s v σ') Fls s := by
  rw [show N.val "#pop" = .ref 91 from by kernel_rfl]
  obtain ⟨u, h1, e⟩ := bind1_inv e
  obtain ⟨r, h2, e⟩ := bind1_inv e
  obtain ⟨n, xs, h3, e⟩ := bind2_inv e
  obtain ⟨hk, e⟩ := guard_inv e
  rw [ref_inv h1 h2] at R
  have e := Option.some.inj e
  refine popPrim H hA G R (accAt_inv h3) hk (fun hx v' s' h => ?_) (fun x hx v' s' h => ?_)
  · rw [hx] at e
    obtain ⟨rfl, rfl⟩ := Prod.mk.inj e
    exact h
  · rw [hx] at e
    obtain ⟨rfl, rfl⟩ := Prod.mk.inj e
    exact h
theorem pokCount (H : Here w hB mg mb) (e : pCount vs σ = some (v, σ')) (hA : AOk 2 A) (G : StG hB os N.acc ρ σ s) (R : RelVs hB ρ s.heap vs vals) : wpAny (model prog w) A (call (N.val "#part_count") vals) (PostV hB os N.acc ρ s v σ') Fls s := by
  rw [show N.val "#part_count" = .ref 128 from by kernel_rfl]
  obtain ⟨u, h1, e⟩ := bind1_inv e
  obtain ⟨r, h2, e⟩ := bind1_inv e
  obtain ⟨n, xs, h3, e⟩ := bind2_inv e
  obtain ⟨hk, e⟩ := guard_inv e
  rw [ref_inv h1 h2] at R
  obtain ⟨rfl, rfl⟩ := Prod.mk.inj (Option.some.inj e)
  exact pcPrim H (hA.mono (by omega)) G R (accAt_inv h3)
theorem pokLen (W : GWld hB (K w.params) 131 mg mb) (D : LenDef hB (K w.params) 131 mg mb 98 93 29 19) (e : pLen 0 93 29 19 vs σ = some (v, σ')) (hA : AOk 2 A) (G : StG hB os N.acc ρ σ s) (R : RelVs hB ρ s.heap vs vals) : wpAny (model prog w) A (call (N.val "#len") vals) (PostV hB os N.acc ρ s v σ') Fls s := by
  rw [show N.val "#len" = .builtin "len" from by kernel_rfl]
  exact len_prim W D hA G R e
theorem pokStr (W : GWld hB (K w.params) 131 mg mb) (D : StrDef hB (K w.params) 131 mg 105 100 32 32) (e : pStr 1 100 32 32 vs σ = some (v, σ')) (hA : AOk 2 A) (G : StG hB os N.acc ρ σ s) (R : RelVs hB ρ s.heap vs vals) : wpAny (model prog w) A (call (N.val "#str") vals) (PostV hB os N.acc ρ s v σ') Fls s := by
  rw [show N.val "#str" = .type "str" from by kernel_rfl]
  exact str_prim W D hA G R e
theorem pokSplit (e : pSplit vs σ = some (v, σ')) (G : StG hB os N.acc ρ σ s) (R : RelVs hB ρ s.heap vs vals) : wpAny (model prog w) A (call (N.val "#split") vals) (PostV hB os N.acc ρ s v σ') Fls s := by
  rw [show N.val "#split" = .builtin "str.split" from by kernel_rfl]
  exact split_prim G R e
end
theorem pr_cases {C : Str → Prop} {f : Str} {vs : List AV} {σ : Sto} {x : AV × Sto} (e : pr f vs σ = some x) (h0 : pIndent vs σ = some x → C "_indent") (h1 : pNew vs σ = some x → C "#new") (h2 : pPush vs σ = some x → C "#push") (h3 : pPop vs σ = some x → C "#pop")
    (h4 : pCount vs σ = some x → C "#part_count") (h5 : pLen 0 93 29 19 vs σ = some x → C "#len") (h6 : pStr 1 100 32 32 vs σ = some x → C "#str") (h7 : pSplit vs σ = some x → C "#split") : C f := by
  rcases pr_in e with rfl | rfl | rfl | rfl | rfl | rfl | rfl | rfl
  · exact h0 ((prim0 _ _).symm.trans e)
  · exact h1 ((prim1 _ _).symm.trans e)
  · exact h2 ((prim2 _ _).symm.trans e)
  · exact h3 ((prim3 _ _).symm.trans e)
  · exact h4 ((prim4 _ _).symm.trans e)
  · exact h5 ((prim5 _ _).symm.trans e)
  · exact h6 ((prim6 _ _).symm.trans e)
  · exact h7 ((prim7 _ _).symm.trans e)
/-- all that the run wants of the world -/
structure HereG (w : World) (hB : Heap) (mg mb : Str → Option Value) : Prop where
  here : Here w hB mg mb
  bm : ∃ bm ob, BMod hB mainGlobals mg bm ob
theorem gwld (H : HereG w hB mg mb) : GWld hB (K w.params) 131 mg mb :=
  ⟨H.here.K, H.here.lim, H.here.Tg, H.here.Tb, H.bm, by kernel_rfl, by kernel_rfl, gaK, by kernel_rfl, by kernel_rfl⟩
theorem gpl (a : Addr) (H : Here w hB mg mb) (h1 : (K w.params).lookup a = some (ob w.params a)) (h2 : (ob w.params a).data = .func (fd w.params a)) (h3 : (fd w.params a).closure = []) (h4 : codeIn (K w.params) (fd w.params a).code (fd w.params a).qualname = true)
    (h5 : (fd w.params a).globals = mainGlobals) (h6 : (fd w.params a).builtins = builtinsNs) (h7 : (fd w.params a).scope.kind = .function) (h8 : ∀ x ∈ (fd w.params a).scope.names, x.2 ≠ .cell) (h9 : (fd w.params a).scope.isCoroutine = false) (h10 : (fd w.params a).scope.isGenerator = false) : PlFn hB a (fd w.params a) := pl a H.K h1 h2 h3 h4 h5 h6 h7 h8 h9 h10
theorem lenDef (H : HereG w hB mg mb) : LenDef hB (K w.params) 131 mg mb 98 93 29 19 :=
  ⟨⟨gpl 98 H.here (by kernel_rfl) (by kernel_rfl) (by kernel_rfl) (by kernel_rfl) (by kernel_rfl) (by kernel_rfl) (by kernel_rfl) (of_decide_eq_true (by kernel_rfl)) (by kernel_rfl) (by kernel_rfl), by rfl, codeHd_of_K (c := 97) (P := 93) H.here.K (by kernel_rfl), fun v => by kernel_rfl, by kernel_rfl, by kernel_rfl, by kernel_rfl, fun env => by kernel_rfl, of_decide_eq_true (by kernel_rfl), by kernel_rfl, by kernel_rfl, by kernel_rfl, of_decide_eq_true (by kernel_rfl), by kernel_rfl, by kernel_rfl, by kernel_rfl⟩,
    by rfl, by kernel_rfl, by kernel_rfl, ⟨mg_none_of H.here.K H.here.Tg (by kernel_rfl), bi_of H.here (by kernel_rfl) (by kernel_rfl)⟩, ⟨mg_none_of H.here.K H.here.Tg (by kernel_rfl), bi_of H.here (by kernel_rfl) (by kernel_rfl)⟩, by kernel_rfl, by kernel_rfl, by rfl, by rfl⟩
theorem strDef (H : HereG w hB mg mb) : StrDef hB (K w.params) 131 mg 105 100 32 32 :=
  .mk (te := 322) ⟨gpl 105 H.here (by kernel_rfl) (by kernel_rfl) (by kernel_rfl) (by kernel_rfl) (by kernel_rfl) (by kernel_rfl) (by kernel_rfl) (of_decide_eq_true (by kernel_rfl)) (by kernel_rfl) (by kernel_rfl), by rfl, codeHd_of_K (c := 104) (P := 100) H.here.K (by kernel_rfl), fun v => by kernel_rfl, by kernel_rfl, by kernel_rfl, by kernel_rfl, fun env => by kernel_rfl, of_decide_eq_true (by kernel_rfl), by kernel_rfl, by kernel_rfl, by kernel_rfl, of_decide_eq_true (by kernel_rfl), by kernel_rfl, by kernel_rfl, by kernel_rfl⟩
    (by rfl) (by rfl) (by rfl) (by kernel_rfl) (by kernel_rfl) (by kernel_rfl) (mg_of H.here.K H.here.Tg (by kernel_rfl)) (by kernel_rfl) (by kernel_rfl) (by rfl) (by rfl)

theorem pok (H : HereG w hB mg mb) : POk prog w hB os N 2 pr := fun _ _ _ v σ' e A ρ s vals hA G R =>
  pr_cases (C := fun f => wpAny (model prog w) A (call (N.val f) vals) (PostV hB os N.acc ρ s v σ') Fls s) e (fun e => pokIndent H.here e hA G R) (fun e => pokNew H.here e hA G R) (fun e => pokPush H.here e hA G R) (fun e => pokPop H.here e hA G R) (fun e => pokCount H.here e hA G R) (fun e => pokLen (gwld H) (lenDef H) e hA G R) (fun e => pokStr (gwld H) (strDef H) e hA G R) fun e => pokSplit e G R

theorem text (H : HereG w hB mg mb) : Text prog w hB os N 209 kn pr fns 2 :=
  ⟨wld H.here, (qok H.here).mono (by omega), pok H, H.here.lim, fun f fn h => by
    obtain ⟨a, b, c⟩ := fnAt H.here.K h
    exact ⟨a, _, _, b, c⟩, by
    have e : qname = ("QName" : Str) := rfl
    unfold fns
    rw [if_neg (by decide)], fun vs σ => by
    rfl⟩

/-- the store at the start: the two defs' tables of codes -/
noncomputable def sto0 : Sto := [.code 93 29 19, .code 100 32 32]
/-- the law's call -/
theorem law_call (H : HereG w hB mg mb) {A : Around} {s : Shared} {vs : List AV} {vals : List Value} {σ' : Sto} {v : AV} (n : Nat) (e : calls pr fns n "law" vs sto0 = some (v, σ')) (hA : AOk (n + 2) A) (hb : ∀ b o, hB.get? b = some o → s.heap.get? b = some o) (hos : s.os = os) (hg : AllBare s.gens)
    (h1 : hB.get? 93 = none) (h2 : hB.get? 100 = none) (t1 : s.heap.get? 93 = some (tabObj #[])) (t2 : s.heap.get? 100 = some (tabObj #[]))
    (R : RelVs hB [(93, 93), (100, 100)] s.heap vs vals) : wpAny (model prog w) A (call (.ref 232) vals) (PostV hB os 131 [(93, 93), (100, 100)] s v σ') Fls s := by
  have C := (calls_ok (text (os := os) H) n).call
  have G : StG hB os 131 [(93, 93), (100, 100)] sto0 s := by
    refine ⟨hb, rfl, fun r c p e1 e2 => ?_, fun p hp => ?_, by decide, hg, hos, fun p hp => ?_⟩
    · match r with
      | 0 => cases e1; cases e2; exact ⟨rfl, _, t1, .inl rfl⟩
      | 1 => cases e1; cases e2; exact ⟨rfl, _, t2, .inl rfl⟩
      | r + 2 => cases e1
    · rcases List.mem_cons.mp hp with rfl | hp
      · exact h1
      · cases List.mem_singleton.mp hp; exact h2
    · rcases List.mem_cons.mp hp with rfl | hp
      · show (s.heap.get? 93).isSome = true
        rw [t1]; rfl
      · cases List.mem_singleton.mp hp
        show (s.heap.get? 100).isSome = true
        rw [t2]; rfl
  have : wpAny (model prog w) A (call (N.val "law") vals) (PostV hB os 131 [(93, 93), (100, 100)] s v σ') Fls s := C "law" vs sto0 v σ' e A [(93, 93), (100, 100)] s vals hA G R
  rw [show N.val "law" = .ref 232 from by kernel_rfl] at this
  exact this
end
end Mine.L1
end

section
open PySem PySem.W PyProof.Rows PySem.Calls PySem.SeqAt
set_option Elab.async false
set_option maxRecDepth 100000
set_option linter.unusedSimpArgs false
set_option maxHeartbeats 8000000
namespace Mine.L1
theorem intsRel {h₀ h : Heap} {ρ : Rho} : ∀ {vs : List Value} {zs : List Int}, IntsAre vs zs → RelVs h₀ ρ h (zs.map .int) vs
  | _, _, .nil => .nil
  | _, _, .cons _ _ r => .cons (.int _ _) (intsRel r)
theorem law_args {w : World} {s₀ s₁ : Shared} {args : List WData} {vals : List Value} {as : List Addr} (hpre : Challenge.rw_wu0020_01.row.claim.pre args = true) (hlay : WData.layableAll args = true)
    (hrd : ReadsAllW Challenge.rw_wu0020_01.row.records (classAt s₀.heap) s₁.heap vals args as) (hwl : WellAll w.params s₁.heap vals args) (hlo : ∀ (a : Addr), a ∈ as → (a == sysModules) = false) :
    ∃ l : Addr, vals = [.ref l] ∧ ∃ (zs : List Int) (us : List Value), zs.length ≤ 63 ∧ s₁.heap.IsList l us.toArray ∧ IntsAre us zs := by
  wrow_args hpre hlay hrd hwl hlo
  rename_i zs _ _ _ _ _ _ _ l vals _ hL _ _ _ hI _ hlen _
  exact ⟨l, rfl, zs, _, by omega, hL, hI⟩

/-- the two tables of codes -/
noncomputable def tabs : List (Addr × Addr) := [(97, 93), (104, 100)]
theorem tabsAt {w : World} {h : Heap} (KX : (K w.params).In h) (t : ∀ P ∈ [93, 100], h.get? P = some (tabObj #[])) : TabsAt tabs h := fun q hq => by
  rcases List.mem_cons.mp hq with rfl | hq
  · exact ⟨codeHd_of_K KX (by kernel_rfl), t 93 List.mem_cons_self⟩
  · cases List.mem_singleton.mp hq
    exact ⟨codeHd_of_K KX (by kernel_rfl), t 100 (List.mem_cons_of_mem _ List.mem_cons_self)⟩

theorem oldK_of {hB h h' : Heap} (hT : TabsAt tabs h) (e : hB = ghostOf h tabs) (base : ∀ b o, hB.get? b = some o → h'.get? b = some o) (t1 : ∃ ps, h'.get? 93 = some (tabObj ps)) (t2 : ∃ ps, h'.get? 100 = some (tabObj ps)) : OldK h h' := by
  have tab : ∀ b o, b ∈ tabs.map (·.2) → h.get? b = some o → isCodeTable h b ∧ o = tabObj #[] ∧ ∃ ps, h'.get? b = some (tabObj ps) := fun b o hb e => by
    obtain ⟨q, hq, rfl⟩ := List.mem_map.mp hb
    have e2 := (hT q hq).2
    rw [e] at e2
    refine ⟨((hT q hq).1.tab (hT q hq).2).isCodeTable, Option.some.inj e2, ?_⟩
    rcases List.mem_cons.mp hq with rfl | hq
    · exact t1
    · cases List.mem_singleton.mp hq; exact t2
  have keep : ∀ b o, b ∉ tabs.map (·.2) → h.get? b = some o → h'.get? b = some o := fun b o hb q => base b o (e ▸ ghost_ne q hb)
  refine ⟨fun b o q => ?_, fun b o q => ?_⟩
  · by_cases hb : b ∈ tabs.map (·.2)
    · obtain ⟨ht, rfl, ps, hP⟩ := tab b o hb q
      exact .inr (.inl ⟨ht, rfl, #[], ps, rfl, by rw [Array.empty_append]; exact hP⟩)
    · exact .inl (keep b o hb q)
  · by_cases hb : b ∈ tabs.map (·.2)
    · obtain ⟨_, _, ps, hP⟩ := tab b o hb q
      exact ⟨_, hP⟩
    · exact ⟨o, keep b o hb q⟩

theorem hereG {w : World} {h : Heap} {mg mb : Str → Option Value} (KX : (K w.params).In h) (hT : TabsAt tabs h) (Tg : h.Ns mainGlobals mg) (Tb : h.Ns builtinsNs mb) (lim : h.NoLimit) (bi : ∀ x : Str, x ≠ "__name__" → mb x = bootBuiltins x) (M : ∃ bm ob, BMod h mainGlobals mg bm ob) :
    HereG w (ghostOf h tabs) mg mb := by
  refine ⟨⟨ghost_K hT KX (by kernel_rfl), ghost_ns hT Tg, ghost_ns hT Tb, let ⟨mc, a, r⟩ := lim; ⟨mc, ghost_ns hT a, r⟩, bi⟩, ?_⟩
  obtain ⟨bm, ob, M⟩ := M
  exact ⟨bm, ob, ghost_ns hT M.ns, M.name, M.ne, ghost_get hT M.obj (fun q => by have := M.cls; rw [q] at this; cases this), M.cls, M.dict, M.data⟩

theorem law_mid (n : Nat) (hn : n ≤ 800) (pure_ : ∀ zs : List Int, zs.length ≤ 63 → ∃ σ', calls pr fns n "law" [.frz (zs.map .int)] sto0 = some (.bool true, σ') ∧ σ'[0]? = some (.code 93 29 19) ∧ σ'[1]? = some (.code 100 32 32))
    {w : World} {s₁ : Shared} {mg mb : Str → Option Value} (KX : (K w.params).In s₁.heap) (t : ∀ P ∈ [93, 100], s₁.heap.get? P = some (tabObj #[])) (Tg : s₁.heap.Ns mainGlobals mg) (Tb : s₁.heap.Ns builtinsNs mb) (lim : s₁.heap.NoLimit) (bi : ∀ x : Str, x ≠ "__name__" → mb x = bootBuiltins x) (M : ∃ bm ob, BMod s₁.heap mainGlobals mg bm ob)
    (hg : AllBare s₁.gens) {l : Addr} {zs : List Int} {us : List Value} (hz : zs.length ≤ 63) (hL : s₁.heap.IsList l us.toArray) (hI : IntsAre us zs) {A : Around} (hA : AOk (n + 2) A) :
    wpAny (model prog w) A (call (.ref 232) [.ref l]) (fun v s' => v = .bool true ∧ OldK s₁.heap s'.heap ∧ s'.os = s₁.os ∧ AllBare s'.gens) Fls s₁ := by
  have hT := tabsAt KX t
  have H := hereG KX hT Tg Tb lim bi M
  obtain ⟨σ', e, c1, c2⟩ := pure_ zs hz
  have R : RelVs (ghostOf s₁.heap tabs) [(93, 93), (100, 100)] s₁.heap [.frz (zs.map .int)] [.ref l] := by
    refine .cons (.frz ?_ hL (intsRel hI)) .nil
    obtain ⟨o, ho, _⟩ := ghost_list hT hL
    rw [ho]; rfl
  refine wpAny_mono (law_call (os := s₁.os) H n e hA (fun b o q => of_hideAll _ q) rfl hg (hideAll_none _ (by decide)) (hideAll_none _ (by decide)) (t 93 List.mem_cons_self) (t 100 (List.mem_cons_of_mem _ List.mem_cons_self)) R) (fun v s' h => ?_) fun _ _ x => x
  obtain ⟨ρ', T, G', r⟩ := h
  cases r
  refine ⟨rfl, oldK_of hT rfl G'.base ?_ ?_, G'.os, G'.gens⟩
  · have hp : ρ'[0]? = some (93, 93) := T.grow.get rfl
    obtain ⟨_, ps, q, _⟩ := G'.cell _ _ _ c1 hp
    exact ⟨ps, q⟩
  · have hp : ρ'[1]? = some (100, 100) := T.grow.get rfl
    obtain ⟨_, ps, q, _⟩ := G'.cell _ _ _ c2 hp
    exact ⟨ps, q⟩

end Mine.L1
end

section
open PySem PySem.W PyProof.Rows
set_option maxRecDepth 100000
set_option linter.unusedSimpArgs false
set_option maxHeartbeats 1000000
namespace Mine.L1
section
variable {O : Oracle} {m : Loc} {σ : Sto}
/-- a statement's own expression, its body; an expression's part -/
noncomputable def valE : PySem.Stmt → PySem.Expr
  | .Assign _ e _ => e
  | .Expr e _ => e
  | .Return (some e) _ => e
  | .If e _ _ _ => e
  | .While e _ _ _ => e
  | .For _ e _ _ _ => e
  | _ => .Constant .none 0 default
noncomputable def bodyE : PySem.Stmt → List PySem.Stmt
  | .If _ b _ _ => b
  | .While _ b _ _ => b
  | .For _ _ b _ _ => b
  | _ => []
noncomputable def partE : PySem.Expr → PySem.Expr
  | .ListComp e _ _ _ => e
  | .Call _ (e :: _) _ _ => e
  | .BinOp _ _ e _ => e
  | .Compare e _ _ _ => e
  | _ => .Constant .none 0 default
noncomputable abbrev tOf := valE
noncomputable abbrev asgE := valE
noncomputable abbrev forI := valE
noncomputable abbrev bOf := bodyE
noncomputable abbrev forB := bodyE
noncomputable abbrev cElt := partE
noncomputable abbrev arg0 := partE
noncomputable abbrev binR := partE
theorem getIx_nat {n : Nat} (h : n ≤ 1000000) : getIx (n : Int) = some n := by
  show (if sizeOk n then some n else none) = _
  rw [if_pos (show sizeOk n = true from Nat.ble_eq_true_of_le h)]
theorem subs_str {w : List Nat} {n : Nat} {i : Int} (hi : i = n) (hn : n < w.length) (hw : w.length ≤ 1000) : subs (.str w) (.int i) σ = some (.str [w[n]]) := by
  subst hi
  have h1 : n ≤ 1000000 := by omega
  show (bind1 (getIx (n : Int)) fun n => bind1 w[n]? fun c => some (AV.str [c])) = _
  rw [getIx_nat h1, bind1_some, List.getElem?_eq_getElem hn]
  rfl
theorem len_str {w : List Nat} (hw : w.length ≤ 1000) : builtin O .len [.str w] σ = some (.int w.length, σ) := by
  show (if sizeOk w.length then some (AV.int w.length, σ) else none) = _
  rw [if_pos (show sizeOk w.length = true from Nat.ble_eq_true_of_le (by omega))]
theorem bif_len : bifOf (Str.ofString "len") = some .len := by rfl
theorem mth_pc : mthOf (Str.ofString "part_count") = some .partCount := by rfl
theorem mth_pop : mthOf (Str.ofString "pop") = some .pop := by rfl
theorem mth_push : mthOf (Str.ofString "push") = some .push := by rfl
theorem mth_join : mthOf (Str.ofString "join") = some .join := by rfl
theorem mth_append : mthOf (Str.ofString "append") = some .append := by rfl
theorem emptyStr : (Str.ofString "").cps.toList = [] := by decide
theorem subs_t0 (x y : AV) : subs (.tup [x, y]) (.int 0) σ = some x := rfl
theorem subs_t1 (x y : AV) : subs (.tup [x, y]) (.int 1) σ = some y := rfl
theorem tup2 {x y : AV} : sizeOk [x, y].length = true := rfl
theorem bif_acc : bifOf (Str.ofString "_Accumulator") = some .accum := by rfl
theorem range_pick {α : Type} (l : List α) : (List.range l.length).filterMap (l[·]?) = l := by
  induction l with
  | nil => rfl
  | cons x l ih =>
    rw [List.length_cons, List.range_succ_eq_map, List.filterMap_cons, List.filterMap_map]
    simp only [List.getElem?_cons_zero]
    congr 1
theorem pick_rev {α : Type} (l : List α) : pickL l none none (some (-1)) = l.reverse := by
  unfold pickL
  rw [show (some (-1 : Int)).getD 1 = -1 from rfl, picked_rev]
  have h : ((List.range l.length).map fun k => l.length - 1 - k) = (List.range l.length).reverse := by
    refine List.ext_getElem (by simp) fun i h1 h2 => ?_
    simp
  rw [h, List.filterMap_reverse, range_pick]
theorem pick_plain {α : Type} (l : List α) {a b : Nat} (hab : a ≤ b) (hb : b ≤ l.length) : pickL l (some (a : Int)) (some (b : Int)) none = (l.drop a).take (b - a) := by
  unfold pickL
  rw [show (none : Option Int).getD 1 = 1 from rfl, StrLaws.strSliceIndices_plain hab hb]
  exact StrLaws.picks l (b - a) a (by omega)
theorem pick_to {α : Type} (l : List α) {b : Nat} (hb : b ≤ l.length) : pickL l none (some (b : Int)) none = l.take b := by
  have h := pick_plain l (Nat.zero_le b) hb
  have e : pickL l none (some (b : Int)) none = pickL l (some ((0 : Nat) : Int)) (some (b : Int)) none := by
    unfold pickL
    rw [show (none : Option Int).getD 1 = 1 from rfl, StrLaws.sliceIdx_none_lo]
    rfl
  rw [e, h]
  simp
noncomputable def Keeps (σ σ' : Sto) : Prop := ∀ (i : Nat) (c : Cell), σ[i]? = some c → σ'[i]? = some c
theorem Keeps.refl (σ : Sto) : Keeps σ σ := fun _ _ h => h
theorem Keeps.trans {σ σ' σ'' : Sto} (h : Keeps σ σ') (k : Keeps σ' σ'') : Keeps σ σ'' := fun i c e => k i c (h i c e)
theorem Keeps.app (σ t : Sto) : Keeps σ (σ ++ t) := fun i c e => by
  have h := (List.getElem?_eq_some_iff.mp e).1
  rw [List.getElem?_append_left h]; exact e
theorem bound_none : bound none = some none := rfl
theorem bound_int {i : Int} (h : intOk i = true) : bound (some (.int i)) = some (some i) := by rw [bound_i, if_pos h]
theorem intOk_of {i : Int} (h : i.natAbs ≤ 1000000000000) : intOk i = true := Nat.ble_eq_true_of_le h
theorem sizeOk_of {n : Nat} (h : n ≤ 1000000) : sizeOk n = true := Nat.ble_eq_true_of_le h
theorem no0 : ¬ (some (-1 : Int) = some 0) := by decide
theorem slc_revL {σ : Sto} {r : Nat} {xs : List AV} (h : σ[r]? = some (.list xs)) (hw : xs.length ≤ 1000) : slc (.ref r) none none (some (-1)) σ = some (.ref σ.length, σ ++ [.list xs.reverse]) := by
  show (if some (-1 : Int) = some 0 then none else bind1 (listAt σ r) fun xs => if sizeOk xs.length then some (AV.ref σ.length, σ ++ [Cell.list (pickL xs none none (some (-1)))]) else none) = _
  rw [if_neg no0, listAt_of h, bind1_some, if_pos (sizeOk_of (show xs.length ≤ 1000000 by omega)), pick_rev]
theorem ex_for {O : Oracle} {m : Loc} {t i : PySem.Expr} {b : List PySem.Stmt} {p : _} {σ σ1 : Sto} {src : AV} (h : ev O m i σ = some (src, σ1)) (hs : srcOk t src σ1 = true) :
    ex O m (.For t i b [] p) σ = forN (nextOf src) (fun v m σ => bind1 (bindT t v m) fun m' => exs O m' b σ) (fuelOf src σ1) 0 m σ1 := by
  show (bind2 (ev O m i σ) fun src σ1 => if srcOk t src σ1 then forN (nextOf src) (fun v m σ => bind1 (bindT t v m) fun m' => exs O m' b σ) (fuelOf src σ1) 0 m σ1 else none) = _
  rw [h, bind2_some, if_pos hs]
theorem forN_list {src : AV} {L : List AV} {body : AV → Loc → Sto → Option (AFlow × Loc × Sto)} {S : Type} {Inv : S → Nat → Loc → Sto → Prop} {f : S → AV → S}
    (hn : ∀ s i m σ, Inv s i m σ → nextOf src i σ = some L[i]?)
    (h : ∀ s i m σ (hi : i < L.length), Inv s i m σ → ∃ m' σ', body L[i] m σ = some (.next, m', σ') ∧ Inv (f s L[i]) (i + 1) m' σ') :
    ∀ (k i fuel : Nat) (s : S) (m : Loc) (σ : Sto), i + k = L.length → k < fuel → Inv s i m σ → ∃ m' σ', forN (nextOf src) body fuel i m σ = some (.next, m', σ') ∧ Inv ((L.drop i).foldl f s) L.length m' σ'
  | k, i, 0, s, m, σ, _, hf, _ => by omega
  | 0, i, fuel + 1, s, m, σ, hi, _, I => by
    have : i = L.length := by omega
    subst this
    refine ⟨m, σ, ?_, by simpa using I⟩
    simp [forN_eq, hn _ _ _ _ I]
  | k + 1, i, fuel + 1, s, m, σ, hi, hf, I => by
    have hlt : i < L.length := by omega
    obtain ⟨m', σ', e, I'⟩ := h s i m σ hlt I
    obtain ⟨m'', σ'', e2, I2⟩ := forN_list hn h k (i + 1) fuel (f s L[i]) m' σ' (by omega) (by omega) I'
    refine ⟨m'', σ'', ?_, ?_⟩
    · simp only [forN_eq, hn _ _ _ _ I, List.getElem?_eq_getElem hlt, e]
      exact e2
    · rw [List.drop_eq_getElem_cons hlt, List.foldl_cons]
      exact I2
noncomputable def rngL (a b : Nat) : List AV := (List.range (b - a)).map fun i => .int ((a + i : Nat) : Int)
theorem rngL_len (a b : Nat) : (rngL a b).length = b - a := by simp [rngL]
theorem rngL_get {a b i : Nat} (h : i < (rngL a b).length) : (rngL a b)[i] = .int ((a + i : Nat) : Int) := by simp [rngL]
theorem next_rng (a b i : Nat) (σ : Sto) : nextOf (.rng a b 1) i σ = some (rngL a b)[i]? := by
  simp only [nextOf_rng]
  by_cases h : a + i < b
  · rw [if_pos (by omega), List.getElem?_eq_getElem (by rw [rngL_len]; omega), rngL_get]
    rfl
  · rw [if_neg (by omega), List.getElem?_eq_none (by rw [rngL_len]; omega)]
theorem fuel_rng (a b : Nat) (σ : Sto) : fuelOf (.rng a b 1) σ = (rngL a b).length + 1 := by
  simp only [fuelOf, if_true, rngL_len]
  omega
theorem next_list {σ : Sto} {r : Nat} {xs : List AV} (h : σ[r]? = some (.list xs)) (i : Nat) : nextOf (.ref r) i σ = some xs[i]? := by
  show (bind1 (listAt σ r) fun xs => some xs[i]?) = _
  rw [listAt_of h, bind1_some]
theorem srcOk_list {t : PySem.Expr} {σ : Sto} {r : Nat} {xs : List AV} (h : σ[r]? = some (.list xs)) : srcOk t (.ref r) σ = true := by
  show (listAt σ r).isSome = true
  rw [listAt_of h]
  rfl
theorem fuel_list {σ : Sto} {r : Nat} {xs : List AV} (h : σ[r]? = some (.list xs)) : fuelOf (.ref r) σ = xs.length + 1 := by simp only [fuelOf, h]
theorem lookup_filter {P : Str → Bool} {m : Loc} {x : Str} (h : P x = true) : (m.filter fun p => P p.1).lookup x = m.lookup x := by
  induction m with
  | nil => rfl
  | cons p r ih =>
    obtain ⟨k, v⟩ := p
    simp only [List.filter_cons]
    by_cases hk : P k = true
    · simp only [hk, if_true, List.lookup, ih]
    · have hne : (x == k) = false := by
        rw [beq_eq_false_iff_ne]
        intro e; subst e; exact hk h
      simp only [hk, List.lookup, hne, if_false, Bool.false_eq_true]
      exact ih
theorem lookup_sees {scope : Scope} {m : Loc} {x : Str} (h : scope.names.lookup x = some .free) : (sees scope m).lookup x = m.lookup x :=
  lookup_filter (P := fun y => scope.names.lookup y == some .free) (by rw [h]; rfl)
theorem lookup_sees_none {scope : Scope} {m : Loc} {x : Str} (h : m.lookup x = none) : (sees scope m).lookup x = none := by
  unfold sees
  induction m with
  | nil => rfl
  | cons p r ih =>
    obtain ⟨k, v⟩ := p
    simp only [List.lookup] at h
    cases hk : x == k with
    | true => rw [hk] at h; cases h
    | false =>
      rw [hk] at h
      simp only [List.filter_cons]
      split
      · simp only [List.lookup, hk]; exact ih h
      · exact ih h
noncomputable def compF (O : Oracle) (m : Loc) (t : PySem.Expr) (ifs : List PySem.Expr) (elt : PySem.Expr) (scope : Scope) (v : AV) (σ2 : Sto) : Option (Option AV × Sto) :=
  bind1 (bindT t v (sees scope m)) fun m' => bind2 (trs O m' ifs σ2) fun c σ3 => if c then bind2 (ev O m' elt σ3) fun y σ4 => some (some y, σ4) else some (none, σ3)
theorem ev_comp {O : Oracle} {m : Loc} {elt t iter : PySem.Expr} {ifs : List PySem.Expr} {scope : Scope} {p : _} {σ σ1 σ2 : Sto} {src : AV} {ys : List AV}
    (h : ev O m iter σ = some (src, σ1)) (hs : srcOk t src σ1 = true) (hc : compN (nextOf src) (compF O m t ifs elt scope) (fuelOf src σ1) 0 [] σ1 = some (ys, σ2)) :
    ev O m (.ListComp elt [⟨t, iter, ifs, 0⟩] scope p) σ = some (.ref σ2.length, σ2 ++ [.list ys]) := by
  show (if (0 : Int) != 0 then none else bind2 (ev O m iter σ) fun src σ1 => if srcOk t src σ1 then bind2 (compN (nextOf src) (compF O m t ifs elt scope) (fuelOf src σ1) 0 [] σ1) fun ys σ2 => some (AV.ref σ2.length, σ2 ++ [Cell.list ys]) else none) = _
  rw [if_neg (by decide), h, bind2_some, if_pos hs, hc, bind2_some]
noncomputable def cIter : PySem.Expr → PySem.Expr
  | .ListComp _ [g] _ _ => g.iter
  | _ => .Constant .none 0 default
noncomputable def seg (w : List Nat) (a b : Nat) : List Nat := (w.drop a).take (b - a)
theorem slc_seg {a b : Nat} {i j : Int} (hi : i = a) (hj : j = b) (hab : a ≤ b) (hb : b ≤ w.length) (hw : w.length ≤ 1000) : slc (.str w) (some i) (some j) none σ = some (.str (seg w a b), σ) := by
  subst hi; subst hj
  simp only [slc_str', if_neg (show ¬ ((none : Option Int) = some 0) by decide), sizeOk_of (show w.length ≤ 1000000 by omega), if_true, pick_plain w hab hb, seg, if_true]
theorem compN_q {src : AV} {L : List AV} {elt : AV → Sto → Option (Option AV × Sto)} {Q : AV → Prop} {R : Sto → Prop}
    (hn : ∀ i σ, R σ → nextOf src i σ = some L[i]?) (hR : ∀ σ σ', R σ → Keeps σ σ' → R σ')
    (h : ∀ v, v ∈ L → ∀ σ, R σ → ∃ y σ', elt v σ = some (some y, σ') ∧ Keeps σ σ' ∧ Q y) (hl : L.length ≤ 1000) :
    ∀ (k i fuel : Nat) (acc : List AV) (σ : Sto), i + k = L.length → k < fuel → acc.length ≤ i → R σ → ∃ ys σ', compN (nextOf src) elt fuel i acc σ = some (acc ++ ys, σ') ∧ Keeps σ σ' ∧ ys.length = k ∧ ∀ y ∈ ys, Q y
  | k, i, 0, acc, σ, _, hf, _, _ => by omega
  | 0, i, fuel + 1, acc, σ, hi, _, _, I => by
    have : i = L.length := by omega
    subst this
    refine ⟨[], σ, ?_, Keeps.refl σ, rfl, by simp⟩
    simp [compN_eq, hn _ _ I]
  | k + 1, i, fuel + 1, acc, σ, hi, hf, ha, I => by
    have hlt : i < L.length := by omega
    obtain ⟨y, σ1, e, k1, q⟩ := h L[i] (List.getElem_mem hlt) σ I
    obtain ⟨ys, σ2, e2, k2, hy, hq⟩ := compN_q hn hR h hl k (i + 1) fuel (acc ++ [y]) σ1 (by omega) (by omega) (by simp; omega) (hR _ _ I k1)
    refine ⟨y :: ys, σ2, ?_, k1.trans k2, by simp [hy], fun z hz => ?_⟩
    · simp only [compN_eq, hn _ _ I, List.getElem?_eq_getElem hlt, e, sizeOk_of (show acc.length ≤ 1000000 by omega), if_true, if_true]
      rw [e2]
      simp
    · rcases List.mem_cons.mp hz with rfl | hz
      · exact q
      · exact hq z hz
theorem ev_comp_q {O : Oracle} {m : Loc} {elt t iter : PySem.Expr} {ifs : List PySem.Expr} {scope : Scope} {p : _} {σ σ1 : Sto} {src : AV} {L : List AV} {Q : AV → Prop} (R : Sto → Prop)
    (h : ev O m iter σ = some (src, σ1)) (hs : srcOk t src σ1 = true) (hn : ∀ i σ, R σ → nextOf src i σ = some L[i]?) (hf : fuelOf src σ1 = L.length + 1)
    (hR : ∀ σ σ', R σ → Keeps σ σ' → R σ') (he : ∀ v, v ∈ L → ∀ σ, R σ → ∃ y σ', compF O m t ifs elt scope v σ = some (some y, σ') ∧ Keeps σ σ' ∧ Q y) (hl : L.length ≤ 1000) (r1 : R σ1) :
    ∃ ys σ2, ev O m (.ListComp elt [⟨t, iter, ifs, 0⟩] scope p) σ = some (.ref σ2.length, σ2 ++ [.list ys]) ∧ Keeps σ1 σ2 ∧ ys.length = L.length ∧ ∀ y ∈ ys, Q y := by
  obtain ⟨ys, σ2, e, k, hy, hq⟩ := compN_q hn hR he hl L.length 0 (L.length + 1) [] σ1 (by omega) (by omega) (by simp) r1
  exact ⟨ys, σ2, ev_comp h hs (by rw [hf, e]; rfl), k, hy, hq⟩
theorem bif_sum : bifOf (Str.ofString "sum") = some .sum := by rfl
theorem bif_chr : bifOf (Str.ofString "chr") = some .chr := by rfl
noncomputable def IsInt (v : AV) : Prop := ∃ i, v = .int i
theorem intsOf_map : ∀ l : List Int, intsOf (l.map .int) = some l
  | [] => rfl
  | i :: l => by
    show (bind1 (intsOf (l.map .int)) fun is => some (i :: is)) = _
    rw [intsOf_map l]; rfl
theorem ints_of : ∀ {l : List AV}, (∀ v ∈ l, IsInt v) → ∃ is : List Int, l = is.map .int
  | [], _ => ⟨[], rfl⟩
  | v :: l, h => by
    obtain ⟨i, rfl⟩ := h v (by simp)
    obtain ⟨is, rfl⟩ := ints_of (l := l) (fun u hu => h u (by simp [hu]))
    exact ⟨i :: is, rfl⟩
theorem sum_call {r : Nat} {xs : List AV} (h : σ[r]? = some (.list xs)) (hx : ∀ v ∈ xs, IsInt v) : ∃ i, builtin O .sum [.ref r] σ = some (.int i, σ) := by
  obtain ⟨is, rfl⟩ := ints_of hx
  refine ⟨is.sum, ?_⟩
  show (bind1 (listAt σ r) fun xs => bind1 (intsOf xs) fun is => some (AV.int is.sum, σ)) = _
  rw [listAt_of h, bind1_some, intsOf_map, bind1_some]
theorem pick_mem {α : Type} {l : List α} {lo hi st : Option Int} {x : α} (h : x ∈ pickL l lo hi st) : x ∈ l := by
  obtain ⟨i, _, h2⟩ := List.mem_filterMap.mp h
  exact List.mem_of_getElem? h2
theorem pick_len {α : Type} (l : List α) (lo hi : Option Int) (st : Option Int) (hs : st.getD 1 ≠ 0) : (pickL l lo hi st).length ≤ l.length := by
  unfold pickL
  exact Nat.le_trans (List.length_filterMap_le ..) (sliceIndicesBy_le lo hi _ hs _)
theorem subs_list {r n : Nat} {xs : List AV} {i : Int} (hi : i = n) (h : σ[r]? = some (.list xs)) (hn : n < xs.length) (hx : xs.length ≤ 100000) : subs (.ref r) (.int i) σ = some xs[n] := by
  subst hi
  show (bind1 (getIx (n : Int)) fun n => bind1 (listAt σ r) fun xs => xs[n]?) = _
  rw [getIx_nat (show n ≤ 1000000 by omega), bind1_some, listAt_of h, bind1_some, List.getElem?_eq_getElem hn]
theorem rngL_mem {a b : Nat} {v : AV} (h : v ∈ rngL a b) : ∃ i, a ≤ i ∧ i < b ∧ v = .int (i : Nat) := by
  obtain ⟨i, h1, rfl⟩ := List.mem_map.mp h
  have := List.mem_range.mp h1
  exact ⟨a + i, by omega, by omega, rfl⟩
theorem slc_to {σ : Sto} {r n : Nat} {xs : List AV} {i : Int} (hi : i = n) (h : σ[r]? = some (.list xs)) (hn : n ≤ xs.length) (hx : xs.length ≤ 1000) : slc (.ref r) none (some i) none σ = some (.ref σ.length, σ ++ [.list (xs.take n)]) := by
  subst hi
  simp only [slc_ref, bind1_some, listAt, if_neg (show ¬ ((none : Option Int) = some 0) by decide), h, sizeOk_of (show xs.length ≤ 1000000 by omega), if_true, pick_to xs hn, bind1_some, listAt, if_true]
theorem asg {x : Str} {e : PySem.Expr} {p q : _} {v : AV} {σ' : Sto} (h : ev O m e σ = some (v, σ')) : ex O m (.Assign [.Name x p] e q) σ = some (.next, setL m x v, σ') := by
  rw [ex_assign, h, bind2_some]
theorem joinL_one (l : List Nat) : joinL [] (l.map fun c => [c]) = l := by
  induction l with
  | nil => rfl
  | cons c l ih =>
    cases l with
    | nil => rfl
    | cons d l =>
      show [c] ++ [] ++ joinL [] ([d] :: l.map fun c => [c]) = _
      have : joinL [] ([d] :: l.map fun c => [c]) = d :: l := ih
      rw [this]; rfl
theorem txts_one (l : List Nat) : txts (l.map fun c => AV.str [c]) = some (l.map fun c => [c]) := by
  induction l with
  | nil => rfl
  | cons c l ih =>
    show (bind1 (txts (l.map fun c => AV.str [c])) fun ls => some ([c] :: ls)) = _
    rw [ih]; rfl
theorem total_one (l : List Nat) : total (l.map fun c => [c]) = l.length := by
  induction l with
  | nil => rfl
  | cons c l ih =>
    simp only [total, List.map_cons, List.sum_cons, List.length_cons, List.length_nil] at *
    omega
theorem join_one {r : Nat} {l : List Nat} (h : σ[r]? = some (.list (l.map fun c => AV.str [c]))) (hl : l.length ≤ 1000) : methCall O .join (.str []) [.ref r] σ = some (.str l, σ) := by
  show (bind1 (listAt σ r) fun xs => bind1 (txts xs) fun ss => if sizeOk (total ss + 0 * ss.length) then some (AV.str (joinL [] ss), σ) else none) = _
  rw [listAt_of h, bind1_some, txts_one, bind1_some, total_one, Nat.zero_mul, Nat.add_zero, if_pos (sizeOk_of (show l.length ≤ 1000000 by omega)), joinL_one]
theorem chr_call {i : Int} {n : Nat} (hi : i = n) (h : n ≤ 1114111) : builtin O .chr [.int i] σ = some (.str [n], σ) := by
  subst hi
  have : chrIx (n : Int) = some n := by
    show (if Nat.ble n 1114111 then some n else none) = _
    rw [if_pos (Nat.ble_eq_true_of_le h)]
  show (bind1 (chrIx (n : Int)) fun n => some (AV.str [n], σ)) = _
  rw [this, bind1_some]
end
end Mine.L1
end

section
open PySem PySem.W PyProof.Rows
set_option maxRecDepth 100000
set_option linter.unusedSimpArgs false
set_option maxHeartbeats 1000000
namespace Mine.L1
variable {O : Oracle} {σ : Sto} {m : Loc} {w lead step own : List Nat} {b e c : Nat}

theorem pick_from {α : Type} (l : List α) {a : Nat} (ha : a ≤ l.length) : pickL l (some (a : Int)) none none = l.drop a := by
  have h := pick_plain l ha (Nat.le_refl l.length)
  have e : pickL l (some (a : Int)) none none = pickL l (some (a : Int)) (some (l.length : Int)) none := by
    unfold pickL
    rw [show (none : Option Int).getD 1 = 1 from rfl, StrLaws.sliceIdx_none_hi]
  rw [e, h, List.take_of_length_le (by rw [List.length_drop]; omega)]
theorem slc_from {i : Int} (hi : i = b) (hb : b ≤ w.length) (hw : w.length ≤ 1000) : slc (.str w) (some i) none none σ = some (.str (w.drop b), σ) := by
  subst hi
  simp only [slc_str', if_neg (show ¬ ((none : Option Int) = some 0) by decide), sizeOk_of (show w.length ≤ 1000000 by omega), if_true, pick_from w hb]
theorem nlStr : (Str.ofString "\n").cps.toList = [10] := by decide

noncomputable def dr (i : Nat) : PySem.Stmt := ((fnOf "_law_drawn").body[i]?).getD (.Pass default)
theorem dr_body : (fnOf "_law_drawn").body = [dr 0, dr 1, dr 2, dr 3, dr 4, dr 5, dr 6] := by kernel_rfl
theorem dr_pars : (fnOf "_law_drawn").params = [Str.ofString "word", Str.ofString "begin", Str.ofString "end", Str.ofString "lead", Str.ofString "step"] := by kernel_rfl

structure LDr (m : Loc) (w : List Nat) (b e : Nat) (lead step : List Nat) : Prop where
  word : m.lookup (Str.ofString "word") = some (.str w)
  begin_ : m.lookup (Str.ofString "begin") = some (.int b)
  end_ : m.lookup (Str.ofString "end") = some (.int e)
  lead : m.lookup (Str.ofString "lead") = some (.str lead)
  step : m.lookup (Str.ofString "step") = some (.str step)
  range : m.lookup (Str.ofString "range") = none
  self : m.lookup (Str.ofString "_law_drawn") = none
noncomputable def drNames : List Str := ["word", "begin", "end", "lead", "step", "range", "_law_drawn"]
theorem LDr.set {x : Str} {v : AV} (L : LDr m w b e lead step) (h : ∀ y ∈ drNames, y ≠ x) : LDr (setL m x v) w b e lead step := by
  have k : ∀ y ∈ drNames, (setL m x v).lookup y = m.lookup y := fun y hy => by rw [lookup_setL, if_neg (h y hy)]
  exact ⟨(k _ (by decide)).trans L.word, (k _ (by decide)).trans L.begin_, (k _ (by decide)).trans L.end_, (k _ (by decide)).trans L.lead, (k _ (by decide)).trans L.step, (k _ (by decide)).trans L.range, (k _ (by decide)).trans L.self⟩

theorem dr_0 (L : LDr m w b e lead step) (hb : b ≤ e) (he : e ≤ w.length) (hw : w.length ≤ 100) (hl : lead.length ≤ 1000) : ex O m (dr 0) σ = some (.next, setL m (Str.ofString "own") (.str (lead ++ (segP w b e ++ [10]))), σ) := by
  (have e0 : dr 0 = dr 0 := rfl; conv at e0 => rhs; whnf)
  rw [e0]
  simp only [ev_const, const_str, ev_name, ev_binop, ev_subSl, evOpt_none, evOpt_some, ex_assign, bind1_some, bind2_some]
  have hs : (seg w b e).length ≤ 100 := by rw [show seg w b e = segP w b e from rfl, seg_len hb he]; omega
  have s1 : sizeOk (lead.length + (seg w b e).length) = true := sizeOk_of (by omega)
  have s2 : sizeOk ((lead ++ seg w b e).length + [10].length) = true := sizeOk_of (by rw [List.length_append]; simp; omega)
  simp only [L.word, L.begin_, L.end_, L.lead, bind1_some, bind2_some, add_str', if_true, bound_none, bound_int (show intOk (b : Int) = true from intOk_of (by omega)), bound_int (show intOk (e : Int) = true from intOk_of (by omega)),
    slc_seg (σ := σ) (w := w) (show (b : Int) = (b : Nat) from rfl) (show (e : Int) = (e : Nat) from rfl) hb he (by omega), nlStr, s1, s2]
  rw [show (lead ++ seg w b e) ++ [10] = lead ++ (segP w b e ++ [10]) by rw [List.append_assoc]; rfl]
theorem dr_1t (L : LDr m w b e lead step) (h : e - b = 1) (ho : m.lookup (Str.ofString "own") = some (.str own)) : ex O m (dr 1) σ = some (.ret (.str own), m, σ) := by
  (have e0 : dr 1 = dr 1 := rfl; conv at e0 => rhs; whnf)
  rw [e0]
  simp only [tr_cmp, ev_const, const_int, ev_name, ev_binop, ev_cmp, isQ_const, isQ_bin, ex_return, ex_if, exs_nil, exs_more, bind1_some, bind2_some, cmp_eq, if_false, Bool.false_eq_true]
  simp only [L.begin_, L.end_, ho, bind1_some, bind2_some, byV_bool, sub_int', eqTop_int]
  rw [show ((e : Int) - (b : Int) == 1) = true by simp; omega]
  rfl
theorem dr_1f (L : LDr m w b e lead step) (hb : b + 2 ≤ e) : ex O m (dr 1) σ = some (.next, m, σ) := by
  (have e0 : dr 1 = dr 1 := rfl; conv at e0 => rhs; whnf)
  rw [e0]
  simp only [tr_cmp, ev_const, const_int, ev_name, ev_binop, ev_cmp, isQ_const, isQ_bin, ex_return, ex_if, exs_nil, exs_more, bind1_some, bind2_some, cmp_eq, if_false, Bool.false_eq_true]
  simp only [L.begin_, L.end_, bind1_some, bind2_some, byV_bool, sub_int', eqTop_int]
  rw [show ((e : Int) - (b : Int) == 1) = false by simp; omega]
  rfl
theorem dr_2 (L : LDr m w b e lead step) : ex O m (dr 2) σ = some (.next, setL m (Str.ofString "cut") (.int (b + 1 : Nat)), σ) := by
  (have e0 : dr 2 = dr 2 := rfl; conv at e0 => rhs; whnf)
  rw [e0]
  simp only [ev_const, const_int, ev_name, ev_binop, ex_assign, bind1_some, bind2_some]
  simp only [L.begin_, bind1_some, bind2_some, add_int']
  rfl

/-! loops over ranges -/
noncomputable def foldN {S : Type} (f : S → Nat → S) : Nat → Nat → S → S
  | 0, _, s => s
  | k + 1, j, s => foldN f k (j + 1) (f s j)
theorem foldN_s {S : Type} {f : S → Nat → S} {k j : Nat} {s : S} : foldN f (k + 1) j s = foldN f k (j + 1) (f s j) := rfl
theorem forN_rng {body : AV → Loc → Sto → Option (AFlow × Loc × Sto)} {S : Type} {Inv : S → Nat → Loc → Sto → Prop} {f : S → Nat → S} {a z : Nat}
    (h : ∀ s i m σ, a ≤ i → i < z → Inv s i m σ → ∃ m' σ', body (.int (i : Nat)) m σ = some (.next, m', σ') ∧ Inv (f s i) (i + 1) m' σ') :
    ∀ (k i fuel : Nat) (s : S) (m : Loc) (σ : Sto), a + i + k = z → k < fuel → Inv s (a + i) m σ → ∃ m' σ', forN (nextOf (.rng (a : Nat) (z : Nat) 1)) body fuel i m σ = some (.next, m', σ') ∧ Inv (foldN f k (a + i) s) z m' σ'
  | k, i, 0, s, m, σ, _, hf, _ => by omega
  | 0, i, fuel + 1, s, m, σ, hi, _, I => by
    have e : a + i = z := by omega
    refine ⟨m, σ, ?_, e ▸ I⟩
    rw [forN_eq, nextOf_rng, if_neg (by omega)]
  | k + 1, i, fuel + 1, s, m, σ, hi, hf, I => by
    obtain ⟨m', σ', e, I'⟩ := h s (a + i) m σ (by omega) (by omega) I
    obtain ⟨m'', σ'', e2, I2⟩ := forN_rng h k (i + 1) fuel (f s (a + i)) m' σ' (by omega) (by omega) I'
    refine ⟨m'', σ'', ?_, I2⟩
    rw [forN_eq, nextOf_rng, if_pos (by omega), show ((a : Int) + (i : Int)) = ((a + i : Nat) : Int) by omega]
    dsimp only
    rw [e]
    exact e2
theorem bif_range : bifOf (Str.ofString "range") = some .range := by rfl
theorem range2 {i j : Int} (h1 : intOk i = true) (h2 : intOk j = true) : builtin O .range [.int i, .int j] σ = some (.rng i j 1, σ) := by
  show (if (intOk i && intOk j) = true then _ else _) = _
  rw [h1, h2]; rfl
theorem dr_3i (L : LDr m w b e lead step) (hb : b ≤ e) (he : e ≤ 1000) : ev O m (forI (dr 3)) σ = some (.rng ((b + 2 : Nat) : Int) (e : Nat) 1, σ) := by
  (have e0 : forI (dr 3) = forI (dr 3) := rfl; conv at e0 => rhs; whnf)
  rw [e0]
  simp only [ev_const, const_int, ev_name, ev_binop, ev_callN, evs_nil, evs_cons, bind1_some, bind2_some]
  simp only [L.begin_, L.end_, L.range, bind1_some, bind2_some, add_int', if_false, Bool.false_eq_true, Option.isSome_none, Bool.false_eq_true, if_false, bif_range, range2 (O := O) (σ := σ) (show intOk ((b : Int) + 2) = true from intOk_of (by omega)) (show intOk (e : Int) = true from intOk_of (by omega))]
  rfl
theorem dr_3b (L : LDr m w b e lead step) {k : Nat} (hk : m.lookup (Str.ofString "k") = some (.int k)) (hc : m.lookup (Str.ofString "cut") = some (.int c)) (h1 : k ≤ w.length) (h2 : c ≤ w.length) (hw : w.length ≤ 100) :
    exs O m (forB (dr 3)) σ = some (.next, if ltL (w.drop k) (w.drop c) = true then setL m (Str.ofString "cut") (.int k) else m, σ) := by
  (have e0 : forB (dr 3) = forB (dr 3) := rfl; conv at e0 => rhs; whnf)
  rw [e0]
  simp only [tr_cmp, ev_name, ev_cmp, isQ_sub, ev_subSl, evOpt_none, evOpt_some, ex_assign, ex_if, exs_nil, exs_more, bind2_some, if_false, Bool.false_eq_true]
  simp only [L.word, hk, hc, bind1_some, bind2_some, byV_bool, cmp_lts, bound_none, bound_int (show intOk (k : Int) = true from intOk_of (by omega)), bound_int (show intOk (c : Int) = true from intOk_of (by omega)),
    slc_from (σ := σ) (w := w) (show (k : Int) = (k : Nat) from rfl) h1 (by omega), slc_from (σ := σ) (w := w) (show (c : Int) = (c : Nat) from rfl) h2 (by omega)]
  cases ltL (w.drop k) (w.drop c) <;> rfl
theorem fold_cut (w : List Nat) : ∀ (j k c : Nat), foldN (fun s i => if ltL (w.drop i) (w.drop s) = true then i else s) j k c = cutP w j k c
  | 0, _, _ => rfl
  | j + 1, k, c => by rw [foldN_s, cutP_s, fold_cut w j]
theorem dr_3 (L : LDr m w b e lead step) (hb : b + 2 ≤ e) (he : e ≤ w.length) (hw : w.length ≤ 100) (hc : m.lookup (Str.ofString "cut") = some (.int (b + 1 : Nat))) (ho : m.lookup (Str.ofString "own") = some (.str own)) :
    ∃ m', ex O m (dr 3) σ = some (.next, m', σ) ∧ LDr m' w b e lead step ∧ m'.lookup (Str.ofString "cut") = some (.int (cutOf w b e : Nat)) ∧ m'.lookup (Str.ofString "own") = some (.str own) := by
  have e0 : ∃ p q, dr 3 = .For (.Name "k" p) (forI (dr 3)) (forB (dr 3)) [] q := ⟨_, _, by rfl⟩
  obtain ⟨p, q, e0⟩ := e0
  have hs : srcOk (.Name "k" p) (.rng ((b + 2 : Nat) : Int) (e : Nat) 1) σ = true := by
    rw [srcOk_rng1, intOk_of (show ((b + 2 : Nat) : Int).natAbs ≤ _ by omega), intOk_of (show (e : Int).natAbs ≤ _ by omega)]; rfl
  rw [show ex O m (dr 3) σ = _ from congrArg (fun s => ex O m s σ) e0, ex_for (dr_3i L (by omega) (by omega)) hs, fuel_rng, rngL_len]
  obtain ⟨m', σ', e1, L', hc', ho', rfl, _⟩ := forN_rng (S := Nat) (a := b + 2) (z := e) (f := fun s i => if ltL (w.drop i) (w.drop s) = true then i else s) (body := fun v m σ => bind1 (bindT (.Name (Str.ofString "k") p) v m) fun m' => exs O m' (forB (dr 3)) σ)
    (Inv := fun c i m σ' => LDr m w b e lead step ∧ m.lookup (Str.ofString "cut") = some (.int (c : Nat)) ∧ m.lookup (Str.ofString "own") = some (.str own) ∧ σ' = σ ∧ c < i)
    (fun c i m σ' h1 h2 ⟨L, hc, ho, hσ, hlt⟩ => by
      rw [bindT_name, bind1_some]
      have L2 := L.set (x := Str.ofString "k") (v := .int (i : Nat)) (by decide)
      have k1 : (setL m (Str.ofString "k") (.int (i : Nat))).lookup (Str.ofString "cut") = some (.int (c : Nat)) := by rw [lookup_setL, if_neg (by decide)]; exact hc
      have k2 : (setL m (Str.ofString "k") (.int (i : Nat))).lookup (Str.ofString "own") = some (.str own) := by rw [lookup_setL, if_neg (by decide)]; exact ho
      have e2 := dr_3b (O := O) (σ := σ') L2 (k := i) (c := c) (by rw [lookup_setL, if_pos rfl]) k1 (by omega) (by omega) hw
      refine ⟨_, σ', e2, ?_⟩
      by_cases hlt2 : ltL (w.drop i) (w.drop c) = true
      · simp only [if_pos hlt2]
        exact ⟨L2.set (by decide), by rw [lookup_setL, if_pos rfl], by rw [lookup_setL, if_neg (by decide)]; exact k2, hσ, by omega⟩
      · simp only [if_neg hlt2]
        exact ⟨L2, k1, k2, hσ, by omega⟩)
    (e - (b + 2)) 0 (e - (b + 2) + 1) (b + 1) m σ (by omega) (by omega) ⟨L, hc, ho, rfl, by omega⟩
  refine ⟨m', e1, L', ?_, ho'⟩
  rw [hc', fold_cut]
  rfl
theorem bif_self : bifOf (Str.ofString "_law_drawn") = none := by rfl
theorem dr_4 (L : LDr m w b e lead step) {r : List Nat} (hc : m.lookup (Str.ofString "cut") = some (.int c)) (hl : lead.length + step.length ≤ 1000)
    (hO : O (Str.ofString "_law_drawn") [.str w, .int b, .int c, .str (lead ++ step), .str step] σ = some (.str r, σ)) : ex O m (dr 4) σ = some (.next, setL m (Str.ofString "former") (.str r), σ) := by
  (have e0 : dr 4 = dr 4 := rfl; conv at e0 => rhs; whnf)
  rw [e0]
  simp only [ev_name, ev_binop, ev_callN, evs_nil, evs_cons, ex_assign, bind2_some]
  simp only [L.word, L.begin_, L.lead, L.step, L.self, hc, bind1_some, bind2_some, add_str', if_true, if_false, Bool.false_eq_true, Option.isSome_none, Bool.false_eq_true, if_false, bif_self, sizeOk_of (show lead.length + step.length ≤ 1000000 by omega), hO]
theorem dr_5 (L : LDr m w b e lead step) {r : List Nat} (hc : m.lookup (Str.ofString "cut") = some (.int c)) (hl : lead.length + step.length ≤ 1000)
    (hO : O (Str.ofString "_law_drawn") [.str w, .int c, .int e, .str (lead ++ step), .str step] σ = some (.str r, σ)) : ex O m (dr 5) σ = some (.next, setL m (Str.ofString "latter") (.str r), σ) := by
  (have e0 : dr 5 = dr 5 := rfl; conv at e0 => rhs; whnf)
  rw [e0]
  simp only [ev_name, ev_binop, ev_callN, evs_nil, evs_cons, ex_assign, bind2_some]
  simp only [L.word, L.end_, L.lead, L.step, L.self, hc, bind1_some, bind2_some, add_str', if_true, if_false, Bool.false_eq_true, Option.isSome_none, Bool.false_eq_true, if_false, bif_self, sizeOk_of (show lead.length + step.length ≤ 1000000 by omega), hO]
theorem dr_6 {r1 r2 : List Nat} (ho : m.lookup (Str.ofString "own") = some (.str own)) (h1 : m.lookup (Str.ofString "former") = some (.str r1)) (h2 : m.lookup (Str.ofString "latter") = some (.str r2)) (hl : own.length + r1.length + r2.length ≤ 900000) :
    ex O m (dr 6) σ = some (.ret (.str (own ++ (r1 ++ (10 :: r2)))), m, σ) := by
  (have e0 : dr 6 = dr 6 := rfl; conv at e0 => rhs; whnf)
  rw [e0]
  simp only [ev_const, const_str, ev_name, ev_binop, ex_return, bind1_some, bind2_some]
  have s1 : sizeOk (own.length + r1.length) = true := sizeOk_of (by omega)
  have s2 : sizeOk ((own ++ r1).length + [10].length) = true := sizeOk_of (by rw [List.length_append]; simp; omega)
  have s3 : sizeOk ((own ++ r1 ++ [10]).length + r2.length) = true := sizeOk_of (by rw [List.length_append, List.length_append]; simp; omega)
  simp only [ho, h1, h2, bind1_some, bind2_some, add_str', if_true, nlStr, s1, s2, s3]
  simp
end Mine.L1
end

section
open PySem PySem.W PyProof.Rows
set_option maxRecDepth 100000
set_option linter.unusedSimpArgs false
set_option maxHeartbeats 1000000
namespace Mine.L1

theorem exs_cons {O : Oracle} {σ : Sto} (m : Loc) (s : PySem.Stmt) (r : List PySem.Stmt) : exs O m (s :: r) σ = match ex O m s σ with
    | some (.next, m', σ') => exs O m' r σ'
    | x => x := rfl
/-- the oracle at the text's primitives -/
noncomputable def prims : List Str := ["_indent", "#new", "#push", "#pop", "#part_count", "#len", "#str", "#split"]
structure OPr (O : Oracle) : Prop where
  p : ∀ f vs σ, f ∈ prims → O f vs σ = pr f vs σ
theorem opr (k : Nat) : OPr (calls pr fns k) := ⟨fun f vs σ h => by
  cases k with
  | zero => rfl
  | succ k =>
    have : fns f = none := by
      unfold fns
      rw [if_neg]
      simp only [prims, List.mem_cons, List.not_mem_nil, or_false] at h
      rcases h with rfl | rfl | rfl | rfl | rfl | rfl | rfl | rfl <;> decide
    show (match fns f with | some fn => _ | none => pr f vs σ) = _
    rw [this]⟩
theorem calls_fn {k : Nat} {f : Str} (h : f = "_law_drawn" ∨ f = "_law_blocks" ∨ f = "law") (vs : List AV) (σ : Sto) : calls pr fns (k + 1) f vs σ = callFn (calls pr fns k) (fnOf f) vs σ := by
  show (match fns f with | some fn => callFn (calls pr fns k) fn vs σ | none => pr f vs σ) = _
  have : fns f = some (fnOf f) := if_pos h
  rw [this]

theorem draw_len (w : List Nat) {wd : Nat} (hw : w.length ≤ 8) (hwd : wd ≤ 2) : ∀ (f b e n : Nat), b < e → e ≤ w.length → e - b ≤ f → n + 2 * f ≤ 100 → (drawP w wd f b e n).length + 110 ≤ 220 * (e - b)
  | 0, b, e, n, h, _, h2, _ => by omega
  | f + 1, b, e, n, h, he, h2, h3 => by
    have hr : (rowP w b e n).length = n + (e - b) + 1 := by
      rw [rowP, List.length_append, List.length_append, List.length_replicate, seg_len (by omega) he]
      rfl
    rw [drawP_s]
    by_cases q : e - b = 1
    · rw [if_pos q, hr]; omega
    · have hc := cut_bd w (b := b) (e := e) (by omega)
      have h4 := draw_len w hw hwd f b (cutOf w b e) (n + wd) hc.1 (by omega) (by omega) (by omega)
      have h5 := draw_len w hw hwd f (cutOf w b e) e (n + wd) hc.2 he (by omega) (by omega)
      rw [if_neg q, List.length_append, List.length_append, List.length_cons, hr]
      omega

theorem draw_run {w : List Nat} {wd : Nat} (hw : w.length ≤ 8) (hwd : wd ≤ 2) (σ : Sto) : ∀ (k b e n : Nat), b < e → e ≤ w.length → e - b ≤ k → n + 2 * k ≤ 100 →
    calls pr fns k (Str.ofString "_law_drawn") [.str w, .int b, .int e, .str (List.replicate n 32), .str (List.replicate wd 32)] σ = some (.str (drawP w wd k b e n), σ)
  | 0, b, e, n, h, _, h2, _ => by omega
  | k + 1, b, e, n, h, he, h2, h3 => by
    rw [calls_fn (.inl rfl), callFn_eq dr_pars dr_body rfl]
    generalize hm : [Str.ofString "word", Str.ofString "begin", Str.ofString "end", Str.ofString "lead", Str.ofString "step"].zip [AV.str w, .int b, .int e, .str (List.replicate n 32), .str (List.replicate wd 32)] = m
    have L : LDr m w b e (List.replicate n 32) (List.replicate wd 32) := by
      rw [← hm]
      exact ⟨rfl, rfl, rfl, rfl, rfl, rfl, rfl⟩
    have hl : (List.replicate n 32).length ≤ 1000 := by rw [List.length_replicate]; omega
    have hl2 : (List.replicate n 32).length + (List.replicate wd 32).length ≤ 1000 := by rw [List.length_replicate, List.length_replicate]; omega
    have e0 := dr_0 (O := calls pr fns k) (σ := σ) L (by omega) he (by omega) hl
    have L1 := L.set (x := Str.ofString "own") (v := .str (List.replicate n 32 ++ (segP w b e ++ [10]))) (by decide)
    have o1 : (setL m (Str.ofString "own") (.str (rowP w b e n))).lookup (Str.ofString "own") = some (.str (rowP w b e n)) := by rw [lookup_setL, if_pos rfl]
    rw [show List.replicate n 32 ++ (segP w b e ++ [10]) = rowP w b e n from rfl] at e0 L1
    generalize hm1 : setL m (Str.ofString "own") (.str (rowP w b e n)) = m1 at e0 L1 o1
    rw [exs_cons, e0]
    dsimp only
    rw [drawP_s]
    by_cases q : e - b = 1
    · rw [exs_cons, dr_1t L1 q o1, if_pos q]
      rfl
    · rw [exs_cons, dr_1f L1 (by omega), if_neg q]
      dsimp only
      have e2 := dr_2 (O := calls pr fns k) (σ := σ) L1
      have L2 := L1.set (x := Str.ofString "cut") (v := .int (b + 1 : Nat)) (by decide)
      have c2 : (setL m1 (Str.ofString "cut") (.int (b + 1 : Nat))).lookup (Str.ofString "cut") = some (.int (b + 1 : Nat)) := by rw [lookup_setL, if_pos rfl]
      have o2 : (setL m1 (Str.ofString "cut") (.int (b + 1 : Nat))).lookup (Str.ofString "own") = some (.str (rowP w b e n)) := by rw [lookup_setL, if_neg (by decide)]; exact o1
      rw [exs_cons, e2]
      dsimp only
      obtain ⟨m3, e3, L3, c3, o3⟩ := dr_3 (O := calls pr fns k) (σ := σ) L2 (by omega) he (by omega) c2 o2
      rw [exs_cons, e3]
      dsimp only
      have hc := cut_bd w (b := b) (e := e) (by omega)
      generalize cutOf w b e = c at hc c3
      have rr : List.replicate n 32 ++ List.replicate wd 32 = List.replicate (n + wd) 32 := List.replicate_append_replicate
      have r4 := draw_run hw hwd σ k b c (n + wd) hc.1 (by omega) (by omega) (by omega)
      have r5 := draw_run hw hwd σ k c e (n + wd) hc.2 he (by omega) (by omega)
      have l4 := draw_len w hw hwd k b c (n + wd) hc.1 (by omega) (by omega) (by omega)
      have l5 := draw_len w hw hwd k c e (n + wd) hc.2 he (by omega) (by omega)
      have e4 := dr_4 (O := calls pr fns k) (σ := σ) L3 c3 hl2 (by rw [rr]; exact r4)
      have L4 := L3.set (x := Str.ofString "former") (v := .str (drawP w wd k b c (n + wd))) (by decide)
      have c4 : (setL m3 (Str.ofString "former") (.str (drawP w wd k b c (n + wd)))).lookup (Str.ofString "cut") = some (.int c) := by rw [lookup_setL, if_neg (by decide)]; exact c3
      have o4 : (setL m3 (Str.ofString "former") (.str (drawP w wd k b c (n + wd)))).lookup (Str.ofString "own") = some (.str (rowP w b e n)) := by rw [lookup_setL, if_neg (by decide)]; exact o3
      have f4 : (setL m3 (Str.ofString "former") (.str (drawP w wd k b c (n + wd)))).lookup (Str.ofString "former") = some (.str (drawP w wd k b c (n + wd))) := by rw [lookup_setL, if_pos rfl]
      rw [exs_cons, e4]
      dsimp only
      generalize setL m3 (Str.ofString "former") (.str (drawP w wd k b c (n + wd))) = m4 at L4 c4 o4 f4
      have e5 := dr_5 (O := calls pr fns k) (σ := σ) L4 c4 hl2 (by rw [rr]; exact r5)
      have o5 : (setL m4 (Str.ofString "latter") (.str (drawP w wd k c e (n + wd)))).lookup (Str.ofString "own") = some (.str (rowP w b e n)) := by rw [lookup_setL, if_neg (by decide)]; exact o4
      have f5 : (setL m4 (Str.ofString "latter") (.str (drawP w wd k c e (n + wd)))).lookup (Str.ofString "former") = some (.str (drawP w wd k b c (n + wd))) := by rw [lookup_setL, if_neg (by decide)]; exact f4
      have g5 : (setL m4 (Str.ofString "latter") (.str (drawP w wd k c e (n + wd)))).lookup (Str.ofString "latter") = some (.str (drawP w wd k c e (n + wd))) := by rw [lookup_setL, if_pos rfl]
      rw [exs_cons, e5]
      dsimp only
      have lr : (rowP w b e n).length = n + (e - b) + 1 := by
        rw [rowP, List.length_append, List.length_append, List.length_replicate, seg_len (by omega) he]
        rfl
      rw [exs_cons, dr_6 o5 f5 g5 (by omega)]
      rfl
end Mine.L1
end

section
open PySem PySem.W PyProof.Rows
set_option maxRecDepth 100000
set_option linter.unusedSimpArgs false
set_option maxHeartbeats 1000000
namespace Mine.L1
variable {O : Oracle} {σ : Sto} {m : Loc} {w st : List Nat} {b e r wd : Nat} {xs : List AV}

noncomputable def bk (i : Nat) : PySem.Stmt := ((fnOf "_law_blocks").body[i]?).getD (.Pass default)
theorem bk_body : (fnOf "_law_blocks").body = [bk 0, bk 1, bk 2] := by kernel_rfl
theorem bk_pars : (fnOf "_law_blocks").params = [Str.ofString "word", Str.ofString "begin", Str.ofString "step"] := by kernel_rfl
noncomputable def bb (i : Nat) : PySem.Stmt := ((bOf (bk 1))[i]?).getD (.Pass default)
theorem bb_is : bOf (bk 1) = [bb 0, bb 1, bb 2, bb 3] := by kernel_rfl

structure LBk (m : Loc) (w : List Nat) (b : Nat) (st : List Nat) (r : Nat) : Prop where
  word : m.lookup (Str.ofString "word") = some (.str w)
  begin_ : m.lookup (Str.ofString "begin") = some (.int b)
  step : m.lookup (Str.ofString "step") = some (.str st)
  blocks : m.lookup (Str.ofString "blocks") = some (.ref r)
  len : m.lookup (Str.ofString "len") = none
  self : m.lookup (Str.ofString "_law_drawn") = none
noncomputable def bkNames : List Str := ["word", "begin", "step", "blocks", "len", "_law_drawn"]
theorem LBk.set {x : Str} {v : AV} (L : LBk m w b st r) (h : ∀ y ∈ bkNames, y ≠ x) : LBk (setL m x v) w b st r := by
  have k : ∀ y ∈ bkNames, (setL m x v).lookup y = m.lookup y := fun y hy => by rw [lookup_setL, if_neg (h y hy)]
  exact ⟨(k _ (by decide)).trans L.word, (k _ (by decide)).trans L.begin_, (k _ (by decide)).trans L.step, (k _ (by decide)).trans L.blocks, (k _ (by decide)).trans L.len, (k _ (by decide)).trans L.self⟩
theorem LBk.go {b' : Nat} (L : LBk m w b st r) : LBk (setL m (Str.ofString "begin") (.int b')) w b' st r := by
  have k : ∀ y, y ≠ Str.ofString "begin" → (setL m (Str.ofString "begin") (.int b')).lookup y = m.lookup y := fun y hy => by rw [lookup_setL, if_neg hy]
  exact ⟨(k _ (by decide)).trans L.word, by rw [lookup_setL, if_pos rfl], (k _ (by decide)).trans L.step, (k _ (by decide)).trans L.blocks, (k _ (by decide)).trans L.len, (k _ (by decide)).trans L.self⟩

theorem bk_t (L : LBk m w b st r) (hw : w.length ≤ 100) : tr O m (tOf (bk 1)) σ (ev O m (tOf (bk 1)) σ) = some (decide (b < w.length), σ) := by
  (have e : tOf (bk 1) = tOf (bk 1) := rfl; conv at e => rhs; whnf)
  rw [e]
  simp only [tr_cmp, ev_name, ev_cmp, isQ_name, isQ_call, evQ_call, ev_callN, evs_nil, evs_cons, qname, ofString_beq, String.reduceBEq, Bool.false_and, List.length_cons, List.length_nil, List.isEmpty_nil, Nat.reduceAdd, Nat.reduceBEq, bind2_some, if_false, Bool.false_eq_true]
  simp only [L.word, L.begin_, L.len, bind1_some, bind2_some, byV_bool, cmp_lt, if_false, Bool.false_eq_true, Option.isSome_none, Bool.false_eq_true, if_false, bif_len, len_str (O := O) (σ := σ) (show w.length ≤ 1000 by omega)]
  simp
theorem bb_0 (L : LBk m w b st r) : ex O m (bb 0) σ = some (.next, setL m (Str.ofString "end") (.int (b + 1 : Nat)), σ) := by
  (have e : bb 0 = bb 0 := rfl; conv at e => rhs; whnf)
  rw [e]
  simp only [ev_const, const_int, ev_name, ev_binop, ex_assign, bind1_some, bind2_some]
  simp only [L.begin_, bind1_some, bind2_some, add_int']
  rfl
theorem bb_1t (L : LBk m w b st r) (he : m.lookup (Str.ofString "end") = some (.int e)) (h : e ≤ w.length) (hb : b ≤ w.length) (hw : w.length ≤ 100) :
    tr O m (tOf (bb 1)) σ (ev O m (tOf (bb 1)) σ) = some (decide (e < w.length) && ltL (w.drop b) (w.drop e), σ) := by
  (have e0 : tOf (bb 1) = tOf (bb 1) := rfl; conv at e0 => rhs; whnf)
  rw [e0]
  simp only [tr_boolop, tr_cmp, trAll_nil, trAll_cons, ev_name, ev_boolop, ev_cmp, isQ_name, isQ_sub, isQ_call, evQ_call, ev_callN, ev_subSl, evs_nil, evs_cons, evOpt_none, evOpt_some, evBool_one, evBool_cons, qname, ofString_beq, String.reduceBEq, Bool.false_and, List.length_cons, List.length_nil, List.isEmpty_nil, Nat.reduceAdd, Nat.reduceBEq, bind2_some, stops_and, if_false, Bool.false_eq_true, Bool.not_false]
  simp only [L.word, L.begin_, L.len, he, bind1_some, bind2_some, byV_bool, cmp_lt, cmp_gts, if_false, Bool.false_eq_true, Option.isSome_none, Bool.false_eq_true, if_false, bif_len, len_str (O := O) (σ := σ) (show w.length ≤ 1000 by omega),
    bound_none, bound_int (show intOk (b : Int) = true from intOk_of (by omega)), bound_int (show intOk (e : Int) = true from intOk_of (by omega)),
    slc_from (σ := σ) (w := w) (show (b : Int) = (b : Nat) from rfl) hb (by omega), slc_from (σ := σ) (w := w) (show (e : Int) = (e : Nat) from rfl) h (by omega)]
  by_cases q : e < w.length
  · rw [show decide ((e : Int) < (w.length : Int)) = true by simp; exact q, show decide (e < w.length) = true by simp; exact q]
    cases ltL (w.drop b) (w.drop e) <;> rfl
  · rw [show decide ((e : Int) < (w.length : Int)) = false by simp; omega, show decide (e < w.length) = false by simp; omega]
    rfl
theorem bb_1b (he : m.lookup (Str.ofString "end") = some (.int e)) : exs O m (bOf (bb 1)) σ = some (.next, setL m (Str.ofString "end") (.int (e + 1 : Nat)), σ) := by
  (have e0 : bOf (bb 1) = bOf (bb 1) := rfl; conv at e0 => rhs; whnf)
  rw [e0]
  simp only [ev_const, const_int, ev_name, ev_binop, ex_assign, exs_nil, exs_more, bind1_some, bind2_some]
  simp only [he, bind1_some, bind2_some, add_int']
  rfl
theorem bb_1 (hw : w.length ≤ 100) : ∀ (j e fuel : Nat) (m : Loc), LBk m w b st r → m.lookup (Str.ofString "end") = some (.int e) → e + j = w.length → b < e → j < fuel →
    ∃ m', whileN (fun m σ => tr O m (tOf (bb 1)) σ (ev O m (tOf (bb 1)) σ)) (fun m σ => exs O m (bOf (bb 1)) σ) fuel m σ = some (.next, m', σ) ∧ LBk m' w b st r ∧ m'.lookup (Str.ofString "end") = some (.int (nextP w b j e))
  | j, e, 0, m, _, _, _, _, hf => by omega
  | 0, e, f + 1, m, L, he, h1, h2, hf => by
    refine ⟨m, ?_, L, he⟩
    rw [whileN_eq, bb_1t L he (by omega) (by omega) hw, show decide (e < w.length) = false by simp; omega]
    rfl
  | j + 1, e, f + 1, m, L, he, h1, h2, hf => by
    rw [whileN_eq, bb_1t L he (by omega) (by omega) hw, show decide (e < w.length) = true by simp; omega, Bool.true_and, nextP_s]
    cases q : ltL (w.drop b) (w.drop e) with
    | false => exact ⟨m, rfl, L, he⟩
    | true =>
      have L1 := L.set (x := Str.ofString "end") (v := .int (e + 1 : Nat)) (by decide)
      have k1 : (setL m (Str.ofString "end") (.int (e + 1 : Nat))).lookup (Str.ofString "end") = some (.int (e + 1 : Nat)) := by rw [lookup_setL, if_pos rfl]
      obtain ⟨m', e1, L', k'⟩ := bb_1 hw j (e + 1) f _ L1 k1 (by omega) (by omega) (by omega)
      refine ⟨m', ?_, L', k'⟩
      dsimp only
      rw [bb_1b he]
      exact e1
theorem bb_1w (hw : w.length ≤ 90) (L : LBk m w b st r) (he : m.lookup (Str.ofString "end") = some (.int (b + 1 : Nat))) (hb : b < w.length) :
    ∃ m', ex O m (bb 1) σ = some (.next, m', σ) ∧ LBk m' w b st r ∧ m'.lookup (Str.ofString "end") = some (.int (nextOfP w b)) := by
  have e0 : ∃ p, bb 1 = .While (tOf (bb 1)) (bOf (bb 1)) [] p := ⟨_, by rfl⟩
  obtain ⟨p, e0⟩ := e0
  obtain ⟨m', e1, r⟩ := bb_1 (O := O) (σ := σ) (by omega) (w.length - (b + 1)) (b + 1) 100 m L he (by omega) (by omega) (by omega)
  refine ⟨m', ?_, r⟩
  rw [show ex O m (bb 1) σ = _ from congrArg (fun s => ex O m s σ) e0]
  exact e1
theorem next_bd (w : List Nat) (b : Nat) : ∀ (j e : Nat), e ≤ nextP w b j e ∧ nextP w b j e ≤ e + j
  | 0, e => ⟨Nat.le_refl _, Nat.le_refl _⟩
  | j + 1, e => by
    rw [nextP_s]
    by_cases q : ltL (w.drop b) (w.drop e) = true
    · rw [if_pos q]
      have := next_bd w b j (e + 1)
      omega
    · rw [if_neg q]; omega
theorem nextOf_bd (w : List Nat) {b : Nat} (hb : b < w.length) : b < nextOfP w b ∧ nextOfP w b ≤ w.length := by
  have := next_bd w b (w.length - (b + 1)) (b + 1)
  unfold nextOfP
  omega
theorem append_call {v : AV} (h : σ[r]? = some (.list xs)) (hx : xs.length ≤ 1000) : methCall O .append (.ref r) [v] σ = some (.none, σ.set r (.list (xs ++ [v]))) := by
  show (bind1 (listAt σ r) fun xs => if sizeOk xs.length then some (AV.none, σ.set r (.list (xs ++ [v]))) else none) = _
  rw [listAt_of h, bind1_some, if_pos (sizeOk_of (by omega))]
theorem bb_2 (L : LBk m w b st r) (he : m.lookup (Str.ofString "end") = some (.int e)) {d : List Nat} (hO : O (Str.ofString "_law_drawn") [.str w, .int b, .int e, .str [], .str st] σ = some (.str d, σ)) (h : σ[r]? = some (.list xs)) (hx : xs.length ≤ 1000) :
    ex O m (bb 2) σ = some (.next, m, σ.set r (.list (xs ++ [.str d]))) := by
  (have e0 : bb 2 = bb 2 := rfl; conv at e0 => rhs; whnf)
  rw [e0]
  simp only [ev_const, const_str, ev_name, ev_callN, ev_callA, evs_nil, evs_cons, ex_expr, bind1_some, bind2_some]
  simp only [L.word, L.begin_, L.step, L.blocks, L.self, he, mth_append, recv_append, bind1_some, bind2_some, recv_append, listAt, Option.isSome_some, if_true, if_false, Bool.false_eq_true, h, Option.isSome_none, Bool.false_eq_true, if_false, if_true, bif_self, emptyStr, hO, append_call (O := O) (v := .str d) h hx]
theorem bb_3 (he : m.lookup (Str.ofString "end") = some (.int e)) : ex O m (bb 3) σ = some (.next, setL m (Str.ofString "begin") (.int e), σ) := by
  (have e0 : bb 3 = bb 3 := rfl; conv at e0 => rhs; whnf)
  rw [e0]
  simp only [ev_name, ex_assign]
  simp only [he, bind1_some, bind2_some]

theorem bk_1 (hw : w.length ≤ 90) (hO : ∀ σ b e, b < e → e ≤ w.length → O (Str.ofString "_law_drawn") [.str w, .int (b : Nat), .int (e : Nat), .str [], .str st] σ = some (.str (drawP w wd (e - b) b e 0), σ)) :
    ∀ (j b fuel : Nat) (m : Loc) (σ : Sto) (xs : List AV), LBk m w b st r → σ[r]? = some (.list xs) → w.length - b ≤ j → xs.length ≤ b → b ≤ w.length → j < fuel →
    ∃ m', whileN (fun m σ => tr O m (tOf (bk 1)) σ (ev O m (tOf (bk 1)) σ)) (fun m σ => exs O m (bOf (bk 1)) σ) fuel m σ = some (.next, m', σ.set r (.list (xs ++ (blocksP w wd j b).map .str))) ∧ m'.lookup (Str.ofString "blocks") = some (.ref r)
  | j, b, 0, m, σ, xs, _, _, _, _, _, hf => by omega
  | 0, b, f + 1, m, σ, xs, L, h, h1, h2, h3, hf => by
    refine ⟨m, ?_, L.blocks⟩
    rw [whileN_eq, bk_t L (by omega), show decide (b < w.length) = false by simp; omega]
    have : σ.set r (Cell.list (xs ++ (blocksP w wd 0 b).map AV.str)) = σ := by
      rw [show (blocksP w wd 0 b).map AV.str = [] from rfl, List.append_nil]
      obtain ⟨_, hg⟩ := List.getElem?_eq_some_iff.mp h
      rw [← hg]; simp
    rw [this]
  | j + 1, b, f + 1, m, σ, xs, L, h, h1, h2, h3, hf => by
    rw [whileN_eq, bk_t L (by omega), blocksP_s]
    by_cases q : b < w.length
    · rw [show decide (b < w.length) = true by simp; omega, if_pos q]
      dsimp only
      have L1 := L.set (x := Str.ofString "end") (v := .int (b + 1 : Nat)) (by decide)
      have k1 : (setL m (Str.ofString "end") (.int (b + 1 : Nat))).lookup (Str.ofString "end") = some (.int (b + 1 : Nat)) := by rw [lookup_setL, if_pos rfl]
      obtain ⟨m2, e2, L2, k2⟩ := bb_1w (O := O) (σ := σ) hw L1 k1 q
      have nb := nextOf_bd w q
      have e3 := bb_2 (O := O) (σ := σ) L2 k2 (hO σ b (nextOfP w b) nb.1 nb.2) h (by omega)
      have e4 := bb_3 (O := O) (σ := σ.set r (.list (xs ++ [.str (drawP w wd (nextOfP w b - b) b (nextOfP w b) 0)]))) k2
      have hr := (List.getElem?_eq_some_iff.mp h).1
      obtain ⟨m', e5, k5⟩ := bk_1 hw hO j (nextOfP w b) f (setL m2 (Str.ofString "begin") (.int (nextOfP w b))) (σ.set r (.list (xs ++ [.str (drawP w wd (nextOfP w b - b) b (nextOfP w b) 0)]))) (xs ++ [.str (drawP w wd (nextOfP w b - b) b (nextOfP w b) 0)]) L2.go (by simp [hr]) (by omega) (by simp; omega) nb.2 (by omega)
      refine ⟨m', ?_, k5⟩
      have eb : exs O m (bOf (bk 1)) σ = some (.next, setL m2 (Str.ofString "begin") (.int (nextOfP w b)), σ.set r (.list (xs ++ [.str (drawP w wd (nextOfP w b - b) b (nextOfP w b) 0)]))) := by
        rw [bb_is, exs_cons, bb_0 L]
        dsimp only
        rw [exs_cons, e2]
        dsimp only
        rw [exs_cons, e3]
        dsimp only
        rw [exs_cons, e4]
        rfl
      rw [eb]
      dsimp only
      rw [e5, List.set_set, List.append_assoc]
      rfl
    · refine ⟨m, ?_, L.blocks⟩
      rw [show decide (b < w.length) = false by simp; omega, if_neg q]
      have : σ.set r (Cell.list (xs ++ List.map AV.str [])) = σ := by
        rw [List.map_nil, List.append_nil]
        obtain ⟨_, hg⟩ := List.getElem?_eq_some_iff.mp h
        rw [← hg]; simp
      rw [this]
theorem ex_while {t : PySem.Expr} {b : List PySem.Stmt} {p : Pos} : ex O m (.While t b [] p) σ = whileN (fun m σ => tr O m t σ (ev O m t σ)) (fun m σ => exs O m b σ) 100 m σ := rfl
theorem bk_0 : ex O m (bk 0) σ = some (.next, setL m (Str.ofString "blocks") (.ref σ.length), σ ++ [.list []]) := by
  (have e0 : bk 0 = bk 0 := rfl; conv at e0 => rhs; whnf)
  rw [e0]
  simp only [ev_list, evs_nil, ex_assign, List.length_nil, bind2_some]
  rfl
theorem bk_2 (h : m.lookup (Str.ofString "blocks") = some (.ref r)) : ex O m (bk 2) σ = some (.ret (.ref r), m, σ) := by
  (have e0 : bk 2 = bk 2 := rfl; conv at e0 => rhs; whnf)
  rw [e0]
  simp only [ev_name, ex_return]
  simp only [h, bind1_some, bind2_some]
theorem blocks_run {w : List Nat} {wd k b : Nat} (hw : w.length ≤ 8) (hwd : wd ≤ 2) (hk : w.length ≤ k) (hk2 : k ≤ 40) (hb : b ≤ w.length) (σ : Sto) :
    calls pr fns (k + 1) (Str.ofString "_law_blocks") [.str w, .int b, .str (List.replicate wd 32)] σ = some (.ref σ.length, σ ++ [.list ((blocksP w wd (w.length - b) b).map .str)]) := by
  rw [calls_fn (.inr (.inl rfl)), callFn_eq bk_pars bk_body rfl]
  have hO : ∀ σ b e, b < e → e ≤ w.length → calls pr fns k (Str.ofString "_law_drawn") [.str w, .int (b : Nat), .int (e : Nat), .str [], .str (List.replicate wd 32)] σ = some (.str (drawP w wd (e - b) b e 0), σ) := fun σ b e h1 h2 => by
    have := draw_run hw hwd σ k b e 0 h1 h2 (by omega) (by omega)
    rw [draw_fuel w wd k (e - b) b e 0 h1 (by omega) (Nat.le_refl _)] at this
    exact this
  generalize hm : [Str.ofString "word", Str.ofString "begin", Str.ofString "step"].zip [AV.str w, .int b, .str (List.replicate wd 32)] = m
  have L : LBk (setL m (Str.ofString "blocks") (.ref σ.length)) w b (List.replicate wd 32) σ.length := by
    rw [← hm]
    exact ⟨rfl, rfl, rfl, rfl, rfl, rfl⟩
  rw [exs_cons, bk_0]
  dsimp only
  obtain ⟨m', e1, k1⟩ := bk_1 (O := calls pr fns k) (by omega) hO (w.length - b) b 100 _ (σ ++ [.list []]) [] L (by simp) (Nat.le_refl _) (by simp) hb (by omega)
  have e0 : ∃ p, bk 1 = .While (tOf (bk 1)) (bOf (bk 1)) [] p := ⟨_, by rfl⟩
  obtain ⟨p, e0⟩ := e0
  have ew : ex (calls pr fns k) (setL m (Str.ofString "blocks") (.ref σ.length)) (bk 1) (σ ++ [.list []]) = _ := (congrArg (fun s => ex (calls pr fns k) (setL m (Str.ofString "blocks") (.ref σ.length)) s (σ ++ [.list []])) e0).trans (ex_while.trans e1)
  rw [exs_cons, ew]
  dsimp only
  rw [exs_cons, bk_2 k1]
  show some (AV.ref σ.length, _) = _
  rw [List.nil_append, List.set_append_right _ _ (Nat.le_refl _), Nat.sub_self]
  rfl
end Mine.L1
end

section
open PySem PySem.W PyProof.Rows
set_option maxRecDepth 100000
set_option linter.unusedSimpArgs false
set_option maxHeartbeats 1000000
namespace Mine.L1
variable {O : Oracle} {σ : Sto} {m : Loc}

noncomputable def lq (i : Nat) : PySem.Stmt := ((fnOf "law").body[i]?).getD (.Pass default)
noncomputable def c1 : PySem.Expr := asgE (lq 1)
noncomputable def c1i : PySem.Expr := arg0 (binR (cElt c1))
theorem law_body : (fnOf "law").body = [lq 0, lq 1, lq 2, lq 3, lq 4, lq 5, lq 6, lq 7, lq 8, lq 9, lq 10, lq 11, lq 12, lq 13] := by kernel_rfl
theorem law_pars : (fnOf "law").params = [Str.ofString "script"] := by kernel_rfl
theorem range1 {n : Nat} (h : n ≤ 1000) : builtin O .range [.int (n : Nat)] σ = some (.rng ((0 : Nat) : Int) ((n : Nat) : Int) 1, σ) := by
  show (if intOk (n : Int) then some (AV.rng 0 (n : Int) 1, σ) else none) = _
  rw [if_pos (intOk_of (by omega))]
  rfl

theorem c1_inner {vs : List AV} {k : Nat} (hs : m.lookup (Str.ofString "script") = some (.frz vs)) (hk : m.lookup (Str.ofString "k") = some (.int k)) (hk2 : k ≤ 1000) (hv : ∀ v ∈ vs, IsInt v) (hl : vs.length ≤ 63) :
    ∃ ys σ2, ev O m c1i σ = some (.ref σ2.length, σ2 ++ [.list ys]) ∧ Keeps σ σ2 ∧ ∀ y ∈ ys, IsInt y := by
  have e : ∃ p q s, c1i = .ListComp (cElt c1i) [⟨.Name "x" p, cIter c1i, [], 0⟩] s q := ⟨_, _, _, by rfl⟩
  obtain ⟨p, q, s, e⟩ := e
  have hi : ev O m (cIter c1i) σ = some (.ref σ.length, σ ++ [.list (pickL vs (some k) (some 60) (some 10))]) := by
    (have e : cIter c1i = cIter c1i := rfl; conv at e => rhs; whnf)
    rw [e]
    simp only [ev_const, const_int, ev_name, ev_subSl, evOpt_some, bind1_some, bind2_some]
    simp only [hs, hk, bind1_some, bind2_some, if_true, bound_int (show intOk (k : Int) = true from intOk_of (by omega)), bound_int (show intOk 60 = true from rfl), bound_int (show intOk 10 = true from rfl), slc_frz,
      if_neg (show ¬ (some (10 : Int) = some 0) by decide), sizeOk_of (show vs.length ≤ 1000000 by omega), if_true]
  have hL := pick_len vs (some (k : Int)) (some 60) (some 10) (by decide)
  generalize hP : pickL vs (some (k : Int)) (some 60) (some 10) = L at hi hL
  have hLi : ∀ v ∈ L, IsInt v := fun v h => hv v (pick_mem (hP ▸ h))
  have hnew : (σ ++ [Cell.list L])[σ.length]? = some (.list L) := by simp
  rw [show ev O m c1i σ = _ from congrArg (fun s => ev O m s σ) e]
  obtain ⟨ys, σ2, r1, r2, r3, r4⟩ := ev_comp_q (O := O) (elt := cElt c1i) (ifs := []) (scope := s) (t := .Name "x" p) (p := q) (Q := IsInt) (fun σ' => σ'[σ.length]? = some (.list L)) hi (srcOk_list hnew)
    (fun i σ' h => next_list h i) (fuel_list hnew) (fun σ' σ'' h k => k _ _ h) (fun v hv σ' _ => by
      obtain ⟨i, rfl⟩ := hLi v hv
      refine ⟨.int (i % 1000000), σ', ?_, Keeps.refl _, _, rfl⟩
      unfold compF
      (have e2 : cElt c1i = cElt c1i := rfl; conv at e2 => rhs; whnf)
      rw [e2]
      simp only [trs_nil, ev_const, const_int, ev_name, ev_binop, bindT_name, bind1_some, bind2_some, if_true]
      simp [lookup_setL, bind1_some, bind2_some, mod_int2]) (by omega) hnew
  exact ⟨ys, σ2, r1, (Keeps.app _ _).trans r2, r4⟩

theorem cells_ok {vs st : List AV} {rs : Nat} (hs : m.lookup (Str.ofString "script") = some (.frz vs)) (hst : m.lookup (Str.ofString "start") = some (.ref rs)) (hsum : m.lookup (Str.ofString "sum") = none) (hrng : m.lookup (Str.ofString "range") = none)
    (hr : σ[rs]? = some (.list st)) (hv : ∀ v ∈ vs, IsInt v) (hl : vs.length ≤ 63) (hi : ∀ v ∈ st, IsInt v) (hsl : st.length = 10) :
    ∃ ys σ2, ev O m c1 σ = some (.ref σ2.length, σ2 ++ [.list ys]) ∧ Keeps σ σ2 ∧ ys.length = 10 ∧ ∀ y ∈ ys, IsInt y := by
  have e : ∃ p q s, c1 = .ListComp (cElt c1) [⟨.Name "k" p, cIter c1, [], 0⟩] s q ∧ s.names.lookup (Str.ofString "start") = some .free ∧ s.names.lookup (Str.ofString "script") = some .free := ⟨_, _, _, by rfl, by kernel_rfl, by kernel_rfl⟩
  obtain ⟨p, q, s, e, f1, f2⟩ := e
  have hit : ev O m (cIter c1) σ = some (.rng ((0 : Nat) : Int) ((10 : Nat) : Int) 1, σ) := by
    (have e : cIter c1 = cIter c1 := rfl; conv at e => rhs; whnf)
    rw [e]
    simp only [ev_const, const_int, ev_callN, evs_nil, evs_cons, bind1_some, bind2_some]
    simp only [hrng, Option.isSome_none, Bool.false_eq_true, if_false, bif_range, if_false, Bool.false_eq_true]
    exact range1 (n := 10) (by omega)
  rw [show ev O m c1 σ = _ from congrArg (fun s => ev O m s σ) e]
  obtain ⟨ys, σ2, r1, r2, r3, r4⟩ := ev_comp_q (O := O) (elt := cElt c1) (ifs := []) (scope := s) (t := .Name "k" p) (p := q) (L := rngL 0 10) (Q := IsInt) (fun σ' => σ'[rs]? = some (.list st)) hit rfl
    (fun i σ' h => next_rng 0 10 i σ') (fuel_rng 0 10 σ) (fun σ' σ'' h k => k _ _ h) (fun v hv' σ' hR => by
      obtain ⟨i, _, h2, rfl⟩ := rngL_mem hv'
      generalize hm : setL (sees s m) (Str.ofString "k") (.int (i : Nat)) = m'
      have k1 : m'.lookup (Str.ofString "script") = some (.frz vs) := by rw [← hm, lookup_setL, if_neg (by decide), lookup_sees f2]; exact hs
      have k2 : m'.lookup (Str.ofString "start") = some (.ref rs) := by rw [← hm, lookup_setL, if_neg (by decide), lookup_sees f1]; exact hst
      have k3 : m'.lookup (Str.ofString "k") = some (.int (i : Nat)) := by rw [← hm, lookup_setL, if_pos rfl]
      have k4 : m'.lookup (Str.ofString "sum") = none := by rw [← hm, lookup_setL, if_neg (by decide)]; exact lookup_sees_none hsum
      obtain ⟨ys, σ2, e1, e2, e3⟩ := c1_inner (O := O) (σ := σ') k1 k3 (by omega) hv hl
      obtain ⟨j, hj⟩ := hi st[i] (List.getElem_mem (by omega))
      obtain ⟨z, hz⟩ := sum_call (O := O) (σ := σ2 ++ [.list ys]) (r := σ2.length) (by simp) e3
      refine ⟨.int (j + z), σ2 ++ [.list ys], ?_, e2.trans (Keeps.app _ _), _, rfl⟩
      unfold compF
      simp only [bindT_name, bind1_some, hm, trs_nil, bind2_some, if_true]
      have e4 : ∃ p1 p2 p3 p4 p5 p6, cElt c1 = .BinOp (.Subscript (.Name "start" p1) (.Name "k" p2) p3) .Add (.Call (.Name "sum" p4) [c1i] [] p5) p6 := ⟨_, _, _, _, _, _, by rfl⟩
      obtain ⟨p1, p2, p3, p4, p5, p6, e4⟩ := e4
      rw [e4]
      simp only [ev_binop, ev_subN, ev_name, ev_callN, evs_cons, evs_nil, k2, k3, k4, bind1_some, bind2_some, add_int', if_false, Bool.false_eq_true, Option.isSome_none, Bool.false_eq_true, if_false, e1, bif_sum, hz, subs_list (σ := σ') (show ((i : Nat) : Int) = (i : Nat) from rfl) hR (by omega) (by omega), hj]) (by rw [rngL_len]; omega) hr
  exact ⟨ys, σ2, r1, r2, by rw [r3, rngL_len], r4⟩

theorem law_0 {v : AV} : ∃ st, ex O [("script", v)] (lq 0) σ = some (.next, ([("script", v), ("start", .ref σ.length)] : Loc), σ ++ [.list st]) ∧ st.length = 10 ∧ ∀ y ∈ st, IsInt y := by
  refine ⟨[0, 1, 0, 3, 1, 0, 2, 64, 65, 66].map .int, ?_, rfl, fun y hy => ?_⟩
  · (have e : lq 0 = lq 0 := rfl; conv at e => rhs; whnf)
    rw [e]
    simp only [ev_const, const_int, ev_list, evs_nil, evs_cons, ex_assign, setL, ofString_eq, String.reduceEq, List.length_cons, List.length_nil, Nat.reduceAdd, bind1_some, bind2_some, if_false]
    rfl
  · obtain ⟨i, _, rfl⟩ := List.mem_map.mp hy
    exact ⟨i, rfl⟩
theorem law_1 {vs st : List AV} {rs : Nat} (hs : m.lookup (Str.ofString "script") = some (.frz vs)) (hst : m.lookup (Str.ofString "start") = some (.ref rs)) (hsum : m.lookup (Str.ofString "sum") = none) (hrng : m.lookup (Str.ofString "range") = none)
    (hr : σ[rs]? = some (.list st)) (hv : ∀ v ∈ vs, IsInt v) (hl : vs.length ≤ 63) (hi : ∀ v ∈ st, IsInt v) (hsl : st.length = 10) :
    ∃ ys r σ2, ex O m (lq 1) σ = some (.next, setL m "cells" (.ref r), σ2) ∧ Keeps σ σ2 ∧ σ2[r]? = some (.list ys) ∧ ys.length = 10 ∧ ∀ y ∈ ys, IsInt y := by
  obtain ⟨ys, σ2, e1, e2, e3, e4⟩ := cells_ok (O := O) (σ := σ) hs hst hsum hrng hr hv hl hi hsl
  have e : ∃ p q, lq 1 = .Assign [.Name "cells" p] c1 q := ⟨_, _, by rfl⟩
  obtain ⟨p, q, e⟩ := e
  refine ⟨ys, σ2.length, σ2 ++ [.list ys], ?_, e2.trans (Keeps.app _ _), by simp, e3, e4⟩
  rw [e]
  exact asg e1
theorem law_2 {cs : List AV} {r : Nat} (hc : m.lookup (Str.ofString "cells") = some (.ref r)) (hsum : m.lookup (Str.ofString "sum") = none) (hr : σ[r]? = some (.list cs)) (hl : cs.length = 10) (hi : ∀ y ∈ cs, IsInt y) :
    ∃ t σ2, ex O m (lq 2) σ = some (.next, setL m "total" (.int t), σ2) ∧ Keeps σ σ2 := by
  obtain ⟨z, hz⟩ := sum_call (O := O) (σ := σ ++ [.list (cs.take 7)]) (r := σ.length) (xs := cs.take 7) (by simp) (fun v hv => hi v (List.mem_of_mem_take hv))
  refine ⟨z, _, ?_, Keeps.app σ [.list (cs.take 7)]⟩
  (have e : lq 2 = lq 2 := rfl; conv at e => rhs; whnf)
  rw [e]
  simp only [ev_const, const_int, ev_name, ev_callN, ev_subSl, evs_nil, evs_cons, evOpt_none, evOpt_some, ex_assign, bind1_some, bind2_some]
  simp only [hc, hsum, bind1_some, bind2_some, if_false, Bool.false_eq_true, Option.isSome_none, Bool.false_eq_true, if_false, bif_sum, bound_none, bound_int (show intOk 7 = true from rfl), slc_to (σ := σ) (show (7 : Int) = (7 : Nat) from rfl) hr (by omega) (by omega), hz]

theorem slc_fromL {r n : Nat} {xs : List AV} {i : Int} (hi : i = n) (h : σ[r]? = some (.list xs)) (hn : n ≤ xs.length) (hx : xs.length ≤ 1000) : slc (.ref r) (some i) none none σ = some (.ref σ.length, σ ++ [.list (xs.drop n)]) := by
  subst hi
  simp only [slc_ref, bind1_some, listAt, if_neg (show ¬ ((none : Option Int) = some 0) by decide), h, sizeOk_of (show xs.length ≤ 1000000 by omega), if_true, pick_from xs hn, bind1_some, listAt, if_true]
noncomputable def c3 : PySem.Expr := asgE (lq 3)
noncomputable def IsSign (v : AV) : Prop := ∃ c : Nat, 33 ≤ c ∧ c < 55033 ∧ v = .str [c]
theorem law_3 {cs : List AV} {r : Nat} (hc : m.lookup (Str.ofString "cells") = some (.ref r)) (hch : m.lookup (Str.ofString "chr") = none) (hr : σ[r]? = some (.list cs)) (hl : cs.length = 10) (hi : ∀ y ∈ cs, IsInt y) :
    ∃ ys r2 σ2, ex O m (lq 3) σ = some (.next, setL m "signs" (.ref r2), σ2) ∧ Keeps σ σ2 ∧ σ2[r2]? = some (.list ys) ∧ ys.length = 3 ∧ ∀ y ∈ ys, IsSign y := by
  have e : ∃ p q s, c3 = .ListComp (cElt c3) [⟨.Name "x" p, cIter c3, [], 0⟩] s q := ⟨_, _, _, by rfl⟩
  obtain ⟨p, q, s, e⟩ := e
  have hit : ev O m (cIter c3) σ = some (.ref σ.length, σ ++ [.list (cs.drop 7)]) := by
    (have e : cIter c3 = cIter c3 := rfl; conv at e => rhs; whnf)
    rw [e]
    simp only [ev_const, const_int, ev_name, ev_subSl, evOpt_none, evOpt_some, bind1_some, bind2_some]
    simp only [hc, bind1_some, bind2_some, bound_none, bound_int (show intOk 7 = true from rfl), slc_fromL (σ := σ) (show (7 : Int) = (7 : Nat) from rfl) hr (by omega) (by omega)]
  have hnew : (σ ++ [Cell.list (cs.drop 7)])[σ.length]? = some (.list (cs.drop 7)) := by simp
  obtain ⟨ys, σ2, r1, r2, r3, r4⟩ := ev_comp_q (O := O) (elt := cElt c3) (ifs := []) (scope := s) (t := .Name "x" p) (p := q) (Q := IsSign) (fun σ' => σ'[σ.length]? = some (.list (cs.drop 7))) hit (srcOk_list hnew)
    (fun i σ' h => next_list h i) (fuel_list hnew) (fun σ' σ'' h k => k _ _ h) (fun v hv σ' hR => by
      obtain ⟨i, rfl⟩ := hi v (List.mem_of_mem_drop hv)
      refine ⟨.str [33 + (i % 55000).toNat], σ', ?_, Keeps.refl _, 33 + (i % 55000).toNat, by omega, by omega, rfl⟩
      have k1 : (setL (sees s m) (Str.ofString "x") (.int i)).lookup (Str.ofString "chr") = none := by rw [lookup_setL, if_neg (by decide)]; exact lookup_sees_none hch
      have k2 : (setL (sees s m) (Str.ofString "x") (.int i)).lookup (Str.ofString "x") = some (.int i) := by rw [lookup_setL, if_pos rfl]
      generalize hm : setL (sees s m) (Str.ofString "x") (.int i) = m' at k1 k2
      unfold compF
      simp only [bindT_name, bind1_some, hm, trs_nil, bind2_some, if_true]
      (have e2 : cElt c3 = cElt c3 := rfl; conv at e2 => rhs; whnf)
      rw [e2]
      simp only [ev_const, const_int, ev_name, ev_binop, ev_callN, evs_nil, evs_cons, bind1_some, bind2_some]
      simp only [k1, k2, bind1_some, bind2_some, add_int', mod_int2, if_true, if_false, Bool.false_eq_true, show ((0 : Int) < 55000) = True by simp, if_true, Option.isSome_none, Bool.false_eq_true, if_false, bif_chr, chr_call (O := O) (σ := σ') (n := 33 + (i % 55000).toNat) (show (33 : Int) + i % 55000 = ((33 + (i % 55000).toNat : Nat) : Int) by omega) (by omega)])
    (by simp; omega) hnew
  have e' : ∃ p q, lq 3 = .Assign [.Name "signs" p] c3 q := ⟨_, _, by rfl⟩
  obtain ⟨p', q', e'⟩ := e'
  refine ⟨ys, σ2.length, σ2 ++ [.list ys], ?_, (Keeps.app _ _).trans (r2.trans (Keeps.app _ _)), by simp, by rw [r3]; simp; omega, r4⟩
  rw [e']
  refine asg ?_
  rw [show ev O m c3 σ = _ from congrArg (fun s => ev O m s σ) e]
  exact r1
theorem signsAre : ∀ {l : List AV}, (∀ v ∈ l, IsSign v) → ∃ cs : List Nat, l = cs.map (fun (c : Nat) => AV.str [c]) ∧ ∀ c ∈ cs, 33 ≤ c ∧ c < 55033
  | [], _ => ⟨[], rfl, by simp⟩
  | v :: l, h => by
    obtain ⟨i, h1, h2, rfl⟩ := h v (by simp)
    obtain ⟨is, rfl, h3⟩ := signsAre (l := l) (fun u hu => h u (by simp [hu]))
    exact ⟨i :: is, rfl, fun c hc => (List.mem_cons.mp hc).elim (fun e => e ▸ ⟨h1, h2⟩) (h3 c)⟩
noncomputable def c4 : PySem.Expr := arg0 (asgE (lq 4))
theorem asg_join {x : Str} {p1 p2 p3 p4 p5 k : _} {c : PySem.Expr} {σ2 : Sto} {l : List Nat} (h : ev O m c σ = some (.ref σ2.length, σ2 ++ [.list (l.map fun c => AV.str [c])])) (hl : l.length ≤ 1000) :
    ex O m (.Assign [.Name x p1] (.Call (.Attribute (.Constant (.str "") k p2) "join" p3) [c] [] p4) p5) σ = some (.next, setL m x (.str l), σ2 ++ [.list (l.map fun c => AV.str [c])]) := by
  refine asg ?_
  simp only [ev_callA, ev_const, const_str, evs_cons, evs_nil, mth_join, emptyStr, bind1_some, bind2_some, recv_join, if_true, if_true, h, join_one (σ := σ2 ++ [Cell.list (l.map fun c => AV.str [c])]) (r := σ2.length) (l := l) (by simp) hl]
theorem law_4 {cs ss : List AV} {r s : Nat} {t : Int} (hc : m.lookup (Str.ofString "cells") = some (.ref r)) (hs : m.lookup (Str.ofString "signs") = some (.ref s)) (ht : m.lookup (Str.ofString "total") = some (.int t)) (hr : σ[r]? = some (.list cs)) (hl : cs.length = 10) (hi : ∀ y ∈ cs, IsInt y)
    (hrs : σ[s]? = some (.list ss)) (hls : ss.length = 3) (his : ∀ y ∈ ss, IsSign y) :
    ∃ w σ2, ex O m (lq 4) σ = some (.next, setL m "word" (.str w), σ2) ∧ Keeps σ σ2 ∧ 4 ≤ w.length ∧ w.length ≤ 7 ∧ ∀ c ∈ w, 33 ≤ c ∧ c < 55033 := by
  have e : ∃ p q s p1 p2 p3 p4 p5 k, lq 4 = .Assign [.Name "word" p1] (.Call (.Attribute (.Constant (.str "") k p2) "join" p3) [.ListComp (cElt c4) [⟨.Name "x" p, cIter c4, [], 0⟩] s q] [] p4) p5 ∧ s.names.lookup (Str.ofString "signs") = some .free := ⟨_, _, _, _, _, _, _, _, _, by rfl, by kernel_rfl⟩
  obtain ⟨p, q, sc, p1, p2, p3, p4, p5, k, e, f1⟩ := e
  obtain ⟨n, hn, hn4, hn7⟩ : ∃ n : Nat, 4 + t % 4 = n ∧ 4 ≤ n ∧ n ≤ 7 := ⟨(4 + t % 4).toNat, by omega, by omega, by omega⟩
  have hit : ev O m (cIter c4) σ = some (.ref σ.length, σ ++ [.list (cs.take n)]) := by
    (have e : cIter c4 = cIter c4 := rfl; conv at e => rhs; whnf)
    rw [e]
    simp only [ev_const, const_int, ev_name, ev_binop, ev_subSl, evOpt_none, evOpt_some, bind1_some, bind2_some]
    simp only [hc, ht, bind1_some, bind2_some, add_int', mod_int2, if_true, bound_none, show ((0 : Int) < 4) = True by simp, if_true]
    simp only [bind1_some, bound_int (show intOk (4 + t % 4) = true from intOk_of (by omega)), slc_to (σ := σ) hn hr (by omega) (by omega)]
  have hnew : (σ ++ [Cell.list (cs.take n)])[σ.length]? = some (.list (cs.take n)) := by simp
  obtain ⟨ys, σ2, r1, r2, r3, r4⟩ := ev_comp_q (O := O) (elt := cElt c4) (ifs := []) (scope := sc) (t := .Name "x" p) (p := q) (Q := IsSign) (fun σ' => σ'[σ.length]? = some (.list (cs.take n)) ∧ σ'[s]? = some (.list ss)) hit (srcOk_list hnew)
    (fun i σ' h => next_list h.1 i) (fuel_list hnew) (fun σ' σ'' h k => ⟨k _ _ h.1, k _ _ h.2⟩) (fun v hv σ' hR => by
      obtain ⟨i, rfl⟩ := hi v (List.mem_of_mem_take hv)
      obtain ⟨k, hk, hk2⟩ : ∃ k : Nat, i % 3 = k ∧ k < 3 := ⟨(i % 3).toNat, by omega, by omega⟩
      refine ⟨ss[k], σ', ?_, Keeps.refl _, his _ (List.getElem_mem _)⟩
      have k1 : (setL (sees sc m) (Str.ofString "x") (.int i)).lookup (Str.ofString "signs") = some (.ref s) := by rw [lookup_setL, if_neg (by decide), lookup_sees f1]; exact hs
      have k2 : (setL (sees sc m) (Str.ofString "x") (.int i)).lookup (Str.ofString "x") = some (.int i) := by rw [lookup_setL, if_pos rfl]
      generalize hm : setL (sees sc m) (Str.ofString "x") (.int i) = m' at k1 k2
      unfold compF
      simp only [bindT_name, bind1_some, hm, trs_nil, bind2_some, if_true]
      (have e2 : cElt c4 = cElt c4 := rfl; conv at e2 => rhs; whnf)
      rw [e2]
      simp only [ev_const, const_int, ev_name, ev_binop, ev_subB, bind1_some, bind2_some]
      simp only [k1, k2, bind1_some, bind2_some, mod_int2, if_true, show ((0 : Int) < 3) = True by simp, if_true, subs_list (σ := σ') hk hR.2 (show k < ss.length by omega) (by omega)])
    (by simp; omega) ⟨hnew, Keeps.app _ _ _ _ hrs⟩
  obtain ⟨w, rfl, hw⟩ := signsAre r4
  rw [List.length_map, List.length_take] at r3
  refine ⟨w, _, ?_, (Keeps.app _ _).trans (r2.trans (Keeps.app _ [.list (w.map fun c => AV.str [c])])), by omega, by omega, hw⟩
  rw [e]
  exact asg_join r1 (by omega)
theorem law_5 {t : Int} (ht : m.lookup (Str.ofString "total") = some (.int t)) : ∃ wd : Nat, ex O m (lq 5) σ = some (.next, setL m "width" (.int wd), σ) ∧ wd ≤ 2 := by
  refine ⟨(t / 4 % 3).toNat, ?_, by omega⟩
  (have e : lq 5 = lq 5 := rfl; conv at e => rhs; whnf)
  rw [e]
  simp only [ev_const, const_int, ev_name, ev_binop, ex_assign, bind1_some, bind2_some]
  simp only [ht, bind1_some, bind2_some, fdiv_int', mod_int2, if_true, show ((0 : Int) < 4 ∧ (4 : Int) < 1000000000) = True by simp, show ((0 : Int) < 3) = True by simp, if_true, show ((t / 4 % 3).toNat : Int) = t / 4 % 3 by omega]
theorem law_6 {t : Int} (ht : m.lookup (Str.ofString "total") = some (.int t)) : ∃ sz : Nat, ex O m (lq 6) σ = some (.next, setL m "size" (.int sz), σ) ∧ sz ≤ 2 := by
  refine ⟨(t / 12 % 3).toNat, ?_, by omega⟩
  (have e : lq 6 = lq 6 := rfl; conv at e => rhs; whnf)
  rw [e]
  simp only [ev_const, const_int, ev_name, ev_binop, ex_assign, bind1_some, bind2_some]
  simp only [ht, bind1_some, bind2_some, fdiv_int', mod_int2, if_true, show ((0 : Int) < 12 ∧ (12 : Int) < 1000000000) = True by simp, show ((0 : Int) < 3) = True by simp, if_true, show ((t / 12 % 3).toNat : Int) = t / 12 % 3 by omega]
theorem new_call {size : Int} (P : OPr O) : O (Str.ofString "#new") [.int size] σ = some (.ref σ.length, σ ++ [.acc size []]) := by
  rw [P.p _ _ _ (by decide), prim1]
  rfl
theorem law_7 {sz : Int} (P : OPr O) (hs : m.lookup (Str.ofString "size") = some (.int sz)) (ha : m.lookup (Str.ofString "_Accumulator") = none) : ex O m (lq 7) σ = some (.next, setL m "pile" (.ref σ.length), σ ++ [.acc sz []]) := by
  (have e : lq 7 = lq 7 := rfl; conv at e => rhs; whnf)
  rw [e]
  simp only [ev_name, ev_callN, evs_nil, evs_cons, ex_assign, bind2_some]
  simp only [hs, ha, bind1_some, bind2_some, b_new, if_false, Bool.false_eq_true, Option.isSome_none, Bool.false_eq_true, if_false, bif_acc, new_call P]
theorem law_8 : ex O m (lq 8) σ = some (.next, setL m "blocks" (.ref σ.length), σ ++ [.list []]) := by
  (have e : lq 8 = lq 8 := rfl; conv at e => rhs; whnf)
  rw [e]
  simp only [ev_list, evs_nil, ex_assign, List.length_nil, bind2_some]
  rfl
noncomputable abbrev lm (vs : List AV) (a b : Nat) (t : Int) (c : Nat) (w : List Nat) (wd sz : Nat) (p q : Nat) : Loc := [("script", .frz vs), ("start", .ref a), ("cells", .ref b), ("total", .int t), ("signs", .ref c), ("word", .str w), ("width", .int wd), ("size", .int sz), ("pile", .ref p), ("blocks", .ref q)]
/-- the law's head -/
inductive HeadG (O : Oracle) (vs : List AV) (rest : List PySem.Stmt) (σ : Sto) : Prop
  | mk (a b : Nat) (t : Int) (c : Nat) (w : List Nat) (wd sz p q : Nat) (σ' : Sto) : exs O [("script", .frz vs)] (lq 0 :: lq 1 :: lq 2 :: lq 3 :: lq 4 :: lq 5 :: lq 6 :: lq 7 :: lq 8 :: rest) σ = exs O (lm vs a b t c w wd sz p q) rest σ' →
    4 ≤ w.length → w.length ≤ 7 → (∀ c ∈ w, 33 ≤ c ∧ c < 55033) → wd ≤ 2 → sz ≤ 2 → σ.length ≤ p → σ'[p]? = some (.acc sz []) → σ'[q]? = some (.list []) → Keeps σ σ' → HeadG O vs rest σ
theorem Keeps.len {σ σ' : Sto} (h : Keeps σ σ') : σ.length ≤ σ'.length := Nat.le_of_not_lt fun hl => by
  have e : σ[σ'.length]? = some σ[σ'.length] := List.getElem?_eq_getElem hl
  have := (List.getElem?_eq_some_iff.mp (h _ _ e)).1
  omega
theorem law_head (P : OPr O) {vs : List AV} (hv : ∀ v ∈ vs, IsInt v) (hl : vs.length ≤ 63) (rest : List PySem.Stmt) (σ : Sto) : HeadG O vs rest σ := by
  obtain ⟨st, e0, s1, s2⟩ := law_0 (O := O) (σ := σ) (v := .frz vs)
  have k0 : Keeps σ (σ ++ [Cell.list st]) := Keeps.app _ _
  have g1 : (σ ++ [Cell.list st] : Sto)[σ.length]? = some (.list st) := by simp
  generalize hσ1 : (σ ++ [Cell.list st] : Sto) = σ1 at e0 k0 g1
  obtain ⟨cl, b, σ2, e1, k1, g2, s3, s4⟩ := law_1 (O := O) (σ := σ1) (m := ([("script", .frz vs), ("start", .ref σ.length)] : Loc)) rfl rfl rfl rfl g1 hv hl s2 s1
  obtain ⟨t, σ3, e2, k2⟩ := law_2 (O := O) (σ := σ2) (m := setL ([("script", .frz vs), ("start", .ref σ.length)] : Loc) "cells" (.ref b)) rfl rfl g2 s3 s4
  obtain ⟨ys, c, σ4, e3, k3, g4, s5, s6⟩ := law_3 (O := O) (σ := σ3) (m := setL (setL ([("script", .frz vs), ("start", .ref σ.length)] : Loc) "cells" (.ref b)) "total" (.int t)) rfl rfl (k2 _ _ g2) s3 s4
  obtain ⟨w, σ5, e4, k4, w4, w7, hw⟩ := law_4 (O := O) (σ := σ4) (m := setL (setL (setL ([("script", .frz vs), ("start", .ref σ.length)] : Loc) "cells" (.ref b)) "total" (.int t)) "signs" (.ref c)) (t := t) rfl rfl rfl (k3 _ _ (k2 _ _ g2)) s3 s4 g4 s5 s6
  obtain ⟨wd, e5, h5⟩ := law_5 (O := O) (σ := σ5) (m := setL (setL (setL (setL ([("script", .frz vs), ("start", .ref σ.length)] : Loc) "cells" (.ref b)) "total" (.int t)) "signs" (.ref c)) "word" (.str w)) (t := t) rfl
  obtain ⟨sz, e6, h6⟩ := law_6 (O := O) (σ := σ5) (m := setL (setL (setL (setL (setL ([("script", .frz vs), ("start", .ref σ.length)] : Loc) "cells" (.ref b)) "total" (.int t)) "signs" (.ref c)) "word" (.str w)) "width" (.int wd)) (t := t) rfl
  have e7 := law_7 (O := O) (σ := σ5) P (m := setL (setL (setL (setL (setL (setL ([("script", .frz vs), ("start", .ref σ.length)] : Loc) "cells" (.ref b)) "total" (.int t)) "signs" (.ref c)) "word" (.str w)) "width" (.int wd)) "size" (.int sz)) (sz := sz) rfl rfl
  have kk : Keeps σ σ5 := k0.trans (k1.trans (k2.trans (k3.trans k4)))
  refine ⟨σ.length, b, t, c, w, wd, sz, σ5.length, (σ5 ++ [Cell.acc sz []]).length, (σ5 ++ [Cell.acc sz []]) ++ [Cell.list []], ?_, w4, w7, hw, h5, h6, kk.len, by simp, by simp, kk.trans ((Keeps.app _ _).trans (Keeps.app _ _))⟩
  rw [exs_cons, e0]
  dsimp only
  rw [exs_cons, e1]
  dsimp only
  rw [exs_cons, e2]
  dsimp only
  rw [exs_cons, e3]
  dsimp only
  rw [exs_cons, e4]
  dsimp only
  rw [exs_cons, e5]
  dsimp only
  rw [exs_cons, e6]
  dsimp only
  rw [exs_cons, e7]
  dsimp only
  rw [exs_cons, law_8]
  rfl
end Mine.L1
end

section
open PySem PySem.W PyProof.Rows
set_option maxRecDepth 100000
set_option linter.unusedSimpArgs false
set_option maxHeartbeats 1000000
namespace Mine.L1
variable {O : Oracle} {σ : Sto} {m : Loc} {a wd : Nat} {size : Int} {xs : List AV} {v : AV} {w : List Nat} {p q : List Nat × List Nat}

noncomputable def fb (i : Nat) : PySem.Stmt := ((forB (lq 9))[i]?).getD (.Pass default)
theorem fb_is : forB (lq 9) = [fb 0, fb 1, fb 2, fb 3, fb 4, fb 5] := by kernel_rfl
noncomputable def wb (i : Nat) : PySem.Stmt := ((bOf (fb 1))[i]?).getD (.Pass default)
theorem wb_is : bOf (fb 1) = [wb 0, wb 1, wb 2, wb 3, wb 4] := by kernel_rfl

theorem pc_call (P : OPr O) (h : σ[a]? = some (.acc size xs)) (hx : xs.length ≤ 1000) : O (Str.ofString "#part_count") [.ref a] σ = some (.int xs.length, σ) := by
  rw [P.p _ _ _ (by decide), prim4]
  show bind2 (accAt σ a) (fun _ xs => if sizeOk xs.length then some (AV.int xs.length, σ) else none) = _
  rw [accAt_of h]
  exact if_pos (show sizeOk xs.length = true from Nat.ble_eq_true_of_le (by omega))
theorem pop_call (P : OPr O) (h : σ[a]? = some (.acc size (xs ++ [v]))) (hx : xs.length ≤ 1000) : O (Str.ofString "#pop") [.ref a] σ = some (v, σ.set a (.acc size xs)) := by
  rw [P.p _ _ _ (by decide), prim3]
  show bind2 (accAt σ a) (fun n xs => if sizeOk xs.length then some (popped σ a n xs xs.getLast?) else none) = _
  rw [accAt_of h]
  refine (if_pos (show sizeOk (xs ++ [v]).length = true from Nat.ble_eq_true_of_le (by simp; omega))).trans ?_
  rw [List.getLast?_concat]
  show some (v, σ.set a (.acc size (xs ++ [v]).dropLast)) = _
  rw [List.dropLast_concat]
theorem pop_none (P : OPr O) (h : σ[a]? = some (.acc size [])) : O (Str.ofString "#pop") [.ref a] σ = some (emptyPair, σ) := by
  rw [P.p _ _ _ (by decide), prim3]
  show bind2 (accAt σ a) (fun n xs => if sizeOk xs.length then some (popped σ a n xs xs.getLast?) else none) = _
  rw [accAt_of h]
  rfl
theorem push_call (P : OPr O) {x y : AV} (h : σ[a]? = some (.acc size xs)) (hx : xs.length ≤ 1000) : O (Str.ofString "#push") [.ref a, x, y] σ = some (.none, σ.set a (.acc size (xs ++ [.tup [x, y]]))) := by
  rw [P.p _ _ _ (by decide), prim2]
  show bind2 (accAt σ a) (fun n xs => if sizeOk xs.length then some (AV.none, σ.set a (.acc n (xs ++ [.tup [x, y]]))) else none) = _
  rw [accAt_of h]
  exact if_pos (show sizeOk xs.length = true from Nat.ble_eq_true_of_le (by omega))
theorem indent_call (P : OPr O) {T : List Nat} {k : Nat} (hT : T.length ≤ 5000) (hk : k ≤ 100) : O (Str.ofString "_indent") [.str T, .int k] σ = some (.str (indentL k true T), σ) := by
  rw [P.p _ _ _ (by decide), show pr (Str.ofString "_indent") = pr "_indent" from rfl, prim0]
  have h3 : (T.length + 1) * (k + 1) ≤ 5001 * 101 := Nat.mul_le_mul (by omega) (by omega)
  exact if_pos ⟨sizeOk_of (show T.length ≤ 1000000 by omega), sizeOk_of (show k ≤ 1000000 by omega), sizeOk_of (show (T.length + 1) * (k + 1) ≤ 1000000 by omega)⟩
theorem set_same {r : Nat} {c : Cell} (h : σ[r]? = some c) : σ.set r c = σ := by
  obtain ⟨_, hg⟩ := List.getElem?_eq_some_iff.mp h
  rw [← hg]; simp
theorem join2b {x y : List Nat} (hx : x.length + y.length ≤ 100000) : methCall O .join (.str []) [.tup [.str x, .str y]] σ = some (.str (x ++ y), σ) := by
  show (if sizeOk (total [x, y] + ([] : List Nat).length * [x, y].length) then some (AV.str (joinL [] [x, y]), σ) else none) = _
  have h1 : total [x, y] = x.length + y.length := by simp [total]
  rw [h1, if_pos (show sizeOk _ = true from Nat.ble_eq_true_of_le (by simp; omega))]
  simp [joinL_1, joinL_2]

theorem pile_t (P : OPr O) (hm : m.lookup (Str.ofString "pile") = some (.ref a)) (h : σ[a]? = some (.acc size xs)) (hx : xs.length ≤ 1000) :
    tr O m (tOf (fb 1)) σ (ev O m (tOf (fb 1)) σ) = some (decide (1 < xs.length), σ) := by
  (have e : tOf (fb 1) = tOf (fb 1) := rfl; conv at e => rhs; whnf)
  rw [e]
  simp only [tr_cmp, ev_const, const_int, ev_name, ev_cmp, isQ_const, isQ_attr, evQ_call, ev_callA, evs_nil, bind1_some, bind2_some, if_false, Bool.false_eq_true]
  simp only [mth_pc, hm, bind1_some, bind2_some, byV_bool, cmp_gt, recv_pc, meth_pc, isAccAt, if_true, h, if_true, pc_call P h hx]
  congr 3
  exact propext (by omega)
theorem wb_0 (P : OPr O) (hm : m.lookup (Str.ofString "pile") = some (.ref a)) (h : σ[a]? = some (.acc size (xs ++ [v]))) (hx : xs.length ≤ 1000) :
    ex O m (wb 0) σ = some (.next, setL m (Str.ofString "first") v, σ.set a (.acc size xs)) := by
  (have e : wb 0 = wb 0 := rfl; conv at e => rhs; whnf)
  rw [e]
  simp only [ev_name, ev_callA, evs_nil, ex_assign, bind2_some]
  simp only [mth_pop, hm, bind1_some, bind2_some, recv_pop, meth_pop, isAccAt, if_true, h, if_true, pop_call P h hx]
theorem wb_1 (P : OPr O) (hm : m.lookup (Str.ofString "pile") = some (.ref a)) (h : σ[a]? = some (.acc size (xs ++ [v]))) (hx : xs.length ≤ 1000) :
    ex O m (wb 1) σ = some (.next, setL m (Str.ofString "second") v, σ.set a (.acc size xs)) := by
  (have e : wb 1 = wb 1 := rfl; conv at e => rhs; whnf)
  rw [e]
  simp only [ev_name, ev_callA, evs_nil, ex_assign, bind2_some]
  simp only [mth_pop, hm, bind1_some, bind2_some, recv_pop, meth_pop, isAccAt, if_true, h, if_true, pop_call P h hx]
/-- the names that the inner loop reads -/
structure LW (m : Loc) (a wd : Nat) (p q : List Nat × List Nat) : Prop where
  pile : m.lookup (Str.ofString "pile") = some (.ref a)
  width : m.lookup (Str.ofString "width") = some (.int wd)
  first : m.lookup (Str.ofString "first") = some (pairAV p)
  second : m.lookup (Str.ofString "second") = some (pairAV q)
  ind : m.lookup (Str.ofString "_indent") = none
theorem LW.set {x : Str} {v : AV} (L : LW m a wd p q) (h : ∀ y ∈ ([Str.ofString "pile", Str.ofString "width", Str.ofString "first", Str.ofString "second", Str.ofString "_indent"] : List Str), y ≠ x) : LW (setL m x v) a wd p q := by
  have k : ∀ y ∈ ([Str.ofString "pile", Str.ofString "width", Str.ofString "first", Str.ofString "second", Str.ofString "_indent"] : List Str), (setL m x v).lookup y = m.lookup y := fun y hy => by rw [lookup_setL, if_neg (h y hy)]
  exact ⟨(k _ (by decide)).trans L.pile, (k _ (by decide)).trans L.width, (k _ (by decide)).trans L.first, (k _ (by decide)).trans L.second, (k _ (by decide)).trans L.ind⟩
theorem wb_2 (P : OPr O) (L : LW m a wd p q) (h : σ[a]? = some (.acc size xs)) (hx : xs.length ≤ 900) :
    ex O m (wb 2) σ = if ltL p.1 q.1 then some (.next, m, σ) else some (.brk, m, σ.set a (.acc size (xs ++ [pairAV q] ++ [pairAV p]))) := by
  have hl : a < σ.length := (List.getElem?_eq_some_iff.mp h).1
  (have e : wb 2 = wb 2 := rfl; conv at e => rhs; whnf)
  rw [e]
  simp only [tr_cmp, ev_const, const_int, ev_name, ev_cmp, isQ_call, evQ_call, ev_callN, ev_callA, ev_subC, evs_nil, evs_cons, ex_expr, ex_if, ex_break, exs_nil, exs_more, qname, ofString_beq, String.reduceBEq, Bool.true_and, List.length_cons, List.length_nil, List.isEmpty_nil, Nat.reduceAdd, Nat.reduceBEq, bind1_some, bind2_some, if_true]
  simp only [L.first, L.second, pairAV, bind1_some, bind2_some, one_one, byV_bool, subs_t0, subs_t1, cmpQ_ge]
  cases hl : ltL p.1 q.1 with
  | true => simp
  | false =>
    have h2 : (σ.set a (Cell.acc size (xs ++ [.tup [.str q.1, .str q.2]])))[a]? = some (.acc size (xs ++ [.tup [.str q.1, .str q.2]])) := by simp [‹a < σ.length›]
    simp only [Bool.not_false, mth_push, L.pile, L.first, pairAV, bind1_some, bind2_some, recv_push, meth_push, isAccAt, if_true, if_false, Bool.false_eq_true, Bool.not_false, h, h2, if_true, subs_t0, subs_t1, push_call P h (show xs.length ≤ 1000 by omega), push_call P h2 (show (xs ++ [AV.tup [.str q.1, .str q.2]]).length ≤ 1000 by simp; omega), Bool.false_eq_true, if_false, List.set_set]
theorem bif_ind : bifOf (Str.ofString "_indent") = none := by rfl
theorem wb_3 (P : OPr O) (L : LW m a wd p q) (hwd : wd ≤ 2) (h1 : p.1.length + p.2.length ≤ 2000) (h2 : q.1.length + q.2.length ≤ 2000) :
    ex O m (wb 3) σ = some (.next, setL m (Str.ofString "rows") (.str (indentL wd true ((p.1 ++ p.2) ++ (10 :: (q.1 ++ q.2))))), σ) := by
  have e2 : ((p.1 ++ p.2) ++ [10]) ++ (q.1 ++ q.2) = (p.1 ++ p.2) ++ (10 :: (q.1 ++ q.2)) := by rw [List.append_assoc]; rfl
  have l1 : (p.1 ++ p.2).length ≤ 2000 := by rw [List.length_append]; omega
  have l2 : (q.1 ++ q.2).length ≤ 2000 := by rw [List.length_append]; omega
  have hT : (((p.1 ++ p.2) ++ [10]) ++ (q.1 ++ q.2)).length ≤ 5000 := by rw [List.length_append, List.length_append (bs := [10])]; simp only [List.length_cons, List.length_nil]; omega
  have s1 : sizeOk ((p.1 ++ p.2).length + [10].length) = true := sizeOk_of (by simp only [List.length_cons, List.length_nil]; omega)
  have s2 : sizeOk (((p.1 ++ p.2) ++ [10]).length + (q.1 ++ q.2).length) = true := sizeOk_of (by rw [List.length_append] at hT; omega)
  rw [e2] at hT
  (have e : wb 3 = wb 3 := rfl; conv at e => rhs; whnf)
  rw [e]
  simp only [ev_const, const_str, ev_name, ev_binop, ev_callN, ev_callA, evs_nil, evs_cons, ex_assign, bind1_some, bind2_some]
  simp only [L.first, L.second, L.width, L.ind, pairAV, mth_join, emptyStr, nlStr, bind1_some, bind2_some, add_str', recv_join, if_true, if_false, Bool.false_eq_true, if_true, Option.isSome_none, Bool.false_eq_true, if_false, bif_ind, join2b (O := O) (σ := σ) (x := p.1) (y := p.2) (by omega), join2b (O := O) (σ := σ) (x := q.1) (y := q.2) (by omega), s1, s2, indent_call (σ := σ) P hT (show wd ≤ 100 by omega), e2]
theorem wb_4 (P : OPr O) (L : LW m a wd p q) {R : List Nat} (hr : m.lookup (Str.ofString "rows") = some (.str R)) (hR : R.length ≤ 100000) (h1 : p.1.length ≤ 2000) (h2 : q.1.length ≤ 2000) (h : σ[a]? = some (.acc size xs)) (hx : xs.length ≤ 1000) :
    ex O m (wb 4) σ = some (.next, m, σ.set a (.acc size (xs ++ [pairAV (p.1 ++ q.1, 10 :: R)]))) := by
  have s1 : sizeOk (p.1.length + q.1.length) = true := sizeOk_of (by omega)
  have s2 : sizeOk ([10].length + R.length) = true := sizeOk_of (by simp only [List.length_cons, List.length_nil]; omega)
  (have e : wb 4 = wb 4 := rfl; conv at e => rhs; whnf)
  rw [e]
  simp only [ev_const, const_int, const_str, ev_name, ev_binop, ev_callA, ev_subC, evs_nil, evs_cons, ex_expr, bind1_some, bind2_some]
  simp only [L.first, L.second, L.pile, hr, pairAV, mth_push, nlStr, bind1_some, bind2_some, add_str', recv_push, meth_push, isAccAt, if_true, if_true, h, subs_t0, s1, s2, push_call P h hx]
  rfl
/-- one turn of the inner loop -/
theorem wb_run (P : OPr O) (hm : m.lookup (Str.ofString "pile") = some (.ref a)) (hwm : m.lookup (Str.ofString "width") = some (.int wd)) (hi : m.lookup (Str.ofString "_indent") = none) (h : σ[a]? = some (.acc size (xs ++ [pairAV q] ++ [pairAV p]))) (hx : xs.length ≤ 900) (hwd : wd ≤ 2)
    (h1 : p.1.length + p.2.length ≤ 2000) (h2 : q.1.length + q.2.length ≤ 2000) (h3 : (indentL wd true ((p.1 ++ p.2) ++ (10 :: (q.1 ++ q.2)))).length ≤ 100000) :
    ∃ m', (exs O m (bOf (fb 1)) σ = if ltL p.1 q.1 then some (.next, m', σ.set a (.acc size (xs ++ [pairAV (p.1 ++ q.1, 10 :: indentL wd true ((p.1 ++ p.2) ++ (10 :: (q.1 ++ q.2))))]))) else some (.brk, m', σ)) ∧
      ∀ x, x ≠ Str.ofString "first" → x ≠ Str.ofString "second" → x ≠ Str.ofString "rows" → m'.lookup x = m.lookup x := by
  have hl : a < σ.length := (List.getElem?_eq_some_iff.mp h).1
  have g1 : (σ.set a (Cell.acc size (xs ++ [pairAV q])))[a]? = some (.acc size (xs ++ [pairAV q])) := by simp [hl]
  have g2 : (σ.set a (Cell.acc size xs))[a]? = some (.acc size xs) := by simp [hl]
  have k1 : (setL m (Str.ofString "first") (pairAV p)).lookup (Str.ofString "pile") = some (.ref a) := by rw [lookup_setL, if_neg (by decide)]; exact hm
  have L : LW (setL (setL m (Str.ofString "first") (pairAV p)) (Str.ofString "second") (pairAV q)) a wd p q :=
    ⟨by rw [lookup_setL, if_neg (by decide)]; exact k1, by rw [lookup_setL, if_neg (by decide), lookup_setL, if_neg (by decide)]; exact hwm, by rw [lookup_setL, if_neg (by decide), lookup_setL, if_pos rfl], by rw [lookup_setL, if_pos rfl], by rw [lookup_setL, if_neg (by decide), lookup_setL, if_neg (by decide)]; exact hi⟩
  have fr : ∀ x, x ≠ Str.ofString "first" → x ≠ Str.ofString "second" → (setL (setL m (Str.ofString "first") (pairAV p)) (Str.ofString "second") (pairAV q)).lookup x = m.lookup x := fun x n1 n2 => by
    rw [lookup_setL, if_neg n2, lookup_setL, if_neg n1]
  have e1 := wb_1 (σ := σ.set a (Cell.acc size (xs ++ [pairAV q]))) P k1 g1 (by omega)
  rw [List.set_set] at e1
  have e2 := wb_2 (O := O) P L g2 hx
  rw [List.set_set, set_same h] at e2
  generalize setL (setL m (Str.ofString "first") (pairAV p)) (Str.ofString "second") (pairAV q) = m2 at e1 e2 L fr
  rw [wb_is, exs_cons, wb_0 P hm h (by simp; omega)]
  dsimp only
  rw [exs_cons, e1]
  dsimp only
  rw [exs_cons, e2]
  cases hlt : ltL p.1 q.1 with
  | false => exact ⟨m2, rfl, fun x n1 n2 _ => fr x n1 n2⟩
  | true =>
    simp only [if_true]
    have e3 := wb_3 (σ := σ.set a (Cell.acc size xs)) P L hwd h1 h2
    have L3 := L.set (x := Str.ofString "rows") (v := .str (indentL wd true ((p.1 ++ p.2) ++ (10 :: (q.1 ++ q.2))))) (by decide)
    have r3 : (setL m2 (Str.ofString "rows") (.str (indentL wd true ((p.1 ++ p.2) ++ (10 :: (q.1 ++ q.2)))))).lookup (Str.ofString "rows") = some (.str (indentL wd true ((p.1 ++ p.2) ++ (10 :: (q.1 ++ q.2))))) := by rw [lookup_setL, if_pos rfl]
    have e4 := wb_4 (σ := σ.set a (Cell.acc size xs)) P L3 r3 h3 (by omega) (by omega) g2 (by omega)
    rw [List.set_set] at e4
    refine ⟨setL m2 (Str.ofString "rows") (.str (indentL wd true ((p.1 ++ p.2) ++ (10 :: (q.1 ++ q.2))))), ?_, fun x n1 n2 n3 => by rw [lookup_setL, if_neg n3, fr x n1 n2]⟩
    rw [exs_cons, e3]
    dsimp only
    rw [exs_cons, e4]
    rfl

noncomputable def stk (st : List (List Nat × List Nat)) : List AV := (st.map pairAV).reverse
theorem stk_len (st : List (List Nat × List Nat)) : (stk st).length = st.length := by simp [stk]
theorem stk_c (p : List Nat × List Nat) (st : List (List Nat × List Nat)) : stk (p :: st) = stk st ++ [pairAV p] := by simp [stk]
theorem pc_len {b e : Nat} (hw : w.length ≤ 8) (hwd : wd ≤ 2) (P : PcOk w wd b e p) : p.1.length + p.2.length ≤ 1760 := by
  have h := draw_len w hw hwd (e - b) b e 0 P.lt P.le (Nat.le_refl _) (by have := P.le; omega)
  rw [← P.draw, List.length_append] at h
  have := P.le
  omega
theorem stk_size {b : Nat} {st : List (List Nat × List Nat)} (S : Stk w wd b st) : st.length + b ≤ w.length := by
  induction S with
  | nil => simp
  | cons P _ _ ih => have := P.lt; rw [List.length_cons]; omega
/-- the inner loop -/
theorem pile_loop (O1 : OPr O) (hw : ∀ c ∈ w, c ≠ 10) (hwl : w.length ≤ 8) (hwd : wd ≤ 2) : ∀ (st : List (List Nat × List Nat)) (b e : Nat) (p : List Nat × List Nat) (fuel : Nat) (m : Loc) (σ : Sto), PcOk w wd b e p → (∀ q, b < q → q < e → ltL (w.drop e) (w.drop q) = true) → Stk w wd e st →
    m.lookup (Str.ofString "pile") = some (.ref a) → m.lookup (Str.ofString "width") = some (.int wd) → m.lookup (Str.ofString "_indent") = none → σ[a]? = some (.acc size (stk (p :: st))) → st.length < fuel →
    ∃ m', whileN (fun m σ => tr O m (tOf (fb 1)) σ (ev O m (tOf (fb 1)) σ)) (fun m σ => exs O m (bOf (fb 1)) σ) fuel m σ = some (.next, m', σ.set a (.acc size (stk (mergeS wd p st)))) ∧
      ∀ x, x ≠ Str.ofString "first" → x ≠ Str.ofString "second" → x ≠ Str.ofString "rows" → m'.lookup x = m.lookup x
  | st, b, e, p, 0, m, σ, _, _, _, _, _, _, _, hf => by omega
  | [], b, e, p, f + 1, m, σ, P, hmin, S, k1, k2, k3, h, hf => by
    refine ⟨m, ?_, fun _ _ _ _ => rfl⟩
    rw [whileN_eq, pile_t O1 k1 h (by rw [stk_len]; simp), mergeS_0, set_same h]
    rfl
  | q :: r, b, e, p, f + 1, m, σ, P, hmin, S, k1, k2, k3, h, hf => by
    have sz := stk_size S
    rw [whileN_eq, pile_t O1 k1 h (by rw [stk_len]; simp only [List.length_cons] at *; omega), show decide (1 < (stk (p :: q :: r)).length) = true by rw [stk_len]; simp]
    dsimp only
    have h0 := h
    rw [stk_c, stk_c] at h
    cases S with
    | cons Q nx S' =>
      rename_i e2
      obtain ⟨_, go⟩ := merge_one hw wd P hmin Q nx
      have lp := pc_len hwl hwd P
      have lq := pc_len hwl hwd Q
      have hi : (indentL wd true ((p.1 ++ p.2) ++ (10 :: (q.1 ++ q.2)))).length ≤ 100000 := by
        have g : ∀ (l : List Nat) (b : Bool), (indentL wd b l).length ≤ 3 * l.length := by
          intro l
          induction l with
          | nil => intro b; rw [indentL_0]; simp
          | cons c l ih =>
            intro b
            cases b with
            | true =>
              rw [indentL_t]
              by_cases hc : c = 10
              · rw [if_pos hc]
                have := ih true
                simp only [List.length_cons]; omega
              · rw [if_neg hc]
                have := ih false
                simp only [List.length_cons, List.length_append, List.length_replicate]; omega
            | false =>
              rw [indentL_f]
              have := ih (c == 10)
              simp only [List.length_cons]; omega
        have := g ((p.1 ++ p.2) ++ (10 :: (q.1 ++ q.2))) true
        simp only [List.length_cons, List.length_append] at this
        omega
      obtain ⟨m1, e1, fr⟩ := wb_run O1 k1 k2 k3 h (by rw [stk_len]; simp only [List.length_cons] at sz; omega) hwd (by omega) (by omega) hi
      rw [e1, mergeS_s]
      cases hlt : ltL p.1 q.1 with
      | false =>
        simp only [Bool.false_eq_true, if_false]
        exact ⟨m1, by rw [set_same h0], fr⟩
      | true =>
        simp only [if_true]
        have hl : a < σ.length := (List.getElem?_eq_some_iff.mp h).1
        obtain ⟨g1, g2⟩ := go hlt
        generalize hn : (p.1 ++ q.1, 10 :: indentL wd true ((p.1 ++ p.2) ++ (10 :: (q.1 ++ q.2)))) = n at g1
        rw [← stk_c]
        obtain ⟨m', e3, fr2⟩ := pile_loop O1 hw hwl hwd r b e2 n f m1 (σ.set a (.acc size (stk (n :: r)))) g1 g2 S' ((fr _ (by decide) (by decide) (by decide)).trans k1) ((fr _ (by decide) (by decide) (by decide)).trans k2) ((fr _ (by decide) (by decide) (by decide)).trans k3) (by simp [hl]) (by simp only [List.length_cons] at hf; omega)
        refine ⟨m', ?_, fun x n1 n2 n3 => (fr2 x n1 n2 n3).trans (fr x n1 n2 n3)⟩
        rw [e3, List.set_set]
end Mine.L1
end

section
open PySem PySem.W PyProof.Rows
set_option maxRecDepth 100000
set_option linter.unusedSimpArgs false
set_option maxHeartbeats 1000000
namespace Mine.L1
variable {O : Oracle} {σ : Sto} {m : Loc} {a wd sz b r : Nat} {size : Int} {w : List Nat} {ys st : List (List Nat × List Nat)} {ls : List (List Nat)}

/-! texts of lists -/
theorem joinL_flat : ∀ ls : List (List Nat), joinL [] ls = ls.flatten
  | [] => rfl
  | [x] => by rw [joinL_1]; simp
  | x :: y :: r => by rw [joinL_2, joinL_flat (y :: r)]; simp
theorem total_flat (ls : List (List Nat)) : total ls = ls.flatten.length := by rw [total, List.length_flatten]
theorem txts_map : ∀ ls : List (List Nat), txts (ls.map .str) = some ls
  | [] => rfl
  | l :: ls => by
    show (bind1 (txts (ls.map .str)) fun r => some (l :: r)) = _
    rw [txts_map ls]; rfl
theorem join_list (h : σ[r]? = some (.list (ls.map .str))) (hl : ls.flatten.length ≤ 1000000) : methCall O .join (.str []) [.ref r] σ = some (.str ls.flatten, σ) := by
  show (bind1 (listAt σ r) fun xs => bind1 (txts xs) fun ss => if sizeOk (total ss + 0 * ss.length) then some (AV.str (joinL [] ss), σ) else none) = _
  rw [listAt_of h, bind1_some, txts_map, bind1_some, total_flat, Nat.zero_mul, Nat.add_zero, if_pos (sizeOk_of hl), joinL_flat]
theorem flat_le : ∀ {ls : List (List Nat)}, (∀ l ∈ ls, l.length ≤ 1760) → ls.flatten.length ≤ 1760 * ls.length
  | [], _ => by simp
  | l :: ls, h => by
    have h1 := h l List.mem_cons_self
    have h2 := flat_le (ls := ls) fun k hk => h k (List.mem_cons_of_mem _ hk)
    rw [List.flatten_cons, List.length_append, List.length_cons]
    omega
theorem len_list {xs : List AV} (h : σ[r]? = some (.list xs)) (hx : xs.length ≤ 1000) : builtin O .len [.ref r] σ = some (.int xs.length, σ) := by
  show (if isAccAt σ r then O "#len" [.ref r] σ else bind1 (listAt σ r) fun xs => if sizeOk xs.length then some (AV.int xs.length, σ) else none) = _
  have ha : isAccAt σ r = false := by unfold isAccAt; rw [h]
  rw [ha, listAt_of h, if_neg (by decide), bind1_some, if_pos (sizeOk_of (by omega))]
theorem accOf_of {n : Int} {xs : List AV} (h : σ[r]? = some (.acc n xs)) : accOf σ r = some (n, xs) := by unfold accOf; rw [h]
theorem codeOf_of {k b l c : Nat} (h : σ[k]? = some (.code b l c)) : codeOf σ k = some (b, l, c) := by unfold codeOf; rw [h]
theorem str_call (P : OPr O) (h : σ[a]? = some (.acc size (ys.map pairAV))) (hc : σ[1]? = some (.code 100 32 32)) (hf : fitPairs ys) : O (Str.ofString "#str") [.ref a] σ = some (.str (pairsText ys), σ) := by
  rw [P.p _ _ _ (by decide), prim6]
  show bind2 (accOf σ a) (fun _ xs => bind1 (pairsOf xs) fun ys => if codeOf σ 1 = some (100, 32, 32) ∧ fitPairs ys then some (AV.str (pairsText ys), σ) else none) = _
  rw [accOf_of h, bind2_some, pairsOf_map, bind1_some, if_pos ⟨codeOf_of hc, hf⟩]
theorem len_call (P : OPr O) (h : σ[a]? = some (.acc size (ys.map pairAV))) (hc : σ[0]? = some (.code 93 29 19)) (hf : fitPairs ys) (h0 : 0 ≤ size) (h1 : size ≤ 1000000) : O (Str.ofString "#len") [.ref a] σ = some (.int (size + (pairsLen ys : Nat)), σ) := by
  rw [P.p _ _ _ (by decide), prim5]
  show bind2 (accOf σ a) (fun n xs => bind1 (pairsOf xs) fun ys => if codeOf σ 0 = some (93, 29, 19) ∧ fitPairs ys ∧ 0 ≤ n ∧ n ≤ 1000000 then some (AV.int (n + (pairsLen ys : Nat)), σ) else none) = _
  rw [accOf_of h, bind2_some, pairsOf_map, bind1_some, if_pos ⟨codeOf_of hc, hf, h0, h1⟩]
theorem b_str (args : List AV) : builtin O .str args σ = O "#str" args σ := rfl
theorem len_acc {n : Int} {xs : List AV} (h : σ[r]? = some (.acc n xs)) : builtin O .len [.ref r] σ = O "#len" [.ref r] σ := by
  show (if isAccAt σ r then O "#len" [.ref r] σ else bind1 (listAt σ r) fun xs => if sizeOk xs.length then some (AV.int xs.length, σ) else none) = _
  rw [isAccAt_of h, if_pos rfl]

/-- what stays: all cells but one -/
noncomputable def KeepsBut (a : Nat) (σ σ' : Sto) : Prop := ∀ (k : Nat) (c : Cell), k ≠ a → σ[k]? = some c → σ'[k]? = some c

structure LL (m : Loc) (w : List Nat) (wd sz a : Nat) : Prop where
  word : m.lookup (Str.ofString "word") = some (.str w)
  width : m.lookup (Str.ofString "width") = some (.int wd)
  size : m.lookup (Str.ofString "size") = some (.int sz)
  pile : m.lookup (Str.ofString "pile") = some (.ref a)
  len : m.lookup (Str.ofString "len") = none
  str : m.lookup (Str.ofString "str") = none
  range : m.lookup (Str.ofString "range") = none
  ind : m.lookup (Str.ofString "_indent") = none
  self : m.lookup (Str.ofString "_law_blocks") = none
noncomputable def llNames : List Str := ["word", "width", "size", "pile", "len", "str", "range", "_indent", "_law_blocks"]
theorem LL.of {m' : Loc} (L : LL m w wd sz a) (k : ∀ y ∈ llNames, m'.lookup y = m.lookup y) : LL m' w wd sz a :=
  ⟨(k _ (by decide)).trans L.word, (k _ (by decide)).trans L.width, (k _ (by decide)).trans L.size, (k _ (by decide)).trans L.pile, (k _ (by decide)).trans L.len, (k _ (by decide)).trans L.str, (k _ (by decide)).trans L.range, (k _ (by decide)).trans L.ind, (k _ (by decide)).trans L.self⟩
theorem LL.set {x : Str} {v : AV} (L : LL m w wd sz a) (h : ∀ y ∈ llNames, y ≠ x) : LL (setL m x v) w wd sz a := L.of fun y hy => by rw [lookup_setL, if_neg (h y hy)]

theorem fb_0 (P : OPr O) (L : LL m w wd sz a) (hp : m.lookup (Str.ofString "place") = some (.int b)) (hb : b < w.length) (hw : w.length ≤ 100) (h : σ[a]? = some (.acc size (stk st))) (hs : st.length ≤ 100) :
    ex O m (fb 0) σ = some (.next, m, σ.set a (.acc size (stk (([w[b]], [10]) :: st)))) := by
  (have e : fb 0 = fb 0 := rfl; conv at e => rhs; whnf)
  rw [e]
  simp only [ev_const, const_str, ev_name, ev_callA, ev_subN, evs_nil, evs_cons, ex_expr, bind1_some, bind2_some]
  simp only [mth_push, L.pile, L.word, hp, nlStr, bind1_some, bind2_some, recv_push, meth_push, isAccAt, if_true, h, if_true, subs_str (σ := σ) (show (b : Int) = (b : Nat) from rfl) hb (show w.length ≤ 1000 by omega), push_call P h (show (stk st).length ≤ 1000 by rw [stk_len]; omega), stk_c, pairAV]
theorem fb_1 (O1 : OPr O) (L : LL m w wd sz a) (hw : ∀ c ∈ w, c ≠ 10) (hwl : w.length ≤ 8) (hwd : wd ≤ 2) (hb : b < w.length) (S : Stk w wd (b + 1) st) (h : σ[a]? = some (.acc size (stk (([w[b]], [10]) :: st)))) :
    ∃ m', ex O m (fb 1) σ = some (.next, m', σ.set a (.acc size (stk (mergeS wd ([w[b]], [10]) st)))) ∧ ∀ x, x ≠ Str.ofString "first" → x ≠ Str.ofString "second" → x ≠ Str.ofString "rows" → m'.lookup x = m.lookup x := by
  have e0 : ∃ p, fb 1 = .While (tOf (fb 1)) (bOf (fb 1)) [] p := ⟨_, by rfl⟩
  obtain ⟨p, e0⟩ := e0
  have := stk_size S
  obtain ⟨m', e1, fr⟩ := pile_loop O1 hw hwl hwd st b (b + 1) _ 100 m σ (sign_ok hb) (fun q h0 h1 => by omega) S L.pile L.width L.ind h (by omega)
  exact ⟨m', (congrArg (fun s => ex O m s σ) e0).trans (ex_while.trans e1), fr⟩
theorem mul_blank {wd : Nat} (h : wd ≤ 2) : binop .Mult (.int wd) (.str [32]) σ = some (.str (List.replicate wd 32), σ) := by
  rw [mul_str', if_pos (by
    rw [sizeOk_of (show ((wd : Int)).natAbs ≤ 1000000 by omega), sizeOk_of (show [32].length ≤ 1000000 by simp), sizeOk_of (show ((wd : Int)).natAbs * [32].length ≤ 1000000 by simp; omega)]; rfl)]
  have : ∀ n : Nat, mulText (n : Int) [32] = List.replicate n 32 := fun n => by
    unfold mulText
    rw [Int.toNat_natCast]
    induction n with
    | zero => rfl
    | succ n ih => rw [List.replicate_succ, List.flatten_cons, ih]; rfl
  rw [this]
theorem blankStr : (Str.ofString " ").cps.toList = [32] := by decide
theorem bif_blocks : bifOf (Str.ofString "_law_blocks") = none := by rfl
theorem fb_2 (L : LL m w wd sz a) (hp : m.lookup (Str.ofString "place") = some (.int b)) (hwd : wd ≤ 2) {v : AV} {σ' : Sto} (hO : O (Str.ofString "_law_blocks") [.str w, .int b, .str (List.replicate wd 32)] σ = some (v, σ')) :
    ex O m (fb 2) σ = some (.next, setL m (Str.ofString "blocks") v, σ') := by
  (have e : fb 2 = fb 2 := rfl; conv at e => rhs; whnf)
  rw [e]
  simp only [ex_assign, ev_callN, evs_cons, evs_nil, ev_name, ev_binop, ev_const, const_str, L.word, L.width, L.self, hp, Option.isSome_none, Bool.false_eq_true, if_false, bif_blocks, bind1_some, bind2_some, blankStr, mul_blank hwd, hO]
theorem fb_3 (hb : m.lookup (Str.ofString "blocks") = some (.ref r)) (h : σ[r]? = some (.list (ls.map .str))) (hl : ls.length ≤ 1000) (hf : ls.flatten.length ≤ 100000) :
    ex O m (fb 3) σ = some (.next, setL m (Str.ofString "page") (.str ls.reverse.flatten), σ ++ [.list (ls.reverse.map .str)]) := by
  have hj := join_list (O := O) (σ := σ ++ [.list (ls.reverse.map .str)]) (r := σ.length) (ls := ls.reverse) (by simp) (by
    rw [List.length_flatten, List.map_reverse, List.sum_reverse, ← List.length_flatten]; omega)
  have hs := slc_revL h (by rw [List.length_map]; exact hl)
  rw [← List.map_reverse] at hs
  (have e : fb 3 = fb 3 := rfl; conv at e => rhs; whnf)
  rw [e]
  simp only [ev_const, const_int, const_str, ev_name, ev_usub, ev_callA, ev_subSl, evs_nil, evs_cons, evOpt_none, evOpt_some, ex_assign, bind1_some, bind2_some, as_int]
  simp only [mth_join, hb, emptyStr, bind1_some, bind2_some, recv_join, if_true, if_true, bound_none, bound_int (show intOk (-1) = true from rfl), hs, hj]
theorem bif_str : bifOf (Str.ofString "str") = some .str := by rfl
theorem fb_4 (P : OPr O) (L : LL m w wd sz a) (hsz : sz ≤ 2) (hpg : m.lookup (Str.ofString "page") = some (.str (pairsText ys))) (h : σ[a]? = some (.acc sz (ys.map pairAV))) (c0 : σ[0]? = some (.code 93 29 19)) (c1 : σ[1]? = some (.code 100 32 32)) (hf : fitPairs ys) (hl : (pairsText ys).length ≤ 100000) :
    ex O m (fb 4) σ = some (.next, m, σ) := by
  have e1 : ∀ l : List Nat, (l == l) = true := fun l => by simp
  have lb : builtin O .len [.str (pairsText ys)] σ = some (.int (pairsText ys).length, σ) := by
    show (if sizeOk (pairsText ys).length then some (AV.int (pairsText ys).length, σ) else none) = _
    rw [if_pos (sizeOk_of (by omega))]
  have s1 := str_call P h c1 hf
  have s2 := len_call P h c0 hf (by omega) (by omega)
  have e3 : ((sz : Int) + (pairsLen ys : Nat) == (sz : Int) + ((pairsText ys).length : Nat)) = true := by rw [pairsText_len]; simp
  (have e : fb 4 = fb 4 := rfl; conv at e => rhs; whnf)
  rw [e]
  simp only [tr_boolop, tr_cmp, trAll_nil, trAll_cons, ev_const, const_bool, ev_name, ev_boolop, ev_binop, ev_cmp, isQ_name, isQ_bin, isQ_call, evQ_call, ev_callN, evs_nil, evs_cons, evBool_one, evBool_cons, ex_return, ex_if, exs_nil, exs_more, qname, ofString_beq, String.reduceBEq, Bool.false_and, List.length_cons, List.length_nil, List.isEmpty_nil, Nat.reduceAdd, Nat.reduceBEq, bind1_some, bind2_some, stops_or, cmp_ne, if_false, Bool.false_eq_true]
  simp only [L.pile, L.len, L.str, L.size, hpg, bind1_some, bind2_some, byV_bool, add_int', eqTop_int, eqTop_str, if_false, Bool.false_eq_true, Bool.not_true, Option.isSome_none, Bool.false_eq_true, if_false, bif_str, bif_len, b_str, len_acc (O := O) h, lb, show O "#str" [.ref a] σ = some (.str (pairsText ys), σ) from s1, show O "#len" [.ref a] σ = some (.int ((sz : Int) + (pairsLen ys : Nat)), σ) from s2, e1, e3]
theorem fb_5 (P : OPr O) (L : LL m w wd sz a) {xs ys : List AV} (h : σ[a]? = some (.acc size xs)) (hb : m.lookup (Str.ofString "blocks") = some (.ref r)) (hr : σ[r]? = some (.list ys)) (hxy : xs.length = ys.length) (hx : xs.length ≤ 1000) : ex O m (fb 5) σ = some (.next, m, σ) := by
  have e1 : ((xs.length : Int) == (ys.length : Int)) = true := by rw [hxy]; simp
  (have e : fb 5 = fb 5 := rfl; conv at e => rhs; whnf)
  rw [e]
  simp only [tr_cmp, ev_const, const_bool, ev_name, ev_cmp, isQ_attr, isQ_call, evQ_call, ev_callN, ev_callA, evs_nil, evs_cons, ex_return, ex_if, exs_nil, exs_more, qname, ofString_beq, String.reduceBEq, Bool.false_and, List.length_cons, List.length_nil, List.isEmpty_nil, Nat.reduceAdd, Nat.reduceBEq, bind1_some, bind2_some, cmp_ne, if_false, Bool.false_eq_true]
  simp only [mth_pc, L.pile, L.len, hb, bind1_some, bind2_some, byV_bool, eqTop_int, recv_pc, meth_pc, isAccAt, if_true, if_false, Bool.false_eq_true, Bool.not_true, h, if_true, pc_call P h hx, Option.isSome_none, Bool.false_eq_true, if_false, bif_len, len_list (O := O) hr (show ys.length ≤ 1000 by omega), e1]
end Mine.L1
end

section
open PySem PySem.W PyProof.Rows
set_option maxRecDepth 100000
set_option linter.unusedSimpArgs false
set_option maxHeartbeats 1000000
namespace Mine.L1
variable {σ : Sto} {m : Loc} {a wd sz b r : Nat} {size : Int} {w : List Nat} {st : List (List Nat × List Nat)}

/-- the oracle that the law's text runs with -/
noncomputable def OL : Oracle := calls pr fns 19
theorem oprL : OPr OL := opr 19
theorem stk_pc (hw : w.length ≤ 8) (hwd : wd ≤ 2) (S : Stk w wd b st) : ∀ p ∈ st, (p.1 ++ p.2).length ≤ 1760 := by
  induction S with
  | nil => intro p hp; cases hp
  | cons P _ _ ih =>
    intro p hp
    rcases List.mem_cons.mp hp with rfl | hp
    · rw [List.length_append]; exact pc_len hw hwd P
    · exact ih p hp
noncomputable abbrev bothP (p : List Nat × List Nat) : List Nat := p.1 ++ p.2
theorem stk_rev (st : List (List Nat × List Nat)) : stk st = st.reverse.map pairAV := by rw [stk, List.map_reverse]
theorem rev_text (st : List (List Nat × List Nat)) : pairsText st.reverse = (st.map bothP).reverse.flatten := by rw [pairsText, List.map_reverse]
theorem rev_len (hw : w.length ≤ 8) (hwd : wd ≤ 2) (S : Stk w wd b st) : (pairsText st.reverse).length ≤ 100000 := by
  have h1 : ((st.reverse.map bothP).flatten).length ≤ 1760 * (st.reverse.map bothP).length := flat_le (ls := st.reverse.map bothP) fun l hl => by
    obtain ⟨p, hp, rfl⟩ := List.mem_map.mp hl
    exact stk_pc hw hwd S p (List.mem_reverse.mp hp)
  have h2 := stk_size S
  rw [List.length_map, List.length_reverse] at h1
  show (st.reverse.map bothP).flatten.length ≤ 100000
  omega
theorem rev_fit (hw : w.length ≤ 8) (hwd : wd ≤ 2) (S : Stk w wd b st) : fitPairs st.reverse := by
  refine ⟨fun y hy => ?_, ?_, ?_⟩
  · have := stk_pc hw hwd S y (List.mem_reverse.mp hy)
    rw [List.length_append] at this
    omega
  · have := rev_len hw hwd S
    omega
  · have := stk_size S
    rw [List.length_reverse]; omega

/-- one turn of the law's loop -/
inductive TurnG (m : Loc) (σ : Sto) (w : List Nat) (wd sz a : Nat) (st' : List (List Nat × List Nat)) : Prop
  | mk (m' : Loc) (σ' : Sto) (r : Nat) : exs OL m (forB (lq 9)) σ = some (.next, m', σ') → LL m' w wd sz a → σ'[a]? = some (.acc sz (stk st')) → KeepsBut a σ σ' → m'.lookup (Str.ofString "blocks") = some (.ref r) →
    σ'[r]? = some (.list ((st'.map bothP).map .str)) → m'.lookup (Str.ofString "block") = m.lookup (Str.ofString "block") → TurnG m σ w wd sz a st'
theorem turn (L : LL m w wd sz a) (hp : m.lookup (Str.ofString "place") = some (.int b)) (hw : ∀ c ∈ w, c ≠ 10) (hwl : w.length ≤ 8) (hwd : wd ≤ 2) (hsz : sz ≤ 2) (hb : b < w.length) (S : Stk w wd (b + 1) st) (h : σ[a]? = some (.acc sz (stk st))) (ha : 2 ≤ a) (c0 : σ[0]? = some (.code 93 29 19)) (c1 : σ[1]? = some (.code 100 32 32)) :
    TurnG m σ w wd sz a (mergeS wd ([w[b]], [10]) st) := by
  have hl : a < σ.length := (List.getElem?_eq_some_iff.mp h).1
  have sS := stk_size S
  have S' := push_stk hw wd hb S
  have e0 := fb_0 (σ := σ) oprL L hp hb (by omega) h (by omega)
  obtain ⟨m1, e1, fr⟩ := fb_1 (O := OL) (size := sz) (σ := σ.set a (.acc sz (stk (([w[b]], [10]) :: st)))) oprL L hw hwl hwd hb S (by simp [hl])
  rw [List.set_set] at e1
  have L1 : LL m1 w wd sz a := L.of fun y hy => fr y ((by decide : ∀ y ∈ llNames, y ≠ Str.ofString "first") y hy) ((by decide : ∀ y ∈ llNames, y ≠ Str.ofString "second") y hy) ((by decide : ∀ y ∈ llNames, y ≠ Str.ofString "rows") y hy)
  have p1 : m1.lookup (Str.ofString "place") = some (.int b) := (fr _ (by decide) (by decide) (by decide)).trans hp
  have bl1 : m1.lookup (Str.ofString "block") = m.lookup (Str.ofString "block") := fr _ (by decide) (by decide) (by decide)
  generalize mergeS wd ([w[b]], [10]) st = st' at S' e1 ⊢
  have sS' := stk_size S'
  have g2 : (σ.set a (Cell.acc sz (stk st')))[a]? = some (.acc sz (stk st')) := by simp [hl]
  have kb : KeepsBut a σ (σ.set a (Cell.acc sz (stk st'))) := fun k c hk hc => by rw [List.getElem?_set_ne (Ne.symm hk)]; exact hc
  generalize σ.set a (Cell.acc sz (stk st')) = σ2 at g2 kb e1
  have e2 := blocks_run (k := 18) (by omega) hwd (by omega) (by omega) (show b ≤ w.length by omega) σ2
  rw [blocks_stk (w.length - b) b st' (Nat.le_refl _) S'] at e2
  have e2' := fb_2 (O := OL) (σ := σ2) L1 p1 hwd e2
  rw [show (st'.map fun p => p.1 ++ p.2) = st'.map bothP from rfl] at e2'
  have L2 := L1.set (x := Str.ofString "blocks") (v := .ref σ2.length) (by decide)
  have b2 : (setL m1 (Str.ofString "blocks") (.ref σ2.length)).lookup (Str.ofString "blocks") = some (.ref σ2.length) := by rw [lookup_setL, if_pos rfl]
  have bl2 : (setL m1 (Str.ofString "blocks") (.ref σ2.length)).lookup (Str.ofString "block") = m.lookup (Str.ofString "block") := by rw [lookup_setL, if_neg (by decide)]; exact bl1
  generalize setL m1 (Str.ofString "blocks") (.ref σ2.length) = m2 at e2' L2 b2 bl2
  generalize hσ3 : σ2 ++ [Cell.list ((st'.map bothP).map AV.str)] = σ3 at e2'
  have k3 : Keeps σ2 σ3 := hσ3 ▸ Keeps.app _ _
  have g3 : σ3[σ2.length]? = some (.list ((st'.map bothP).map .str)) := by rw [← hσ3]; simp
  have hfl : (st'.map bothP).flatten.length ≤ 100000 := by
    have := rev_len hwl hwd S'
    rw [rev_text, List.length_flatten, List.map_reverse, List.sum_reverse, ← List.length_flatten] at this
    exact this
  have e3 := fb_3 (O := OL) b2 g3 (by rw [List.length_map]; omega) hfl
  rw [← rev_text] at e3
  have L3 := L2.set (x := Str.ofString "page") (v := .str (pairsText st'.reverse)) (by decide)
  have b3 : (setL m2 (Str.ofString "page") (.str (pairsText st'.reverse))).lookup (Str.ofString "blocks") = some (.ref σ2.length) := by rw [lookup_setL, if_neg (by decide)]; exact b2
  have bl3 : (setL m2 (Str.ofString "page") (.str (pairsText st'.reverse))).lookup (Str.ofString "block") = m.lookup (Str.ofString "block") := by rw [lookup_setL, if_neg (by decide)]; exact bl2
  have pg3 : (setL m2 (Str.ofString "page") (.str (pairsText st'.reverse))).lookup (Str.ofString "page") = some (.str (pairsText st'.reverse)) := by rw [lookup_setL, if_pos rfl]
  generalize setL m2 (Str.ofString "page") (.str (pairsText st'.reverse)) = m3 at e3 L3 b3 bl3 pg3
  generalize hσ4 : σ3 ++ [Cell.list ((st'.map bothP).reverse.map AV.str)] = σ4 at e3
  have k4 : Keeps σ2 σ4 := k3.trans (hσ4 ▸ Keeps.app _ _)
  have g4 : σ4[σ2.length]? = some (.list ((st'.map bothP).map .str)) := (hσ4 ▸ Keeps.app _ _ : Keeps σ3 σ4) _ _ g3
  have a4 : σ4[a]? = some (.acc sz (stk st')) := k4 _ _ g2
  have a4' := a4
  rw [stk_rev] at a4'
  have e4 := fb_4 oprL L3 hsz pg3 a4' (k4 _ _ (kb _ _ (by omega) c0)) (k4 _ _ (kb _ _ (by omega) c1)) (rev_fit hwl hwd S') (rev_len hwl hwd S')
  have e5 := fb_5 oprL L3 a4 b3 g4 (by rw [stk_len, List.length_map, List.length_map]) (by rw [stk_len]; omega)
  refine ⟨m3, σ4, σ2.length, ?_, L3, a4, fun k c hk hc => k4 _ _ (kb k c hk hc), b3, g4, bl3⟩
  rw [fb_is, exs_cons, e0]
  dsimp only
  rw [exs_cons, e1]
  dsimp only
  rw [exs_cons, e2']
  dsimp only
  rw [exs_cons, e3]
  dsimp only
  rw [exs_cons, e4]
  dsimp only
  rw [exs_cons, e5]
  rfl

/-! a loop downwards -/
theorem next_dn {n i : Nat} (h : i < n) : nextOf (.rng ((n : Int) - 1) (-1) (-1)) i σ = some (some (.int ((n - 1 - i : Nat) : Int))) := by
  show (if (-1 : Int) = 1 then some (if (n : Int) - 1 + (i : Int) < -1 then some (AV.int ((n : Int) - 1 + (i : Int))) else none) else if (-1 : Int) = -1 then some (if (-1 : Int) < (n : Int) - 1 - (i : Int) then some (AV.int ((n : Int) - 1 - (i : Int))) else none) else none) = _
  rw [if_neg (by decide), if_pos rfl, if_pos (by omega)]
  rw [show (n : Int) - 1 - (i : Int) = ((n - 1 - i : Nat) : Int) by omega]
theorem next_dn0 {n : Nat} : nextOf (.rng ((n : Int) - 1) (-1) (-1)) n σ = some none := by
  show (if (-1 : Int) = 1 then some (if (n : Int) - 1 + (n : Int) < -1 then some (AV.int ((n : Int) - 1 + (n : Int))) else none) else if (-1 : Int) = -1 then some (if (-1 : Int) < (n : Int) - 1 - (n : Int) then some (AV.int ((n : Int) - 1 - (n : Int))) else none) else none) = _
  rw [if_neg (by decide), if_pos rfl, if_neg (by omega)]
theorem forN_dn {n : Nat} {body : AV → Loc → Sto → Option (AFlow × Loc × Sto)} {Inv : Nat → Loc → Sto → Prop}
    (h : ∀ i m σ, i < n → Inv i m σ → ∃ m' σ', body (.int ((n - 1 - i : Nat) : Int)) m σ = some (.next, m', σ') ∧ Inv (i + 1) m' σ') :
    ∀ (k i fuel : Nat) (m : Loc) (σ : Sto), i + k = n → k < fuel → Inv i m σ → ∃ m' σ', forN (nextOf (.rng ((n : Int) - 1) (-1) (-1))) body fuel i m σ = some (.next, m', σ') ∧ Inv n m' σ'
  | k, i, 0, m, σ, _, hf, _ => by omega
  | 0, i, fuel + 1, m, σ, hi, _, I => by
    have e : i = n := by omega
    subst e
    exact ⟨m, σ, by rw [forN_eq, next_dn0], I⟩
  | k + 1, i, fuel + 1, m, σ, hi, hf, I => by
    obtain ⟨m', σ', e, I'⟩ := h i m σ (by omega) I
    obtain ⟨m'', σ'', e2, I2⟩ := forN_dn h k (i + 1) fuel m' σ' (by omega) (by omega) I'
    refine ⟨m'', σ'', ?_, I2⟩
    rw [forN_eq, next_dn (by omega)]
    dsimp only
    rw [e]
    exact e2
theorem range3 {O : Oracle} {i : Int} (h1 : intOk i = true) : builtin O .range [.int i, .int (-1), .int (-1)] σ = some (.rng i (-1) (-1), σ) := by
  show (if (intOk i && intOk (-1) && decide ((-1 : Int) = -1)) = true then _ else _) = _
  rw [h1]; rfl
theorem lq9_i {O : Oracle} (L : LL m w wd sz a) (hw : w.length ≤ 100) : ev O m (forI (lq 9)) σ = some (.rng ((w.length : Int) - 1) (-1) (-1), σ) := by
  (have e : forI (lq 9) = forI (lq 9) := rfl; conv at e => rhs; whnf)
  rw [e]
  simp only [ev_const, const_int, ev_name, ev_binop, ev_usub, ev_callN, evs_nil, evs_cons, bind1_some, bind2_some, as_int]
  simp only [L.word, L.len, L.range, bind1_some, bind2_some, sub_int', if_false, Bool.false_eq_true, Option.isSome_none, Bool.false_eq_true, if_false, bif_len, bif_range, len_str (O := O) (σ := σ) (show w.length ≤ 1000 by omega), range3 (O := O) (σ := σ) (show intOk ((w.length : Int) - 1) = true from intOk_of (by omega))]
/-- the law's loop -/
inductive LoopG (m : Loc) (σ : Sto) (w : List Nat) (wd sz a : Nat) : Prop
  | mk (m' : Loc) (σ' : Sto) (r : Nat) (st : List (List Nat × List Nat)) : ex OL m (lq 9) σ = some (.next, m', σ') → LL m' w wd sz a → Stk w wd 0 st → σ'[a]? = some (.acc sz (stk st)) → KeepsBut a σ σ' → m'.lookup (Str.ofString "blocks") = some (.ref r) →
    σ'[r]? = some (.list ((st.map bothP).map .str)) → LoopG m σ w wd sz a
theorem lq9_ok (L : LL m w wd sz a) (hw : ∀ c ∈ w, c ≠ 10) (hw0 : 0 < w.length) (hwl : w.length ≤ 8) (hwd : wd ≤ 2) (hsz : sz ≤ 2) (h : σ[a]? = some (.acc sz [])) (ha : 2 ≤ a) (c0 : σ[0]? = some (.code 93 29 19)) (c1 : σ[1]? = some (.code 100 32 32)) :
    LoopG m σ w wd sz a := by
  have e : ∃ p q, lq 9 = .For (.Name "place" p) (forI (lq 9)) (forB (lq 9)) [] q := ⟨_, _, by rfl⟩
  obtain ⟨p, q, e⟩ := e
  obtain ⟨m', σ', e1, st, L', S', g', kb', b'⟩ := forN_dn (n := w.length) (body := fun v m σ => bind1 (bindT (.Name (Str.ofString "place") p) v m) fun m' => exs OL m' (forB (lq 9)) σ)
    (Inv := fun i m σ' => ∃ st, LL m w wd sz a ∧ Stk w wd (w.length - i) st ∧ σ'[a]? = some (.acc sz (stk st)) ∧ KeepsBut a σ σ' ∧ (0 < i → ∃ r, m.lookup (Str.ofString "blocks") = some (.ref r) ∧ σ'[r]? = some (.list ((st.map bothP).map .str))))
    (fun i m σ' hi ⟨st, L, S, g, kb, _⟩ => by
      rw [bindT_name, bind1_some]
      have L2 := L.set (x := Str.ofString "place") (v := .int (w.length - 1 - i : Nat)) (by decide)
      rw [show w.length - i = (w.length - 1 - i) + 1 by omega] at S
      obtain ⟨m', σ'', r, q1, q2, q3, q4, q5, q6, _⟩ := turn L2 (by rw [lookup_setL, if_pos rfl]) hw hwl hwd hsz (show w.length - 1 - i < w.length by omega) S g ha (kb _ _ (by omega) c0) (kb _ _ (by omega) c1)
      have S' := push_stk hw wd (show w.length - 1 - i < w.length by omega) S
      refine ⟨m', σ'', q1, _, q2, ?_, q3, fun k c hk hc => q4 k c hk (kb k c hk hc), fun _ => ⟨r, q5, q6⟩⟩
      rw [show w.length - (i + 1) = w.length - 1 - i by omega]
      exact S')
    w.length 0 (w.length + 1) m σ (by omega) (by omega) ⟨[], L, .nil, h, fun k c _ hc => hc, fun h => absurd h (Nat.lt_irrefl _)⟩
  obtain ⟨r, b1, b2⟩ := b' hw0
  rw [Nat.sub_self] at S'
  refine ⟨m', σ', r, st, ?_, L', S', g', kb', b1, b2⟩
  have hs : srcOk (.Name "place" p) (.rng ((w.length : Int) - 1) (-1) (-1)) σ = true := by
    show ((nameOf (.Name "place" p)).isSome && intOk ((w.length : Int) - 1) && intOk (-1) && (decide ((-1 : Int) = 1) || decide ((-1 : Int) = -1))) = true
    rw [intOk_of (show ((w.length : Int) - 1).natAbs ≤ _ by omega)]; rfl
  have hf : fuelOf (.rng ((w.length : Int) - 1) (-1) (-1)) σ = w.length + 1 := by
    show (if (-1 : Int) = 1 then ((-1 : Int) - ((w.length : Int) - 1)).toNat + 1 else ((w.length : Int) - 1 - (-1)).toNat + 1) = _
    rw [if_neg (by decide)]; omega
  rw [show ex OL m (lq 9) σ = _ from congrArg (fun s => ex OL m s σ) e, ex_for (lq9_i L (by omega)) hs, hf]
  exact e1
end Mine.L1
end

section
open PySem PySem.W PyProof.Rows
set_option maxRecDepth 100000
set_option linter.unusedSimpArgs false
set_option maxHeartbeats 1000000
namespace Mine.L1
variable {O : Oracle} {σ : Sto} {m : Loc} {a wd sz b r h : Nat} {size : Int} {w : List Nat} {st : List (List Nat × List Nat)} {p : List Nat × List Nat}

structure LE (m : Loc) (a r h : Nat) : Prop where
  pile : m.lookup (Str.ofString "pile") = some (.ref a)
  blocks : m.lookup (Str.ofString "blocks") = some (.ref r)
  halves : m.lookup (Str.ofString "halves") = some (.ref h)
  len : m.lookup (Str.ofString "len") = none
  range : m.lookup (Str.ofString "range") = none
noncomputable def leNames : List Str := ["pile", "blocks", "halves", "len", "range"]
theorem LE.set {x : Str} {v : AV} (L : LE m a r h) (hx : ∀ y ∈ leNames, y ≠ x) : LE (setL m x v) a r h := by
  have k : ∀ y ∈ leNames, (setL m x v).lookup y = m.lookup y := fun y hy => by rw [lookup_setL, if_neg (hx y hy)]
  exact ⟨(k _ (by decide)).trans L.pile, (k _ (by decide)).trans L.blocks, (k _ (by decide)).trans L.halves, (k _ (by decide)).trans L.len, (k _ (by decide)).trans L.range⟩

theorem lq10_ok : ex O m (lq 10) σ = some (.next, setL m (Str.ofString "halves") (.ref σ.length), σ ++ [.list []]) := by
  (have e : lq 10 = lq 10 := rfl; conv at e => rhs; whnf)
  rw [e]
  simp only [ev_list, evs_nil, ex_assign, List.length_nil, bind2_some]
  rfl
noncomputable def hb (i : Nat) : PySem.Stmt := ((forB (lq 11))[i]?).getD (.Pass default)
theorem hb_is : forB (lq 11) = [hb 0, hb 1] := by kernel_rfl
theorem split_call (P : OPr O) {x : List Nat} (hx : x.length ≤ 1000000) : O (Str.ofString "#split") [.str x, .str [10]] σ = some (.ref σ.length, σ ++ [.list ((cutL 10 x).map .str)]) := by
  rw [P.p _ _ _ (by decide), prim7]
  show (if x.length ≤ 1000000 then some (AV.ref σ.length, σ ++ [Cell.list ((cutL 10 x).map .str)]) else none) = _
  rw [if_pos hx]
theorem mth_split : mthOf (Str.ofString "split") = some .split := by rfl
theorem recv_split (l : List Nat) : recv .split (.str l) σ = true := rfl
theorem meth_split (l : List Nat) (args : List AV) : methCall O .split (.str l) args σ = O "#split" (.str l :: args) σ := rfl
theorem hb_0 (P : OPr O) (hbl : m.lookup (Str.ofString "block") = some (.str (bothP p))) (h1 : ∀ c ∈ p.1, c ≠ 10) (h2 : ∃ t, p.2 = 10 :: t) (hl : (bothP p).length ≤ 1760) :
    ∃ σ', ex O m (hb 0) σ = some (.next, setL m (Str.ofString "own") (.str p.1), σ') ∧ Keeps σ σ' := by
  obtain ⟨t, h2⟩ := h2
  have cut : cutL 10 (bothP p) = p.1 :: cutL 10 t := by
    show cutL 10 (p.1 ++ p.2) = _
    rw [h2]
    exact cutL_app 10 p.1 t fun q => h1 10 q rfl
  have hc : ∀ x : List Nat, (cutL 10 x).length ≤ x.length + 1 := by
    intro x
    induction x with
    | nil => exact Nat.le_refl _
    | cons y x ih =>
      show (if y = 10 then [] :: cutL 10 x else match cutL 10 x with | [] => [[y]] | p :: ps => (y :: p) :: ps).length ≤ _
      by_cases hy : y = 10
      · rw [if_pos hy, List.length_cons, List.length_cons]; omega
      · rw [if_neg hy]
        cases hq : cutL 10 x with
        | nil => simp
        | cons p ps =>
          rw [hq] at ih
          simp only [List.length_cons] at *
          omega
  have hs : subs (.ref σ.length) (.int 0) (σ ++ [.list ((cutL 10 (bothP p)).map .str)]) = some (.str p.1) := by
    have hlen := hc (bothP p)
    have hpos : 0 < ((cutL 10 (bothP p)).map AV.str).length := by rw [cut]; simp
    have hg : (σ ++ [Cell.list ((cutL 10 (bothP p)).map .str)])[σ.length]? = some (.list ((cutL 10 (bothP p)).map .str)) := by simp
    have h0 : ((cutL 10 (bothP p)).map AV.str)[0]? = some (.str p.1) := by rw [cut]; rfl
    rw [subs_list (show (0 : Int) = (0 : Nat) from rfl) hg hpos (by rw [List.length_map]; omega), ← List.getElem?_eq_getElem hpos, h0]
  refine ⟨_, ?_, Keeps.app σ [.list ((cutL 10 (bothP p)).map .str)]⟩
  have hsp : O "#split" [.str (bothP p), .str [10]] σ = some (.ref σ.length, σ ++ [.list ((cutL 10 (bothP p)).map .str)]) := split_call P (by omega)
  (have e : hb 0 = hb 0 := rfl; conv at e => rhs; whnf)
  rw [e]
  simp only [ev_const, const_int, const_str, ev_name, ev_callA, ev_subC, evs_nil, evs_cons, ex_assign, bind1_some, bind2_some]
  simp only [mth_split, recv_split, meth_split, hbl, nlStr, bind1_some, bind2_some, if_true, if_true, hsp, hs]
theorem hb_1 (L : LE m a r h) (hbl : m.lookup (Str.ofString "block") = some (.str (bothP p))) (ho : m.lookup (Str.ofString "own") = some (.str p.1)) (hl : (bothP p).length ≤ 1760) {xs : List AV} (hh : σ[h]? = some (.list xs)) (hx : xs.length ≤ 1000) :
    ex O m (hb 1) σ = some (.next, m, σ.set h (.list (xs ++ [pairAV p]))) := by
  have l1 : p.1.length ≤ 1760 := by rw [List.length_append] at hl; omega
  have lp : builtin O .len [.str p.1] σ = some (.int p.1.length, σ) := by
    show (if sizeOk p.1.length then some (AV.int p.1.length, σ) else none) = _
    rw [if_pos (sizeOk_of (by omega))]
  have hd : (bothP p).drop p.1.length = p.2 := by
    show (p.1 ++ p.2).drop p.1.length = p.2
    rw [List.drop_left]
  have hs : slc (.str (bothP p)) (some (p.1.length : Int)) none none σ = some (.str p.2, σ) := by
    simp only [slc_str', if_neg (show ¬ ((none : Option Int) = some 0) by decide), sizeOk_of (show (bothP p).length ≤ 1000000 by omega), if_true, pick_from (bothP p) (show p.1.length ≤ (bothP p).length by rw [List.length_append]; omega), hd]
  (have e : hb 1 = hb 1 := rfl; conv at e => rhs; whnf)
  rw [e]
  simp only [ev_name, ev_tuple, ev_callN, ev_callA, ev_subSl, evs_nil, evs_cons, evOpt_none, evOpt_some, ex_expr, bind2_some]
  simp only [mth_append, L.halves, L.len, hbl, ho, bind1_some, bind2_some, recv_append, listAt, Option.isSome_some, if_true, if_false, Bool.false_eq_true, Option.isSome_none, Bool.false_eq_true, if_false, if_true, hh, bif_len, lp, bound_none, bound_int (show intOk (p.1.length : Int) = true from intOk_of (by omega)), hs, tup2, append_call (O := O) (v := .tup [.str p.1, .str p.2]) hh hx, pairAV]
/-- the halves -/
theorem lq11_ok (P : OPr O) (L : LE m a r h) (hst : ∀ p ∈ st, (∀ c ∈ p.1, c ≠ 10) ∧ (∃ t, p.2 = 10 :: t) ∧ (bothP p).length ≤ 1760) (hn : st.length ≤ 100) (hr : σ[r]? = some (.list ((st.map bothP).map .str))) (hh : σ[h]? = some (.list [])) (hne : h ≠ r) :
    ∃ m' σ', ex O m (lq 11) σ = some (.next, m', σ') ∧ LE m' a r h ∧ σ'[h]? = some (.list (st.map pairAV)) ∧ KeepsBut h σ σ' := by
  have e : ∃ p q, lq 11 = .For (.Name "block" p) (forI (lq 11)) (forB (lq 11)) [] q := ⟨_, _, by rfl⟩
  obtain ⟨p0, q0, e⟩ := e
  have hi : ev O m (forI (lq 11)) σ = some (.ref r, σ) := by
    (have e1 : forI (lq 11) = forI (lq 11) := rfl; conv at e1 => rhs; whnf)
    rw [e1]
    simp only [ev_name]
    simp only [L.blocks, bind1_some]
  obtain ⟨m', σ', e1, L', h', _, kb⟩ := forN_list (S := Unit) (f := fun _ _ => ()) (src := .ref r) (L := (st.map bothP).map .str) (body := fun v m σ => bind1 (bindT (.Name (Str.ofString "block") p0) v m) fun m' => exs O m' (forB (lq 11)) σ)
    (Inv := fun _ i m σ' => LE m a r h ∧ σ'[h]? = some (.list ((st.take i).map pairAV)) ∧ σ'[r]? = some (.list ((st.map bothP).map .str)) ∧ KeepsBut h σ σ')
    (fun _ i _ σ' I => next_list I.2.2.1 i)
    (fun _ i m σ' hi ⟨L, g, hr, kb⟩ => by
      have hi' : i < st.length := by simpa using hi
      obtain ⟨q1, q2, q3⟩ := hst st[i] (List.getElem_mem hi')
      have ev : ((st.map bothP).map AV.str)[i] = .str (bothP st[i]) := by simp
      rw [ev, bindT_name, bind1_some]
      have L1 := L.set (x := Str.ofString "block") (v := .str (bothP st[i])) (by decide)
      obtain ⟨σ1, e1, k1⟩ := hb_0 (O := O) (σ := σ') (m := setL m (Str.ofString "block") (.str (bothP st[i]))) (p := st[i]) P (by rw [lookup_setL, if_pos rfl]) q1 q2 q3
      have L2 := L1.set (x := Str.ofString "own") (v := .str st[i].1) (by decide)
      have e2 := hb_1 (O := O) (σ := σ1) (p := st[i]) L2 (by rw [lookup_setL, if_neg (by decide), lookup_setL, if_pos rfl]) (by rw [lookup_setL, if_pos rfl]) q3 (k1 _ _ g) (by rw [List.length_map, List.length_take]; omega)
      have hl : h < σ1.length := (List.getElem?_eq_some_iff.mp (k1 _ _ g)).1
      refine ⟨_, σ1.set h (.list ((st.take (i + 1)).map pairAV)), ?_, L2, ?_, ?_, ?_⟩
      · rw [hb_is, exs_cons, e1]
        dsimp only
        rw [exs_cons, e2, List.take_succ, List.getElem?_eq_getElem hi']
        simp only [Option.toList_some, List.map_append, List.map_cons, List.map_nil]
        rfl
      · simp [hl]
      · rw [List.getElem?_set_ne hne]; exact k1 _ _ hr
      · exact fun k c hk hc => by rw [List.getElem?_set_ne (Ne.symm hk)]; exact k1 _ _ (kb k c hk hc))
    ((st.map bothP).map AV.str).length 0 (((st.map bothP).map AV.str).length + 1) () m σ (by omega) (by omega) ⟨L, by simpa using hh, hr, fun k c _ hc => hc⟩
  refine ⟨m', σ', ?_, L', ?_, kb⟩
  · rw [show ex O m (lq 11) σ = _ from congrArg (fun s => ex O m s σ) e, ex_for hi (srcOk_list hr), fuel_list hr]
    exact e1
  · rw [h', List.take_of_length_le (by simp)]

/-- pieces are taken -/
theorem pops {n : Nat} {F : AV → Sto → Option (Option AV × Sto)} (hF1 : ∀ v σ y xs, xs.length ≤ 100 → σ[a]? = some (.acc size (xs ++ [y])) → F v σ = some (some y, σ.set a (.acc size xs))) (hF0 : ∀ v σ, σ[a]? = some (.acc size []) → F v σ = some (some emptyPair, σ)) :
    ∀ (st : List (List Nat × List Nat)) (i fuel : Nat) (acc : List AV) (σ : Sto), σ[a]? = some (.acc size (stk st)) → i + st.length + 1 = n → st.length + 1 < fuel → acc.length ≤ i → n ≤ 100 →
    compN (nextOf (.rng ((0 : Nat) : Int) (n : Int) 1)) F fuel i acc σ = some (acc ++ (st ++ [([], [])]).map pairAV, σ.set a (.acc size []))
  | st, i, 0, acc, σ, _, _, hf, _, _ => by omega
  | [], i, 1, acc, σ, _, _, hf, _, _ => by simp at hf
  | [], i, f + 2, acc, σ, h, h1, _, h2, h3 => by
    simp only [List.length_nil] at h1
    have h' : σ[a]? = some (.acc size []) := h
    rw [compN_eq, nextOf_rng, if_pos (by omega)]
    dsimp only
    rw [hF0 _ _ h']
    dsimp only
    rw [if_pos (sizeOk_of (by omega)), compN_eq, nextOf_rng, if_neg (by omega), set_same h']
    rfl
  | p :: st, i, f + 1, acc, σ, h, h1, hf, h2, h3 => by
    simp only [List.length_cons] at h1 hf
    have hl : a < σ.length := (List.getElem?_eq_some_iff.mp h).1
    rw [stk_c] at h
    rw [compN_eq, nextOf_rng, if_pos (by omega)]
    dsimp only
    rw [hF1 _ _ _ _ (by rw [stk_len]; omega) h]
    dsimp only
    rw [if_pos (sizeOk_of (by omega)), pops hF1 hF0 st (i + 1) f (acc ++ [pairAV p]) _ (by simp [hl]) (by omega) (by omega) (by rw [List.length_append, List.length_cons, List.length_nil]; omega) h3, List.set_set]
    simp
noncomputable def c12 : PySem.Expr := asgE (lq 12)
theorem lq12_ok (P : OPr O) (L : LE m a r h) (hr : σ[r]? = some (.list ((st.map bothP).map .str))) (hn : st.length ≤ 90) (ha : σ[a]? = some (.acc size (stk st))) :
    ex O m (lq 12) σ = some (.next, setL m (Str.ofString "taken") (.ref σ.length), σ.set a (.acc size []) ++ [.list ((st ++ [([], [])]).map pairAV)]) := by
  have e : ∃ p q s, c12 = .ListComp (cElt c12) [⟨.Name "k" p, cIter c12, [], 0⟩] s q ∧ s.names.lookup (Str.ofString "pile") = some .free := ⟨_, _, _, by rfl, by kernel_rfl⟩
  obtain ⟨p, q, s, e, f1⟩ := e
  have hlb : ((st.map bothP).map AV.str).length = st.length := by rw [List.length_map, List.length_map]
  have hit : ev O m (cIter c12) σ = some (.rng ((0 : Nat) : Int) ((st.length + 1 : Nat) : Int) 1, σ) := by
    have ll := len_list (O := O) hr (by omega)
    rw [hlb] at ll
    (have e : cIter c12 = cIter c12 := rfl; conv at e => rhs; whnf)
    rw [e]
    simp only [ev_const, const_int, ev_name, ev_binop, ev_callN, evs_nil, evs_cons, bind1_some, bind2_some]
    simp only [L.blocks, L.len, L.range, bind1_some, bind2_some, add_int', if_false, Bool.false_eq_true, Option.isSome_none, Bool.false_eq_true, if_false, bif_len, bif_range, ll]
    exact range1 (n := st.length + 1) (by omega)
  have hl : a < σ.length := (List.getElem?_eq_some_iff.mp ha).1
  have el : ∀ v σ', compF O m (.Name (Str.ofString "k") p) [] (cElt c12) s v σ' = bind2 (ev O (setL (sees s m) (Str.ofString "k") v) (cElt c12) σ') fun y σ4 => some (some y, σ4) := fun v σ' => by
    unfold compF
    simp only [bindT_name, bind1_some, trs_nil, bind2_some, if_true]
  have kp : ∀ v, (setL (sees s m) (Str.ofString "k") v).lookup (Str.ofString "pile") = some (.ref a) := fun v => by
    rw [lookup_setL, if_neg (by decide), lookup_sees f1]; exact L.pile
  have hc := pops (a := a) (size := size) (n := st.length + 1) (F := compF O m (.Name (Str.ofString "k") p) [] (cElt c12) s) (fun v σ' y xs hx hy => by
      rw [el]
      (have e2 : cElt c12 = cElt c12 := rfl; conv at e2 => rhs; whnf)
      rw [e2]
      simp only [ev_name, ev_callA, evs_nil, bind2_some]
      simp only [kp, mth_pop, bind1_some, bind2_some, recv_pop, meth_pop, isAccAt, if_true, hy, if_true, pop_call P hy (by omega)]) (fun v σ' hy => by
      rw [el]
      (have e2 : cElt c12 = cElt c12 := rfl; conv at e2 => rhs; whnf)
      rw [e2]
      simp only [ev_name, ev_callA, evs_nil, bind2_some]
      simp only [kp, mth_pop, bind1_some, bind2_some, recv_pop, meth_pop, isAccAt, if_true, hy, if_true, pop_none P hy]) st 0 (st.length + 2) [] σ ha (by omega) (by omega) (by simp) (by omega)
  have e' : ∃ p q, lq 12 = .Assign [.Name "taken" p] c12 q := ⟨_, _, by rfl⟩
  obtain ⟨p', q', e'⟩ := e'
  have e3 : ev O m c12 σ = some (.ref (σ.set a (.acc size [])).length, σ.set a (.acc size []) ++ [.list ((st ++ [([], [])]).map pairAV)]) := by
    rw [show ev O m c12 σ = _ from congrArg (fun s => ev O m s σ) e]
    have hso : srcOk (.Name (Str.ofString "k") p) (.rng ((0 : Nat) : Int) ((st.length + 1 : Nat) : Int) 1) σ = true := by
      rw [srcOk_rng1, intOk_of (show (((0 : Nat) : Int)).natAbs ≤ _ by omega), intOk_of (show (((st.length + 1 : Nat) : Int)).natAbs ≤ _ by omega)]; rfl
    exact ev_comp hit hso (by rw [fuel_rng, rngL_len]; exact hc)
  rw [List.length_set] at e3
  rw [e']
  exact asg e3
theorem eq_pairs : ∀ l : List (List Nat × List Nat), eqAVs (l.map pairAV) (l.map pairAV) = some true
  | [] => rfl
  | p :: l => by
    rw [List.map_cons, eqAVs_cons, eq_pairs l]
    have : eqAV (pairAV p) (pairAV p) = some true := by
      show (bind1 (some (p.1 == p.1)) fun a => bind1 (bind1 (some (p.2 == p.2)) fun a => bind1 (some true) fun b => some (a && b)) fun b => some (a && b)) = _
      simp [bind1_some]
    rw [this]
    rfl
theorem add_list {r q : Nat} {xs ys : List AV} (h1 : σ[r]? = some (.list xs)) (h2 : σ[q]? = some (.list ys)) (hl : xs.length + ys.length ≤ 1000) : binop .Add (.ref r) (.ref q) σ = some (.ref σ.length, σ ++ [.list (xs ++ ys)]) := by
  show (bind1 (listAt σ r) fun xs => bind1 (listAt σ q) fun ys => if sizeOk (xs.length + ys.length) then some (AV.ref σ.length, σ ++ [Cell.list (xs ++ ys)]) else none) = _
  rw [listAt_of h1, bind1_some, listAt_of h2, bind1_some, if_pos (sizeOk_of (by omega))]
theorem eq_lists {r q : Nat} {l : List (List Nat × List Nat)} (h1 : σ[r]? = some (.list (l.map pairAV))) (h2 : σ[q]? = some (.list (l.map pairAV))) : eqTop (.ref r) (.ref q) σ = some true := by
  rw [eqTop_ref, listAt_of h1, bind1_some, listAt_of h2, bind1_some]
  exact (if_pos rfl).trans (eq_pairs l)
theorem last_new (σ : Sto) (c : Cell) : (σ ++ [c])[σ.length]? = some c := by simp
theorem map_emp (st : List (List Nat × List Nat)) : st.map pairAV ++ [.tup [.str [], .str []]] = (st ++ [([], [])]).map pairAV := by
  rw [List.map_append]; rfl
theorem lq13_ok {k : Nat} (ht : m.lookup (Str.ofString "taken") = some (.ref k)) (hh : m.lookup (Str.ofString "halves") = some (.ref h)) (h1 : σ[k]? = some (.list ((st ++ [([], [])]).map pairAV))) (h2 : σ[h]? = some (.list (st.map pairAV))) (hn : st.length ≤ 100) :
    ∃ σ', ex O m (lq 13) σ = some (.ret (.bool true), m, σ') ∧ Keeps σ σ' := by
  have hk : Keeps σ (σ ++ [Cell.list [AV.tup [.str [], .str []]]]) := Keeps.app _ _
  have hnew := last_new σ (Cell.list [AV.tup [.str [], .str []]])
  have ad := add_list (hk _ _ h2) hnew (by rw [List.length_map, List.length_cons, List.length_nil]; omega)
  rw [map_emp] at ad
  have eq := eq_lists (Keeps.app (σ ++ [Cell.list [AV.tup [.str [], .str []]]]) [.list ((st ++ [([], [])]).map pairAV)] _ _ (hk _ _ h1)) (last_new (σ ++ [Cell.list [AV.tup [.str [], .str []]]]) (.list ((st ++ [([], [])]).map pairAV)))
  refine ⟨_, ?_, hk.trans (Keeps.app _ [.list ((st ++ [([], [])]).map pairAV)])⟩
  have t1 : sizeOk 1 = true := rfl
  have t2 : sizeOk 2 = true := rfl
  (have e : lq 13 = lq 13 := rfl; conv at e => rhs; whnf)
  rw [e]
  simp only [ev_const, const_str, ev_name, ev_binop, ev_list, ev_tuple, ev_cmp, isQ_name, isQ_bin, evs_nil, evs_cons, ex_return, List.length_cons, List.length_nil, Nat.reduceAdd, bind1_some, bind2_some, cmp_eq, if_false, Bool.false_eq_true]
  simp only [ht, hh, emptyStr, t1, t2, List.length_cons, List.length_nil, Nat.reduceAdd, if_true, ad, eq, bind1_some, bind2_some, if_true]
end Mine.L1
end

section
open PySem PySem.W PyProof.Rows
set_option maxRecDepth 100000
set_option linter.unusedSimpArgs false
set_option maxHeartbeats 1000000
namespace Mine.L1

theorem stk_parts {w : List Nat} {wd b : Nat} {st : List (List Nat × List Nat)} (hw : ∀ c ∈ w, c ≠ 10) (hwl : w.length ≤ 8) (hwd : wd ≤ 2) (S : Stk w wd b st) : ∀ p ∈ st, (∀ c ∈ p.1, c ≠ 10) ∧ (∃ t, p.2 = 10 :: t) ∧ (bothP p).length ≤ 1760 := by
  have hl := stk_pc hwl hwd S
  intro p hp
  refine ⟨?_, ?_, hl p hp⟩
  · clear hl
    induction S with
    | nil => cases hp
    | cons P _ _ ih =>
      rcases List.mem_cons.mp hp with rfl | hp
      · intro c hc
        rw [P.word] at hc
        exact hw c (seg_mem hc)
      · exact ih hp
  · clear hl
    induction S with
    | nil => cases hp
    | cons P _ _ ih =>
      rcases List.mem_cons.mp hp with rfl | hp
      · exact P.open_
      · exact ih hp

theorem law_run {σ : Sto} {vs : List AV} (hv : ∀ v ∈ vs, IsInt v) (hl : vs.length ≤ 63) (c0 : σ[0]? = some (.code 93 29 19)) (c1 : σ[1]? = some (.code 100 32 32)) :
    ∃ m' σ', exs OL [("script", .frz vs)] (fnOf "law").body σ = some (.ret (.bool true), m', σ') ∧ σ'[0]? = some (.code 93 29 19) ∧ σ'[1]? = some (.code 100 32 32) := by
  have len2 : 2 ≤ σ.length := by
    have := (List.getElem?_eq_some_iff.mp c1).1
    omega
  rw [law_body]
  obtain ⟨a, b, t, c, w, wd, sz, p, q, σ1, e1, w4, w7, hw, hwd, hsz, hp, g1, _, k1⟩ := law_head oprL hv hl [lq 9, lq 10, lq 11, lq 12, lq 13] σ
  have hw10 : ∀ c ∈ w, c ≠ 10 := fun c hc h => by have := (hw c hc).1; omega
  have L : LL (lm vs a b t c w wd sz p q) w wd sz p := ⟨rfl, rfl, rfl, rfl, rfl, rfl, rfl, rfl, rfl⟩
  obtain ⟨m2, σ2, r, st, e2, L2, S, g2, kb2, b2, r2⟩ := lq9_ok L hw10 (by omega) (by omega) hwd hsz g1 (by omega) (k1 _ _ c0) (k1 _ _ c1)
  have sS := stk_size S
  have e3 := lq10_ok (O := OL) (m := m2) (σ := σ2)
  have LE3 : LE (setL m2 (Str.ofString "halves") (.ref σ2.length)) p r σ2.length :=
    ⟨by rw [lookup_setL, if_neg (by decide)]; exact L2.pile, by rw [lookup_setL, if_neg (by decide)]; exact b2, by rw [lookup_setL, if_pos rfl], by rw [lookup_setL, if_neg (by decide)]; exact L2.len, by rw [lookup_setL, if_neg (by decide)]; exact L2.range⟩
  have hr : r < σ2.length := (List.getElem?_eq_some_iff.mp r2).1
  have hpl : p < σ2.length := (List.getElem?_eq_some_iff.mp g2).1
  have hne : r ≠ p := fun h => by
    subst h
    rw [g2] at r2
    cases r2
  have k3 : Keeps σ2 (σ2 ++ [Cell.list []]) := Keeps.app _ _
  have n3 := last_new σ2 (Cell.list [])
  generalize setL m2 (Str.ofString "halves") (.ref σ2.length) = m3 at e3 LE3
  generalize σ2 ++ [Cell.list []] = σ3 at e3 k3 n3
  obtain ⟨m4, σ4, e4, LE4, h4, kb4⟩ := lq11_ok oprL LE3 (stk_parts hw10 (by omega) hwd S) (by omega) (k3 _ _ r2) n3 (by omega)
  have e5 := lq12_ok oprL LE4 (kb4 _ _ (by omega) (k3 _ _ r2)) (by omega) (kb4 _ _ (by omega) (k3 _ _ g2))
  have hl4 : σ2.length < σ4.length := (List.getElem?_eq_some_iff.mp h4).1
  have n5 := last_new (σ4.set p (.acc sz [])) (Cell.list ((st ++ [([], [])]).map pairAV))
  rw [List.length_set] at n5
  have h5 : (σ4.set p (.acc sz []) ++ [Cell.list ((st ++ [([], [])]).map pairAV)])[σ2.length]? = some (.list (st.map pairAV)) := Keeps.app _ _ _ _ (by rw [List.getElem?_set_ne (by omega)]; exact h4)
  have t5 : (setL m4 (Str.ofString "taken") (.ref σ4.length)).lookup (Str.ofString "taken") = some (.ref σ4.length) := by rw [lookup_setL, if_pos rfl]
  have hh5 : (setL m4 (Str.ofString "taken") (.ref σ4.length)).lookup (Str.ofString "halves") = some (.ref σ2.length) := by rw [lookup_setL, if_neg (by decide)]; exact LE4.halves
  have low : ∀ k c, k < 2 → σ[k]? = some c → (σ4.set p (.acc sz []) ++ [Cell.list ((st ++ [([], [])]).map pairAV)])[k]? = some c := fun k c hk hc => Keeps.app _ _ _ _ (by
    rw [List.getElem?_set_ne (by omega)]
    exact kb4 _ _ (by omega) (k3 _ _ (kb2 _ _ (by omega) (k1 _ _ hc))))
  generalize setL m4 (Str.ofString "taken") (.ref σ4.length) = m5 at e5 t5 hh5
  generalize σ4.set p (.acc sz []) ++ [Cell.list ((st ++ [([], [])]).map pairAV)] = σ5 at e5 n5 h5 low
  obtain ⟨σ6, e6, k6⟩ := lq13_ok (O := OL) t5 hh5 n5 h5 (by omega)
  refine ⟨m5, σ6, ?_, k6 _ _ (low 0 _ (by omega) c0), k6 _ _ (low 1 _ (by omega) c1)⟩
  rw [e1, exs_cons, e2]
  dsimp only
  rw [exs_cons, e3]
  dsimp only
  rw [exs_cons, e4]
  dsimp only
  rw [exs_cons, e5]
  dsimp only
  rw [exs_cons, e6]
theorem pure_ (zs : List Int) (hz : zs.length ≤ 63) : ∃ σ', calls pr fns 20 "law" [.frz (zs.map .int)] sto0 = some (.bool true, σ') ∧ σ'[0]? = some (.code 93 29 19) ∧ σ'[1]? = some (.code 100 32 32) := by
  obtain ⟨m', σ', e, c0, c1⟩ := law_run (σ := sto0) (vs := zs.map .int) (fun v hv => by
    obtain ⟨i, _, rfl⟩ := List.mem_map.mp hv
    exact ⟨i, rfl⟩) (by rw [List.length_map]; exact hz) rfl rfl
  refine ⟨σ', ?_, c0, c1⟩
  rw [calls_fn (.inr (.inr rfl)), callFn_eq law_pars rfl rfl]
  show retOf (exs OL [("script", .frz (zs.map .int))] (fnOf "law").body sto0) = _
  rw [e]
  rfl
end Mine.L1
end

section
open PySem PySem.W PyProof.Rows PySem.Calls PySem.SeqAt
set_option Elab.async false
set_option maxRecDepth 100000
set_option linter.unusedSimpArgs false
set_option maxHeartbeats 8000000
namespace Mine.L1
theorem law_holds : PySem.Challenge.rw_wu0020_01.Holds := by
  refine Mine.hd1 ?_
  intro w s₀ s₁ mg mb G Y fa o pm cd doc dV kV ho hd hcd hD hmg hg args vals as hpre hlay hrd hwl hlo
  have KX : (K w.params).In s₁.heap := km_in_of Y
  have ht := km_tabs_of Y
  have hfa : fa = 232 := by
    have hmg' : mg "law" = some (.ref 232) := mg_of KX G.T.g (by kernel_rfl)
    have := hmg'.symm.trans hmg
    exact (Value.ref.inj (Option.some.inj this)).symm
  clear hd hcd hD ho hmg
  subst hfa
  obtain ⟨l, rfl, zs, us, hlen, hL, hI⟩ := law_args hpre hlay hrd hwl hlo
  refine wpAny_mono (law_mid 20 (by omega) pure_ KX ht G.T.g G.T.b G.T.nolimit G.T.builtins (bmod_of_top G.T) (.of_eq hg) hlen hL hI ⟨rfl, by decide, by decide⟩) (fun v s' h => ?_) fun _ _ x => x.elim
  obtain ⟨rfl, h1, h2, h3⟩ := h
  exact ⟨.inl ⟨.bool true, .bool true, [], rfl, fun cls => by kernel_rfl, .bool _, by kernel_rfl, fun _ => ⟨List.nodup_nil, fun a ha => by cases ha⟩⟩, h1, h2, h3⟩
end Mine.L1
end

theorem PySem.Challenge.cw_wu0020_01_holds : PySem.Challenge.rw_wu0020_01.Holds :=
  Mine.L1.law_holds
