import PyProof.Rows.All
import Wide.All
import OpenK.AllK
import Wide.FinOn
import PySem.Challenge.RW_wu0020_03
set_option Elab.async false
local macro_rules | `(tactic| omega) => `(tactic| lia)

section
open PySem PySem.W PyProof.Rows PySem.Calls
set_option maxRecDepth 100000
set_option linter.unusedSimpArgs false
namespace Mine

noncomputable section

/-- abstract values: texts are lists of code points; lists and accumulators are cells -/
inductive AV where
  | none
  | bool (b : Bool)
  | int (i : Int)
  | str (l : List Nat)
  | tup (xs : List AV)
  | rng (lo hi st : Int)
  | frz (xs : List AV)
  | ref (r : Nat)

inductive Cell where
  | list (xs : List AV)
  | acc (size : Int) (xs : List AV)

noncomputable abbrev Sto := List Cell
noncomputable abbrev Loc := List (Str × AV)
noncomputable abbrev Oracle := Str → List AV → Sto → Option (AV × Sto)

inductive AFlow where
  | next | brk
  | ret (v : AV)

/-- one step behind the other -/
noncomputable def bind1 {α β : Type} (o : Option α) (f : α → Option β) : Option β := match o with
  | some a => f a
  | none => none
noncomputable def bind2 {α β γ : Type} (o : Option (α × β)) (f : α → β → Option γ) : Option γ := match o with
  | some (a, b) => f a b
  | none => none

noncomputable def asInt : AV → Option Int
  | .int i => some i
  | _ => none
noncomputable def asStr : AV → Option (List Nat)
  | .str l => some l
  | _ => none
noncomputable def asTup : AV → Option (List AV)
  | .tup xs => some xs
  | _ => none
noncomputable def asRef : AV → Option Nat
  | .ref r => some r
  | _ => none
noncomputable def asBool : AV → Option Bool
  | .bool b => some b
  | _ => none
noncomputable def listAt (σ : Sto) (r : Nat) : Option (List AV) := match σ[r]? with
  | some (.list xs) => some xs
  | _ => none
noncomputable def isAccAt (σ : Sto) (r : Nat) : Bool := match σ[r]? with
  | some (.acc _ _) => true
  | _ => false
noncomputable def one {α : Type} : List α → Option α
  | [a] => some a
  | _ => none
noncomputable def two {α : Type} : List α → Option (α × α)
  | [a, b] => some (a, b)
  | _ => none
/-- a value that is true or false -/
noncomputable def byV (w : Option (AV × Sto)) : Option (Bool × Sto) := bind2 w fun v σ => bind1 (asBool v) fun b => some (b, σ)

noncomputable def setL (m : Loc) (x : Str) (v : AV) : Loc :=
  match m with
  | [] => [(x, v)]
  | p :: r => if p.1 = x then (x, v) :: r else p :: setL r x v
theorem setL_nil {x : Str} {v : AV} : setL [] x v = [(x, v)] := rfl
theorem setL_cons {p : Str × AV} {r : Loc} {x : Str} {v : AV} : setL (p :: r) x v = if p.1 = x then (x, v) :: r else p :: setL r x v := rfl

noncomputable def sizeOk (n : Nat) : Bool := Nat.ble n 1000000
noncomputable def intOk (i : Int) : Bool := Nat.ble i.natAbs 1000000000000

noncomputable def constAV : Const → Option AV
  | .none => some .none
  | .bool b => some (.bool b)
  | .int i => some (.int i)
  | .str s => some (.str s.cps.toList)
  | _ => none

noncomputable def mulText (n : Int) (l : List Nat) : List Nat := (List.replicate n.toNat l).flatten

noncomputable def binop (op : Operator) (a b : AV) (σ : Sto) : Option (AV × Sto) :=
  match op with
  | .Add => match a with
    | .int x => bind1 (asInt b) fun y => some (.int (x + y), σ)
    | .str x => bind1 (asStr b) fun y => if sizeOk (x.length + y.length) then some (.str (x ++ y), σ) else none
    | _ => none
  | .Sub => bind1 (asInt a) fun x => bind1 (asInt b) fun y => some (.int (x - y), σ)
  | .Mult => bind1 (asInt a) fun x => match b with
    | .int y => if intOk x && intOk y then some (.int (x * y), σ) else none
    | .str y => if sizeOk x.natAbs && sizeOk y.length && sizeOk (x.natAbs * y.length) then some (.str (mulText x y), σ) else none
    | _ => none
  | .FloorDiv => bind1 (asInt a) fun x => bind1 (asInt b) fun y => if 0 < y ∧ y < 1000000000 then some (.int (x / y), σ) else none
  | .Mod => bind1 (asInt a) fun x => bind1 (asInt b) fun y => if 0 < y then some (.int (x % y), σ) else none
  | _ => none

/-- equality of ints, texts, and of tuples of these -/
noncomputable def eq0 (x y : AV) : Option Bool :=
  match x with
  | .int i => bind1 (asInt y) fun j => some (i == j)
  | .str l => bind1 (asStr y) fun k => some (l == k)
  | _ => none
noncomputable def eq0s : List AV → List AV → Option Bool
  | [], [] => some true
  | x :: xs, y :: ys => bind1 (eq0 x y) fun a => bind1 (eq0s xs ys) fun b => some (a && b)
  | _, _ => none
noncomputable def eqAV (x y : AV) : Option Bool :=
  match x with
  | .int i => bind1 (asInt y) fun j => some (i == j)
  | .str l => bind1 (asStr y) fun k => some (l == k)
  | .tup xs => bind1 (asTup y) fun ys => eq0s xs ys
  | _ => none
noncomputable def eqAVs : List AV → List AV → Option Bool
  | [], [] => some true
  | x :: xs, y :: ys => bind1 (eqAV x y) fun a => bind1 (eqAVs xs ys) fun b => some (a && b)
  | _, _ => none
theorem eqAVs_nil : eqAVs [] [] = some true := rfl
/-- Python's == on two values -/
noncomputable def eqTop (a b : AV) (σ : Sto) : Option Bool :=
  match a with
  | .ref r => bind1 (asRef b) fun q => bind1 (listAt σ r) fun xs => bind1 (listAt σ q) fun ys => if xs.length = ys.length then eqAVs xs ys else some false
  | a => eqAV a b

noncomputable def anyEq (v : AV) : List AV → Option Bool
  | [] => some false
  | x :: xs => bind1 (eqAV x v) fun a => bind1 (anyEq v xs) fun b => some (a || b)

noncomputable def ltL : List Nat → List Nat → Bool
  | _, [] => false
  | [], _ :: _ => true
  | x :: xs, y :: ys => if x < y then true else if x = y then ltL xs ys else false
theorem ltL_z : ∀ {x : List Nat}, ltL x [] = false
  | [] => rfl
  | _ :: _ => rfl
theorem ltL_0 {y : Nat} {ys : List Nat} : ltL [] (y :: ys) = true := rfl
theorem ltL_c {x y : Nat} {xs ys : List Nat} : ltL (x :: xs) (y :: ys) = if x < y then true else if x = y then ltL xs ys else false := rfl

noncomputable def ordOp (op : CmpOp) (lt gt : Bool) : Option Bool :=
  match op with
  | .Lt => some lt
  | .Gt => some gt
  | .LtE => some (!gt)
  | .GtE => some (!lt)
  | _ => none

noncomputable def cmpop (op : CmpOp) (a b : AV) (σ : Sto) : Option Bool :=
  match op with
  | .Eq => eqTop a b σ
  | .NotEq => bind1 (eqTop a b σ) fun c => some (!c)
  | .In => bind1 (asRef b) fun r => bind1 (listAt σ r) fun xs => anyEq a xs
  | .NotIn => bind1 (asRef b) fun r => bind1 (listAt σ r) fun xs => bind1 (anyEq a xs) fun c => some (!c)
  | op => match a with
    | .int x => bind1 (asInt b) fun y => ordOp op (decide (x < y)) (decide (y < x))
    | .str x => bind1 (asStr b) fun y => ordOp op (ltL x y) (ltL y x)
    | _ => none

noncomputable def listOf (v : AV) (σ : Sto) : Option (List AV) :=
  match v with
  | .ref r => listAt σ r
  | .frz xs => some xs
  | .tup xs => some xs
  | _ => none

/-- an index into a list or tuple or text, not negative -/
noncomputable def getIx : Int → Option Nat
  | .ofNat n => if sizeOk n then some n else none
  | .negSucc _ => none
noncomputable def chrIx : Int → Option Nat
  | .ofNat n => if Nat.ble n 1114111 then some n else none
  | .negSucc _ => none

noncomputable def subs (a i : AV) (σ : Sto) : Option AV :=
  bind1 (asInt i) fun i => bind1 (getIx i) fun n => match a with
    | .str l => bind1 l[n]? fun c => some (.str [c])
    | .tup xs => xs[n]?
    | .ref r => bind1 (listAt σ r) fun xs => xs[n]?
    | _ => none

/-- a slice's bound: none, or an int -/
noncomputable def bound (v : Option AV) : Option (Option Int) :=
  match v with
  | none => some none
  | some v => bind1 (asInt v) fun i => if intOk i then some (some i) else none

/-- a cut of a list, as Python cuts -/
noncomputable def pickL {α : Type} (l : List α) (lo hi st : Option Int) : List α := (Builtin.Str.strSliceIndices lo hi (st.getD 1) l.length).filterMap (l[·]?)

noncomputable def slc (a : AV) (lo hi st : Option Int) (σ : Sto) : Option (AV × Sto) :=
  if st = some 0 then none else match a with
  | .str l => if sizeOk l.length then some (.str (pickL l lo hi st), σ) else none
  | .ref r => bind1 (listAt σ r) fun xs => if sizeOk xs.length then some (.ref σ.length, σ ++ [.list (pickL xs lo hi st)]) else none
  | .frz xs => if sizeOk xs.length then some (.ref σ.length, σ ++ [.list (pickL xs lo hi st)]) else none
  | _ => none

noncomputable def txts : List AV → Option (List (List Nat))
  | [] => some []
  | v :: r => bind1 (asStr v) fun l => bind1 (txts r) fun ls => some (l :: ls)
noncomputable def intsOf : List AV → Option (List Int)
  | [] => some []
  | v :: r => bind1 (asInt v) fun i => bind1 (intsOf r) fun is => some (i :: is)

noncomputable def joinL (sep : List Nat) : List (List Nat) → List Nat
  | [] => []
  | [x] => x
  | x :: r => x ++ sep ++ joinL sep r
theorem joinL_1 {s x : List Nat} : joinL s [x] = x := rfl
theorem joinL_2 {s x y : List Nat} {r : List (List Nat)} : joinL s (x :: y :: r) = x ++ s ++ joinL s (y :: r) := rfl

noncomputable def total (l : List (List Nat)) : Nat := (l.map List.length).sum

noncomputable def emptyPair : AV := .tup [.str [], .str []]

noncomputable def prOf (x : AV) : Option (Int × List Nat) := bind1 (asTup x) fun xs => bind2 (two xs) fun a s => bind1 (asInt a) fun i => bind1 (asStr s) fun l => some (i, l)
noncomputable def ltAV (x y : AV) : Option Bool := bind2 (prOf x) fun a s => bind2 (prOf y) fun b t => some (if a < b then true else if a = b then ltL s t else false)
noncomputable def insAV (v : AV) : List AV → Option (List AV)
  | [] => some [v]
  | x :: xs => match ltAV v x with
    | some true => some (v :: x :: xs)
    | some false => if ltAV x v = some true then (insAV v xs).map (x :: ·) else none
    | none => none
theorem insAV_c {v x : AV} {xs : List AV} : insAV v (x :: xs) = (match ltAV v x with
    | some true => some (v :: x :: xs)
    | some false => if ltAV x v = some true then (insAV v xs).map (x :: ·) else none
    | none => none) := rfl
noncomputable def sortAV : List AV → Option (List AV)
  | [] => some []
  | x :: xs => match sortAV xs with
    | some ys => insAV x ys
    | none => none
theorem sortAV_c {x : AV} {xs : List AV} : sortAV (x :: xs) = (match sortAV xs with
    | some ys => insAV x ys
    | none => none) := rfl

inductive Mth where
  | join | append | push | pop | partCount
noncomputable def mthOf (x : Str) : Option Mth :=
  if x = "join" then some .join else if x = "append" then some .append else if x = "push" then some .push
  else if x = "pop" then some .pop else if x = "part_count" then some .partCount else none

/-- a call of the accumulator's, asked of the oracle by a name that opens with # -/
noncomputable def accCall (O : Oracle) (f : Str) (o : AV) (args : List AV) (σ : Sto) : Option (AV × Sto) :=
  bind1 (asRef o) fun r => if isAccAt σ r then O f (o :: args) σ else none

noncomputable def methCall (O : Oracle) (m : Mth) (o : AV) (args : List AV) (σ : Sto) : Option (AV × Sto) :=
  match m with
  | .join => bind1 (asStr o) fun sep => bind1 (one args) fun v => bind1 (listOf v σ) fun xs => bind1 (txts xs) fun ss =>
      if sizeOk (total ss + sep.length * ss.length) then some (.str (joinL sep ss), σ) else none
  | .append => bind1 (asRef o) fun r => bind1 (one args) fun v => bind1 (listAt σ r) fun xs => if sizeOk xs.length then some (.none, σ.set r (.list (xs ++ [v]))) else none
  | .push => accCall O "#push" o args σ
  | .pop => accCall O "#pop" o args σ
  | .partCount => accCall O "#part_count" o args σ

/-- what a method is asked of -/
noncomputable def recv (m : Mth) (o : AV) (σ : Sto) : Bool :=
  match m with
  | .join => (asStr o).isSome
  | .append => match asRef o with | some r => (listAt σ r).isSome | none => false
  | .push | .pop | .partCount => match asRef o with | some r => isAccAt σ r | none => false

inductive Bif where
  | len | chr | sum | range | sorted | accum
noncomputable def bifOf (x : Str) : Option Bif :=
  if x = "len" then some .len else if x = "chr" then some .chr
  else if x = "sum" then some .sum else if x = "range" then some .range else if x = "sorted" then some .sorted
  else if x = "_Accumulator" then some .accum else none

noncomputable def builtin (O : Oracle) (f : Bif) (args : List AV) (σ : Sto) : Option (AV × Sto) :=
  match f with
  | .len => bind1 (one args) fun v => match v with
    | .str l => if sizeOk l.length then some (.int l.length, σ) else none
    | _ => none
  | .chr => bind1 (one args) fun v => bind1 (asInt v) fun i => bind1 (chrIx i) fun n => some (.str [n], σ)
  | .sum => bind1 (one args) fun v => bind1 (asRef v) fun r => bind1 (listAt σ r) fun xs => bind1 (intsOf xs) fun is => some (.int is.sum, σ)
  | .range => match args with
    | [a] => bind1 (asInt a) fun b => if intOk b then some (.rng 0 b 1, σ) else none
    | [a, b] => bind1 (asInt a) fun a => bind1 (asInt b) fun b => if intOk a && intOk b then some (.rng a b 1, σ) else none
    | _ => none
  | .sorted => O "#sorted" args σ
  | .accum => O "#new" args σ

/-- the i-th item of what a loop goes over, or its end -/
noncomputable def nextOf (v : AV) (i : Nat) (σ : Sto) : Option (Option AV) :=
  match v with
  | .ref r => bind1 (listAt σ r) fun xs => some xs[i]?
  | .str l => some ((l[i]?).map fun c => .str [c])
  | .rng a b c => if c = 1 then some (if a + (i : Int) < b then some (.int (a + (i : Int))) else none) else none
  | _ => none
noncomputable def fuelOf (v : AV) (σ : Sto) : Nat :=
  match v with
  | .ref r => match σ[r]? with | some (.list xs) => xs.length + 1 | _ => 0
  | .str l => l.length + 1
  | .rng a b _ => (b - a).toNat + 1
  | _ => 0

noncomputable def nameOf : PySem.Expr → Option Str
  | .Name x _ => some x
  | _ => none
noncomputable def tupleOf : PySem.Expr → Option (List PySem.Expr)
  | .Tuple es _ _ => some es
  | _ => none
/-- a source that a loop may go over, with that target -/
noncomputable def srcOk (t : PySem.Expr) (v : AV) (σ : Sto) : Bool :=
  match v with
  | .ref r => (listAt σ r).isSome
  | .str _ => (nameOf t).isSome
  | .rng a b c => (nameOf t).isSome && intOk a && intOk b && decide (c = 1)
  | _ => false

/-- two names in a tuple -/
noncomputable def pairOf (t : PySem.Expr) : Option (Str × Str) := bind1 (tupleOf t) fun es => bind2 (two es) fun e1 e2 => bind1 (nameOf e1) fun x => bind1 (nameOf e2) fun y => if x = y then none else some (x, y)
noncomputable def bindT (t : PySem.Expr) (v : AV) (m : Loc) : Option Loc :=
  match nameOf t with
  | some x => some (setL m x v)
  | none => bind2 (pairOf t) fun x y => bind1 (asTup v) fun vs => bind2 (two vs) fun a b => some (setL (setL m x a) y b)

/-- a comprehension's loop -/
noncomputable def compN (next : Nat → Sto → Option (Option AV)) (elt : AV → Sto → Option (Option AV × Sto)) : Nat → Nat → List AV → Sto → Option (List AV × Sto)
  | 0, _, _, _ => none
  | f + 1, i, acc, σ => match next i σ with
    | none => none
    | some none => some (acc, σ)
    | some (some v) => match elt v σ with
      | some (some y, σ') => if sizeOk acc.length then compN next elt f (i + 1) (acc ++ [y]) σ' else none
      | some (none, σ') => compN next elt f (i + 1) acc σ'
      | none => none
theorem compN_eq {next : Nat → Sto → Option (Option AV)} {elt : AV → Sto → Option (Option AV × Sto)} {f i : Nat} {acc : List AV} {σ : Sto} : compN next elt (f + 1) i acc σ = (match next i σ with
    | none => none
    | some none => some (acc, σ)
    | some (some v) => match elt v σ with
      | some (some y, σ') => if sizeOk acc.length then compN next elt f (i + 1) (acc ++ [y]) σ' else none
      | some (none, σ') => compN next elt f (i + 1) acc σ'
      | none => none) := rfl

noncomputable def forN (next : Nat → Sto → Option (Option AV)) (body : AV → Loc → Sto → Option (AFlow × Loc × Sto)) : Nat → Nat → Loc → Sto → Option (AFlow × Loc × Sto)
  | 0, _, _, _ => none
  | f + 1, i, m, σ => match next i σ with
    | none => none
    | some none => some (.next, m, σ)
    | some (some v) => match body v m σ with
      | some (.next, m', σ') => forN next body f (i + 1) m' σ'
      | some (.brk, m', σ') => some (.next, m', σ')
      | some (.ret r, m', σ') => some (.ret r, m', σ')
      | none => none
theorem forN_eq {next : Nat → Sto → Option (Option AV)} {body : AV → Loc → Sto → Option (AFlow × Loc × Sto)} {f i : Nat} {m : Loc} {σ : Sto} : forN next body (f + 1) i m σ = (match next i σ with
    | none => none
    | some none => some (.next, m, σ)
    | some (some v) => match body v m σ with
      | some (.next, m', σ') => forN next body f (i + 1) m' σ'
      | some (.brk, m', σ') => some (.next, m', σ')
      | some (.ret r, m', σ') => some (.ret r, m', σ')
      | none => none) := rfl

noncomputable def whileN (test : Loc → Sto → Option (Bool × Sto)) (body : Loc → Sto → Option (AFlow × Loc × Sto)) : Nat → Loc → Sto → Option (AFlow × Loc × Sto)
  | 0, _, _ => none
  | f + 1, m, σ => match test m σ with
    | none => none
    | some (false, σ') => some (.next, m, σ')
    | some (true, σ') => match body m σ' with
      | some (.next, m', σ'') => whileN test body f m' σ''
      | some (.brk, m', σ'') => some (.next, m', σ'')
      | some (.ret r, m', σ'') => some (.ret r, m', σ'')
      | none => none
theorem whileN_eq {test : Loc → Sto → Option (Bool × Sto)} {body : Loc → Sto → Option (AFlow × Loc × Sto)} {f : Nat} {m : Loc} {σ : Sto} : whileN test body (f + 1) m σ = (match test m σ with
    | none => none
    | some (false, σ') => some (.next, m, σ')
    | some (true, σ') => match body m σ' with
      | some (.next, m', σ'') => whileN test body f m' σ''
      | some (.brk, m', σ'') => some (.next, m', σ'')
      | some (.ret r, m', σ'') => some (.ret r, m', σ'')
      | none => none) := rfl

noncomputable def cmpQ (op : CmpOp) (a b : AV) : Option Bool :=
  bind1 (asStr a) fun x => bind1 (asStr b) fun y => match op with
    | .GtE => some (!ltL x y)
    | .LtE => some (!ltL y x)
    | _ => none
theorem cmpQ_ge {x y : List Nat} : cmpQ .GtE (.str x) (.str y) = some (!ltL x y) := rfl
noncomputable def qname : Str := "QName"

noncomputable def sees (scope : Scope) (m : Loc) : Loc := m.filter fun p => scope.names.lookup p.1 == some .free

/-- a call of QName with one argument -/
noncomputable def isQN : PySem.Expr → Bool
  | .Name x _ => x == qname
  | _ => false
noncomputable def isQ : PySem.Expr → Bool
  | .Call f args ks _ => isQN f && args.length == 1 && ks.isEmpty
  | _ => false
noncomputable def isSl : PySem.Expr → Bool
  | .Slice .. => true
  | _ => false

/-- where and, or stop -/
noncomputable def stops (op : BoolOp) (b : Bool) : Bool := match op with
  | .And => !b
  | .Or => b
mutual
noncomputable def ev (O : Oracle) : Loc → PySem.Expr → Sto → Option (AV × Sto)
  | _, .Constant c _ _, σ => bind1 (constAV c) fun v => some (v, σ)
  | m, .Name x _, σ => bind1 (m.lookup x) fun v => some (v, σ)
  | m, .BoolOp op vs _, σ => evBool O m op vs σ
  | m, .BinOp l op r _, σ => bind2 (ev O m l σ) fun a σ1 => bind2 (ev O m r σ1) fun b σ2 => binop op a b σ2
  | m, .UnaryOp op x _, σ => match op with
    | .USub => bind2 (ev O m x σ) fun v σ1 => bind1 (asInt v) fun i => some (.int (-i), σ1)
    | .Not => bind2 (ev O m x σ) fun v σ1 => bind1 (asBool v) fun b => some (.bool (!b), σ1)
    | _ => none
  | m, .List es _, σ => bind2 (evs O m es σ) fun vs σ1 => if sizeOk vs.length then some (.ref σ1.length, σ1 ++ [.list vs]) else none
  | m, .Tuple es _ _, σ => bind2 (evs O m es σ) fun vs σ1 => if sizeOk vs.length then some (.tup vs, σ1) else none
  | m, .ListComp elt gens scope _, σ => match gens with
    | [⟨t, iter, ifs, is⟩] => if is != 0 then none else bind2 (ev O m iter σ) fun src σ1 => if srcOk t src σ1 then bind2 (compN (nextOf src) (fun v σ2 => bind1 (bindT t v (sees scope m)) fun m' =>
          bind2 (trs O m' ifs σ2) fun c σ3 => if c then bind2 (ev O m' elt σ3) fun y σ4 => some (some y, σ4) else some (none, σ3)) (fuelOf src σ1) 0 [] σ1) fun ys σ2 => some (.ref σ2.length, σ2 ++ [.list ys]) else none
    | _ => none
  | m, .Compare l ops rs _, σ => match ops, rs with
    | [op], [r] => if isQ l then (if isQ r then bind2 (evQ O m l σ) fun a σ1 => bind2 (evQ O m r σ1) fun b σ2 => bind1 (cmpQ op a b) fun c => some (.bool c, σ2) else none)
      else bind2 (ev O m l σ) fun a σ1 => bind2 (ev O m r σ1) fun b σ2 => bind1 (cmpop op a b σ2) fun c => some (.bool c, σ2)
    | _, _ => none
  | m, .Call f args ks _, σ => match ks with
    | [] => match f with
      | .Attribute o name _ => bind1 (mthOf name) fun mt => bind2 (ev O m o σ) fun ov σ1 => if recv mt ov σ1 then (bind2 (evs O m args σ1) fun vs σ2 => methCall O mt ov vs σ2) else none
      | .Name g _ => if (m.lookup g).isSome then none else bind2 (evs O m args σ) fun vs σ1 => match bifOf g with
          | some b => builtin O b vs σ1
          | none => O g vs σ1
      | _ => none
    | _ => none
  | m, .Subscript v i _, σ => bind2 (ev O m v σ) fun a σ1 => if isSl i then (bind2 (evSl O m i σ1) fun z σ4 => slc a z.1 z.2.1 z.2.2 σ4)
      else bind2 (ev O m i σ1) fun b σ2 => bind1 (subs a b σ2) fun v => some (v, σ2)
  | _, _, _ => none
noncomputable def evQ (O : Oracle) : Loc → PySem.Expr → Sto → Option (AV × Sto)
  | m, .Call _ args _ _, σ => bind2 (evs O m args σ) fun vs σ1 => bind1 (one vs) fun v => some (v, σ1)
  | _, _, _ => none
noncomputable def evSl (O : Oracle) : Loc → PySem.Expr → Sto → Option ((Option Int × Option Int × Option Int) × Sto)
  | m, .Slice lo hi st _, σ1 => bind2 (evOpt O m lo σ1) fun x σ2 => bind2 (evOpt O m hi σ2) fun y σ3 => bind2 (evOpt O m st σ3) fun z σ4 =>
      bind1 (bound x) fun x' => bind1 (bound y) fun y' => bind1 (bound z) fun z' => some ((x', y', z'), σ4)
  | _, _, _ => none
noncomputable def evs (O : Oracle) : Loc → List PySem.Expr → Sto → Option (List AV × Sto)
  | _, [], σ => some ([], σ)
  | m, e :: r, σ => bind2 (ev O m e σ) fun v σ1 => bind2 (evs O m r σ1) fun vs σ2 => some (v :: vs, σ2)
noncomputable def evOpt (O : Oracle) : Loc → Option PySem.Expr → Sto → Option (Option AV × Sto)
  | _, none, σ => some (none, σ)
  | m, some e, σ => bind2 (ev O m e σ) fun v σ1 => some (some v, σ1)
noncomputable def evBool (O : Oracle) : Loc → BoolOp → List PySem.Expr → Sto → Option (AV × Sto)
  | _, _, [], _ => none
  | m, op, e :: r, σ => match r with
    | [] => ev O m e σ
    | _ :: _ => bind2 (ev O m e σ) fun v σ1 => bind1 (asBool v) fun b => if stops op b then some (.bool b, σ1) else evBool O m op r σ1
noncomputable def tr (O : Oracle) : Loc → PySem.Expr → Sto → Option (AV × Sto) → Option (Bool × Sto)
  | m, .UnaryOp op x _, σ, whole => match op with
    | .Not => bind2 (tr O m x σ (ev O m x σ)) fun b σ1 => some (!b, σ1)
    | _ => byV whole
  | m, .BoolOp op vs _, σ, _ => trAll O m op vs σ
  | _, .IfExp .., _, _ => none
  | _, _, _, whole => byV whole
noncomputable def trAll (O : Oracle) : Loc → BoolOp → List PySem.Expr → Sto → Option (Bool × Sto)
  | _, op, [], σ => some (stops op false, σ)
  | m, op, e :: r, σ => bind2 (tr O m e σ (ev O m e σ)) fun b σ1 => if stops op b then some (b, σ1) else trAll O m op r σ1
noncomputable def trs (O : Oracle) : Loc → List PySem.Expr → Sto → Option (Bool × Sto)
  | _, [], σ => some (true, σ)
  | m, e :: r, σ => bind2 (tr O m e σ (ev O m e σ)) fun b σ1 => if b then trs O m r σ1 else some (false, σ1)
end

mutual
noncomputable def ex (O : Oracle) : Loc → PySem.Stmt → Sto → Option (AFlow × Loc × Sto)
  | m, .Assign ts e _, σ => match ts with
    | [t] => bind1 (nameOf t) fun x => bind2 (ev O m e σ) fun v σ1 => some (.next, setL m x v, σ1)
    | _ => none
  | m, .Expr e _, σ => bind2 (ev O m e σ) fun _ σ1 => some (.next, m, σ1)
  | m, .Return v _, σ => match v with
    | some e => bind2 (ev O m e σ) fun v σ1 => some (.ret v, m, σ1)
    | none => none
  | m, .If t b o _, σ => bind2 (tr O m t σ (ev O m t σ)) fun c σ1 => if c then exs O m b σ1 else exs O m o σ1
  | m, .While t b o _, σ => if o.isEmpty then whileN (fun m σ => tr O m t σ (ev O m t σ)) (fun m σ => exs O m b σ) 100 m σ else none
  | m, .For t iter b o _, σ => if o.isEmpty then (bind2 (ev O m iter σ) fun src σ1 => if srcOk t src σ1 then forN (nextOf src) (fun v m σ => bind1 (bindT t v m) fun m' => exs O m' b σ) (fuelOf src σ1) 0 m σ1 else none) else none
  | m, .Break _, σ => some (.brk, m, σ)
  | _, _, _ => none
noncomputable def exs (O : Oracle) : Loc → List PySem.Stmt → Sto → Option (AFlow × Loc × Sto)
  | m, [], σ => some (.next, m, σ)
  | m, s :: r, σ => match ex O m s σ with
    | some (.next, m', σ') => exs O m' r σ'
    | x => x
end

/-- a def of the text -/
structure Fn where
  params : List Str
  body : List PySem.Stmt

noncomputable def retOf : Option (AFlow × Loc × Sto) → Option (AV × Sto)
  | some (.ret v, _, σ') => some (v, σ')
  | some (.next, _, σ') => some (.none, σ')
  | _ => none
noncomputable def callFn (O : Oracle) (fn : Fn) (vs : List AV) (σ : Sto) : Option (AV × Sto) :=
  if fn.params.length = vs.length then retOf (exs O (fn.params.zip vs) fn.body σ) else none
theorem callFn_eq {O : Oracle} {fn : Fn} {ps : List Str} {b : List PySem.Stmt} {vs : List AV} {σ : Sto} (h1 : fn.params = ps) (h2 : fn.body = b) (h : ps.length = vs.length) : callFn O fn vs σ = retOf (exs O (ps.zip vs) b σ) := by
  subst h1; subst h2; exact if_pos h
theorem nextOf_str (l : List Nat) (i : Nat) (σ : Sto) : nextOf (.str l) i σ = some ((l[i]?).map fun c => .str [c]) := rfl
theorem nextOf_rng (a b : Int) (i : Nat) (σ : Sto) : nextOf (.rng a b 1) i σ = some (if a + (i : Int) < b then some (.int (a + (i : Int))) else none) := by
  show (if (1 : Int) = 1 then some (if a + (i : Int) < b then some (AV.int (a + (i : Int))) else none) else none) = _
  exact if_pos rfl
theorem fuelOf_str (l : List Nat) (σ : Sto) : fuelOf (.str l) σ = l.length + 1 := rfl
theorem srcOk_rng1 (t : PySem.Expr) (a b : Int) (σ : Sto) : srcOk t (.rng a b 1) σ = ((nameOf t).isSome && intOk a && intOk b && decide ((1 : Int) = 1)) := rfl

noncomputable def indentL (k : Nat) : Bool → List Nat → List Nat
  | _, [] => []
  | true, c :: r => if c = 10 then c :: indentL k true r else List.replicate k 32 ++ c :: indentL k false r
  | false, c :: r => c :: indentL k (c == 10) r
theorem indentL_0 {k : Nat} {b : Bool} : indentL k b [] = [] := by cases b <;> rfl
theorem indentL_t {k c : Nat} {r : List Nat} : indentL k true (c :: r) = if c = 10 then c :: indentL k true r else List.replicate k 32 ++ c :: indentL k false r := rfl
theorem indentL_f {k c : Nat} {r : List Nat} : indentL k false (c :: r) = c :: indentL k (c == 10) r := rfl

noncomputable def calls (pr : Oracle) (fns : Str → Option Fn) : Nat → Oracle
  | 0 => pr
  | n + 1 => fun f vs σ => match fns f with
    | some fn => callFn (calls pr fns n) fn vs σ
    | none => pr f vs σ
theorem calls_eq {pr : Oracle} {fns : Str → Option Fn} {n : Nat} : calls pr fns (n + 1) = fun f vs σ => (match fns f with
    | some fn => callFn (calls pr fns n) fn vs σ
    | none => pr f vs σ) := rfl


/-- the defs of a program's main text -/
noncomputable def defsOf (p : Program) (f : Str) : Option Fn :=
  if f = "_indent" then none else
  (p.main.body.findSome? fun st => match st with
    | .FunctionDef n a b _ _ _ _ _ _ _ => if n = f then some ⟨a.args.map (·.arg), b⟩ else none
    | _ => none)

end
end Mine
end

section
open PySem PySem.W PyProof.Rows PySem.Calls
set_option maxRecDepth 100000
set_option linter.unusedSimpArgs false
namespace Mine

noncomputable abbrev Rho := List (Addr × Addr)

mutual
/-- what a value of the machine's tells, at a heap; n₀: the heap at the start, of which nothing turns; ρ: where the cells lie -/
inductive RelV (n₀ : Heap) (ρ : Rho) (h : Heap) : AV → Value → Prop
  | none : RelV n₀ ρ h .none .none
  | bool (b : Bool) : RelV n₀ ρ h (.bool b) (.bool b)
  | int (i : Int) (t : Tok) : RelV n₀ ρ h (.int i) (.int i t)
  | str (l : List Nat) (t : Tok) : RelV n₀ ρ h (.str l) (.str ⟨l.toArray⟩ t)
  | tup {xs : List AV} {a : Addr} {vs : List Value} : IsTup h a vs.toArray → RelVs n₀ ρ h xs vs → RelV n₀ ρ h (.tup xs) (.ref a)
  | rng {a b c : Int} {r : Addr} {t u v : Tok} : IsRange h r a b c t u v → RelV n₀ ρ h (.rng a b c) (.ref r)
  | frz {xs : List AV} {a : Addr} {vs : List Value} : (n₀.get? a).isSome = true → h.IsList a vs.toArray → RelVs n₀ ρ h xs vs → RelV n₀ ρ h (.frz xs) (.ref a)
  | ref {r : Nat} {p : Addr × Addr} : ρ[r]? = some p → RelV n₀ ρ h (.ref r) (.ref p.1)
inductive RelVs (n₀ : Heap) (ρ : Rho) (h : Heap) : List AV → List Value → Prop
  | nil : RelVs n₀ ρ h [] []
  | cons {x : AV} {xs : List AV} {v : Value} {vs : List Value} : RelV n₀ ρ h x v → RelVs n₀ ρ h xs vs → RelVs n₀ ρ h (x :: xs) (v :: vs)
end

/-- an address at which no tuple and no range lies -/
noncomputable def Mut (h : Heap) (b : Addr) : Prop := ∀ o, h.get? b = some o →
  (o.cls ≠ .type "tuple" ∧ o.cls ≠ .type "range") ∨ (∃ es n, o.data = .dict es n) ∨ (∃ v, o.data = .cell v)

theorem Mut.noTup {h : Heap} {b : Addr} {items : Array Value} (x : Mut h b) (t : IsTup h b items) : False := by
  obtain ⟨o, ho, hc, n, hd⟩ := t
  rcases x o ho with ⟨a, _⟩ | ⟨_, _, e⟩ | ⟨_, e⟩
  · exact a hc
  · rw [hd] at e; cases e
  · rw [hd] at e; cases e
theorem Mut.noRange {h : Heap} {r : Addr} {a b c : Int} {t u v : Tok} (x : Mut h r) (y : IsRange h r a b c t u v) : False := by
  rcases x _ y with ⟨_, e⟩ | ⟨_, _, e⟩ | ⟨_, e⟩
  · exact e rfl
  · cases e
  · cases e

/-- the heap goes on, but for the places of M -/
noncomputable def KeepH (M : Addr → Prop) (h h' : Heap) : Prop := ∀ b o, h.get? b = some o → ¬ M b → h'.get? b = some o

theorem KeepH.refl {M : Addr → Prop} {h : Heap} : KeepH M h h := fun _ _ e _ => e
theorem KeepH.trans {M M' : Addr → Prop} {h h' h'' : Heap} (x : KeepH M h h') (y : KeepH M' h' h'') (sub : ∀ b o, h.get? b = some o → M' b → M b) : KeepH M h h'' :=
  fun b o e n => y b o (x b o e n) fun m => n (sub b o e m)
theorem KeepH.weak {M M' : Addr → Prop} {h h' : Heap} (x : KeepH M h h') (sub : ∀ b o, h.get? b = some o → M b → M' b) : KeepH M' h h' :=
  fun b o e n => x b o e fun m => n (sub b o e m)
theorem KeepH.of_all {M : Addr → Prop} {h h' : Heap} (x : ∀ b o, h.get? b = some o → h'.get? b = some o) : KeepH M h h' := fun b o e _ => x b o e
theorem KeepH.push {M : Addr → Prop} {h h' : Heap} (x : KeepH M h h') (o : Obj) : KeepH M h (h'.push o) := fun b o' e n => Heap.get?_push_of_some o (x b o' e n)

/-- cells are added, each at a place where nothing lay -/
noncomputable def Grow (h : Heap) (ρ ρ' : Rho) : Prop := ∃ t, ρ' = ρ ++ t ∧ ∀ p ∈ t, h.get? p.1 = none ∧ h.get? p.2 = none
theorem Grow.refl {n : Heap} {ρ : Rho} : Grow n ρ ρ := ⟨[], by simp, fun _ h => by simp at h⟩
theorem Grow.trans {n n' : Heap} {ρ ρ' ρ'' : Rho} (x : Grow n ρ ρ') (y : Grow n' ρ' ρ'') (l : ∀ b, n'.get? b = none → n.get? b = none) : Grow n ρ ρ'' := by
  obtain ⟨t, rfl, ht⟩ := x; obtain ⟨u, rfl, hu⟩ := y
  refine ⟨t ++ u, by simp, fun p hp => ?_⟩
  rcases List.mem_append.mp hp with q | q
  · exact ht p q
  · exact ⟨l _ (hu p q).1, l _ (hu p q).2⟩
theorem Grow.get {n : Heap} {ρ ρ' : Rho} (x : Grow n ρ ρ') {r : Nat} {p : Addr × Addr} (e : ρ[r]? = some p) : ρ'[r]? = some p := by
  obtain ⟨t, rfl, _⟩ := x
  rw [List.getElem?_append_left (List.getElem?_eq_some_iff.mp e).1]; exact e
theorem Grow.mem {n : Heap} {ρ ρ' : Rho} (x : Grow n ρ ρ') {p : Addr × Addr} (h : p ∈ ρ') : p ∈ ρ ∨ (n.get? p.1 = none ∧ n.get? p.2 = none) := by
  obtain ⟨t, rfl, ht⟩ := x
  rcases List.mem_append.mp h with q | q
  · exact .inl q
  · exact .inr (ht p q)

theorem RelVs.cons_inv {n₀ : Heap} {ρ : Rho} {h : Heap} {x : AV} {xs : List AV} {vs : List Value} (r : RelVs n₀ ρ h (x :: xs) vs) : ∃ v us, vs = v :: us ∧ RelV n₀ ρ h x v ∧ RelVs n₀ ρ h xs us := by
  cases r with
  | cons a b => exact ⟨_, _, rfl, a, b⟩
theorem RelVs.nil_inv {n₀ : Heap} {ρ : Rho} {h : Heap} {vs : List Value} (r : RelVs n₀ ρ h [] vs) : vs = [] := by cases r; rfl
theorem RelV.mono {n₀ n : Heap} {ρ ρ' : Rho} {h h' : Heap} {M : Addr → Prop} (k : KeepH M h h') (hm : ∀ b, M b → Mut h b ∧ n₀.get? b = Option.none) (g : Grow n ρ ρ')
    {x : AV} {v : Value} (r : RelV n₀ ρ h x v) : RelV n₀ ρ' h' x v :=
  RelV.rec (motive_1 := fun x v _ => RelV n₀ ρ' h' x v) (motive_2 := fun xs vs _ => RelVs n₀ ρ' h' xs vs) .none .bool .int .str
    (fun t _ ih => .tup (Exists.elim t fun o q => ⟨o, k _ _ q.1 fun m => (hm _ m).1.noTup t, q.2⟩) ih)
    (fun t => .rng (k _ _ t fun m => (hm _ m).1.noRange t))
    (fun l t _ ih => .frz l (Exists.elim t fun o q => ⟨o, k _ _ q.1 (fun m => by rw [(hm _ m).2] at l; cases l), q.2⟩) ih)
    (fun e => .ref (g.get e)) .nil (fun _ _ a b => .cons a b) r
theorem RelVs.mono {n₀ n : Heap} {ρ ρ' : Rho} {h h' : Heap} {M : Addr → Prop} (k : KeepH M h h') (hm : ∀ b, M b → Mut h b ∧ n₀.get? b = none) (g : Grow n ρ ρ') {xs : List AV} :
    ∀ {vs : List Value}, RelVs n₀ ρ h xs vs → RelVs n₀ ρ' h' xs vs := by
  induction xs with
  | nil => intro vs r; rw [r.nil_inv]; exact .nil
  | cons x xs ih =>
    intro vs r
    obtain ⟨v, us, rfl, a, b⟩ := r.cons_inv
    exact .cons (a.mono k hm g) (ih b)

theorem RelVs.length {n₀ : Heap} {ρ : Rho} {h : Heap} {xs : List AV} : ∀ {vs : List Value}, RelVs n₀ ρ h xs vs → xs.length = vs.length := by
  induction xs with
  | nil => intro vs r; rw [r.nil_inv]; rfl
  | cons x xs ih =>
    intro vs r
    obtain ⟨v, us, rfl, _, b⟩ := r.cons_inv
    exact congrArg (· + 1) (ih b)
theorem RelVs.append' {n₀ : Heap} {ρ : Rho} {h : Heap} {xs ys : List AV} {us : List Value} (s : RelVs n₀ ρ h ys us) : ∀ {vs : List Value}, RelVs n₀ ρ h xs vs → RelVs n₀ ρ h (xs ++ ys) (vs ++ us) := by
  induction xs with
  | nil => intro vs r; rw [r.nil_inv]; exact s
  | cons x xs ih =>
    intro vs r
    obtain ⟨v, us, rfl, a, b⟩ := r.cons_inv
    exact .cons a (ih b)
theorem RelVs.append {n₀ : Heap} {ρ : Rho} {h : Heap} {xs ys : List AV} {vs us : List Value} (r : RelVs n₀ ρ h xs vs) (s : RelVs n₀ ρ h ys us) : RelVs n₀ ρ h (xs ++ ys) (vs ++ us) := s.append' r
theorem RelVs.get {n₀ : Heap} {ρ : Rho} {h : Heap} {x : AV} {xs : List AV} : ∀ {vs : List Value} {i : Nat}, RelVs n₀ ρ h xs vs → xs[i]? = some x → ∃ v, vs[i]? = some v ∧ RelV n₀ ρ h x v := by
  induction xs with
  | nil => intro vs i r e; cases e
  | cons y xs ih =>
    intro vs i r e
    obtain ⟨v, us, rfl, a, b⟩ := r.cons_inv
    cases i with
    | zero => exact ⟨v, rfl, Option.some.inj e ▸ a⟩
    | succ i => exact (show ∃ z, us[i]? = some z ∧ RelV n₀ ρ h x z from ih b e)
theorem RelVs.none {n₀ : Heap} {ρ : Rho} {h : Heap} {xs : List AV} {vs : List Value} {i : Nat} (rs : RelVs n₀ ρ h xs vs) (e : xs[i]? = none) : vs[i]? = Option.none := by
  have := rs.length
  rw [List.getElem?_eq_none_iff] at e ⊢
  omega
theorem RelVs.take {n₀ : Heap} {ρ : Rho} {h : Heap} {xs : List AV} : ∀ {vs : List Value} (n : Nat), RelVs n₀ ρ h xs vs → RelVs n₀ ρ h (xs.take n) (vs.take n) := by
  induction xs with
  | nil => intro vs n r; rw [r.nil_inv, List.take_nil, List.take_nil]; exact .nil
  | cons x xs ih =>
    intro vs n r
    obtain ⟨v, us, rfl, a, b⟩ := r.cons_inv
    cases n with
    | zero => exact .nil
    | succ n => exact .cons a (ih n b)

/-- an accumulator: its items, its dict -/
noncomputable def AccAt (C : Addr) (h : Heap) (a d : Addr) (size : Int) (vs : Array Value) : Prop :=
  (∃ n, h.get? a = some ⟨.ref C, some d, .seq vs n, #[]⟩) ∧
  ∃ hs k t n, h.get? d = some ⟨.type "dict", none, .dict #[⟨hs, .str (Str.ofString "_initial_size") k, .int size t⟩] n, #[]⟩

noncomputable def CellR (n₀ : Heap) (C : Addr) (ρ : Rho) (h : Heap) : Cell → Addr × Addr → Prop
  | .list xs, p => ∃ vs : List Value, h.PlainList p.1 vs.toArray ∧ RelVs n₀ ρ h xs vs
  | .acc n xs, p => ∃ vs : List Value, AccAt C h p.1 p.2 n vs.toArray ∧ RelVs n₀ ρ h xs vs

theorem CellR.mut {n₀ : Heap} {C : Addr} {ρ : Rho} {h : Heap} {c : Cell} {p : Addr × Addr} (x : CellR n₀ C ρ h c p) : Mut h p.1 := by
  intro o ho
  cases c with
  | list xs =>
    obtain ⟨vs, ⟨k, ha⟩, _⟩ := x
    rw [ho] at ha; cases ha
    exact .inl ⟨by simp, by simp⟩
  | acc n xs =>
    obtain ⟨vs, ⟨⟨k, ha⟩, _⟩, _⟩ := x
    rw [ho] at ha; cases ha
    exact .inl ⟨by simp, by simp⟩

noncomputable def inρ (ρ : Rho) (a : Addr) : Prop := ∃ p ∈ ρ, p.1 = a

/-- what holds of all the objects, whatever frame stands above -/
structure StG (hB : Heap) (os : OsState) (C : Addr) (ρ : Rho) (σ : Sto) (s : Shared) : Prop where
  base : ∀ b o, hB.get? b = some o → s.heap.get? b = some o
  len : ρ.length = σ.length
  cell : ∀ (r : Nat) c p, σ[r]? = some c → ρ[r]? = some p → CellR hB C ρ s.heap c p
  lo : ∀ p ∈ ρ, hB.get? p.1 = none
  apart : (ρ.map (·.1)).Nodup
  gens : AllBare s.gens
  os : s.os = os
  two : ∀ p ∈ ρ, (s.heap.get? p.2).isSome = true

section
variable {hB : Heap} {os : OsState} {C : Addr} {ρ ρ' : Rho} {σ σ' : Sto} {s s' : Shared}

theorem StG.at (G : StG hB os C ρ σ s) {r : Nat} {c : Cell} (e : σ[r]? = some c) : ∃ p, ρ[r]? = some p ∧ CellR hB C ρ s.heap c p := by
  have hl : r < σ.length := (List.getElem?_eq_some_iff.mp e).1
  have hl' : r < ρ.length := by rw [G.len]; exact hl
  exact ⟨ρ[r], List.getElem?_eq_getElem hl', G.cell r c _ e (List.getElem?_eq_getElem hl')⟩
theorem StG.mut (G : StG hB os C ρ σ s) {b : Addr} (h : inρ ρ b) : Mut s.heap b ∧ hB.get? b = none := by
  obtain ⟨p, hp, rfl⟩ := h
  obtain ⟨r, hr⟩ := List.getElem?_of_mem hp
  have hl : r < ρ.length := (List.getElem?_eq_some_iff.mp hr).1
  have hl' : r < σ.length := by rw [← G.len]; exact hl
  exact ⟨(G.cell r _ p (List.getElem?_eq_getElem hl') hr).mut, G.lo p hp⟩

theorem CellR.mono {n₀ n : Heap} {h h' : Heap} {M : Addr → Prop} {c : Cell} {p : Addr × Addr} (k : KeepH M h h') (hm : ∀ b, M b → Mut h b ∧ n₀.get? b = none) (g : Grow n ρ ρ') (h1 : ¬ M p.1)
    (h2 : ∀ size xs, c = .acc size xs → ¬ M p.2) (x : CellR n₀ C ρ h c p) : CellR n₀ C ρ' h' c p := by
  cases c with
  | list xs =>
    obtain ⟨vs, ⟨i, ho⟩, rs⟩ := x
    exact ⟨vs, ⟨i, k _ _ ho h1⟩, rs.mono k hm g⟩
  | acc size xs =>
    obtain ⟨vs, ⟨⟨i, hi⟩, hs, kk, t, j, hj⟩, rs⟩ := x
    exact ⟨vs, ⟨⟨i, k _ _ hi h1⟩, hs, kk, t, j, k _ _ hj (h2 _ _ rfl)⟩, rs.mono k hm g⟩

/-- a cell's place is no accumulator's dict -/
theorem StG.noDict (G : StG hB os C ρ σ s) {b : Addr} (h : inρ ρ b) {r : Nat} {p : Addr × Addr} {size : Int} {xs : List AV} (hp : ρ[r]? = some p) (hc : σ[r]? = some (.acc size xs)) : p.2 ≠ b := by
  rintro rfl
  obtain ⟨q, hq, e⟩ := h
  obtain ⟨i, hi⟩ := List.getElem?_of_mem hq
  have hl : i < ρ.length := (List.getElem?_eq_some_iff.mp hi).1
  have hl' : i < σ.length := by rw [← G.len]; exact hl
  have x := G.cell i _ q (List.getElem?_eq_getElem hl') hi
  obtain ⟨vs, ⟨_, hs, kk, t, j, hj⟩, _⟩ := G.cell r _ p hc hp
  rw [← e] at hj
  revert x
  cases σ[i] with
  | list ys =>
    rintro ⟨us, ⟨i', hi'⟩, _⟩
    rw [hj] at hi'
    have := congrArg Obj.cls (Option.some.inj hi')
    simp at this
  | acc k ys =>
    rintro ⟨us, ⟨⟨i', hi'⟩, _⟩, _⟩
    rw [hj] at hi'; cases hi'

theorem CellR.lies {n₀ : Heap} {h : Heap} {c : Cell} {p : Addr × Addr} (x : CellR n₀ C ρ h c p) : (h.get? p.1).isSome = true := by
  cases c with
  | list xs => obtain ⟨vs, ⟨k, ha⟩, _⟩ := x; rw [ha]; rfl
  | acc n xs => obtain ⟨vs, ⟨⟨k, ha⟩, _⟩, _⟩ := x; rw [ha]; rfl
theorem StG.lies (G : StG hB os C ρ σ s) {b : Addr} (h : inρ ρ b) : (s.heap.get? b).isSome = true := by
  obtain ⟨p, hp, rfl⟩ := h
  obtain ⟨r, hr⟩ := List.getElem?_of_mem hp
  have hl : r < ρ.length := (List.getElem?_eq_some_iff.mp hr).1
  have hl' : r < σ.length := by rw [← G.len]; exact hl
  exact (G.cell r _ p (List.getElem?_eq_getElem hl') hr).lies

/-- one step of the run: cells are added, all but the cells stays -/
structure Step (ρ : Rho) (s : Shared) (ρ' : Rho) (s' : Shared) : Prop where
  grow : Grow s.heap ρ ρ'
  keep : KeepH (inρ ρ) s.heap s'.heap
  lies : ∀ b, inρ ρ b → (s'.heap.get? b).isSome = true
theorem Step.none (x : Step ρ s ρ' s') : ∀ b, s'.heap.get? b = none → s.heap.get? b = none := fun b h => by
  cases e : s.heap.get? b with
  | none => rfl
  | some o =>
    by_cases q : inρ ρ b
    · have := x.lies b q; rw [h] at this; cases this
    · rw [x.keep b o e q] at h; cases h
theorem Step.refl (G : StG hB os C ρ σ s) : Step ρ s ρ s := ⟨.refl, .refl, fun _ h => G.lies h⟩
theorem Step.trans {ρ'' : Rho} {s'' : Shared} (x : Step ρ s ρ' s') (y : Step ρ' s' ρ'' s'') : Step ρ s ρ'' s'' := by
  refine ⟨x.grow.trans y.grow x.none, x.keep.trans y.keep fun b o e => ?_, fun b h => ?_⟩
  · rintro ⟨p, hp, rfl⟩
    rcases x.grow.mem hp with q | q
    · exact ⟨p, q, rfl⟩
    · rw [q.1] at e; cases e
  · obtain ⟨p, hp, rfl⟩ := h
    obtain ⟨t, rfl, _⟩ := x.grow
    exact y.lies p.1 ⟨p, List.mem_append_left _ hp, rfl⟩
theorem Step.rel (x : Step ρ s ρ' s') (G : StG hB os C ρ σ s) {v : AV} {val : Value} (r : RelV hB ρ s.heap v val) : RelV hB ρ' s'.heap v val :=
  r.mono x.keep (fun _ h => G.mut h) x.grow
theorem Step.rels (x : Step ρ s ρ' s') (G : StG hB os C ρ σ s) {v : List AV} {val : List Value} (r : RelVs hB ρ s.heap v val) : RelVs hB ρ' s'.heap v val :=
  r.mono x.keep (fun _ h => G.mut h) x.grow

/-- the frame: its names, where they lie, apart from the cells -/
structure FmOk (n₀ : Heap) (env : Env) (ρ : Rho) (h : Heap) : Prop where
  kind : env.scope.kind = .function
  glob : env.globals = mainGlobals
  bui : env.builtins = builtinsNs
  ns : ∃ mm, h.Ns env.locals mm
  loL : n₀.get? env.locals = none
  cells : ∀ x, env.kindOf x = some .cell ∨ env.kindOf x = some .free → ∃ c, env.cells.lookup x = some c
  cellAt : ∀ x c, env.cells.lookup x = some c → n₀.get? c = none ∧ ∃ v, h.IsCell c v
  cinj : ∀ x y c, env.cells.lookup x = some c → env.cells.lookup y = some c → x = y
  sepL : ∀ p ∈ ρ, p.1 ≠ env.locals ∧ p.2 ≠ env.locals
  sepC : ∀ p ∈ ρ, ∀ x c, env.cells.lookup x = some c → p.1 ≠ c ∧ p.2 ≠ c

/-- where the frame bears a name's value -/
noncomputable def NameAt (env : Env) (h : Heap) (x : Str) (val : Value) : Prop :=
  (env.kindOf x = some .local ∧ ∃ mm, h.Ns env.locals mm ∧ mm x = some val) ∨
  ((env.kindOf x = some .cell ∨ env.kindOf x = some .free) ∧ ∃ c, env.cells.lookup x = some c ∧ h.IsCell c (some val))

noncomputable def Vars (n₀ : Heap) (env : Env) (m : Loc) (ρ : Rho) (h : Heap) : Prop :=
  ∀ x v, m.lookup x = some v → ∃ val, NameAt env h x val ∧ RelV n₀ ρ h v val

theorem Ns.keepAt {h h' : Heap} {a : Addr} {m : Str → Option Value} (hn : h.Ns a m) (k : ∀ o, h.get? a = some o → h'.get? a = some o) : h'.Ns a m :=
  let ⟨o, es, ep, e, r⟩ := hn; ⟨o, es, ep, k _ e, r⟩
theorem IsCell.keepAt {h h' : Heap} {a : Addr} {v : Option Value} (hn : h.IsCell a v) (k : ∀ o, h.get? a = some o → h'.get? a = some o) : h'.IsCell a v :=
  let ⟨o, e, r⟩ := hn; ⟨o, k _ e, r⟩

theorem FmOk.step {env : Env} {n₀ : Heap} (F : FmOk n₀ env ρ s.heap) (x : Step ρ s ρ' s') : FmOk n₀ env ρ' s'.heap := by
  have kL : ∀ o, s.heap.get? env.locals = some o → s'.heap.get? env.locals = some o := fun o e => x.keep _ _ e fun ⟨p, hp, q⟩ => (F.sepL p hp).1 q
  have kC : ∀ y c, env.cells.lookup y = some c → ∀ o, s.heap.get? c = some o → s'.heap.get? c = some o := fun y c hy o e => x.keep _ _ e fun ⟨p, hp, q⟩ => (F.sepC p hp y c hy).1 q
  refine ⟨F.kind, F.glob, F.bui, let ⟨mm, h⟩ := F.ns; ⟨mm, Ns.keepAt h kL⟩, F.loL, F.cells, fun y c hy => let ⟨l, v, h⟩ := F.cellAt y c hy; ⟨l, v, IsCell.keepAt h (kC y c hy)⟩, F.cinj, fun p hp => ?_, fun p hp y c hy => ?_⟩
  · rcases x.grow.mem hp with q | q
    · exact F.sepL p q
    · obtain ⟨mm, h⟩ := F.ns
      obtain ⟨o, _, _, ho, _⟩ := h
      exact ⟨(fun e => by rw [e, ho] at q; cases q.1), (fun e => by rw [e, ho] at q; cases q.2)⟩
  · rcases x.grow.mem hp with q | q
    · exact F.sepC p q y c hy
    · obtain ⟨_, v, h⟩ := F.cellAt y c hy
      obtain ⟨o, ho, _⟩ := h
      exact ⟨(fun e => by rw [e, ho] at q; cases q.1), (fun e => by rw [e, ho] at q; cases q.2)⟩

theorem NameAt.step {env : Env} {n₀ : Heap} (F : FmOk n₀ env ρ s.heap) (x : Step ρ s ρ' s') {y : Str} {val : Value} (n : NameAt env s.heap y val) : NameAt env s'.heap y val := by
  rcases n with ⟨hk, mm, hn, e⟩ | ⟨hk, c, hc, hv⟩
  · exact .inl ⟨hk, mm, Ns.keepAt hn fun o e => x.keep _ _ e fun ⟨p, hp, q⟩ => (F.sepL p hp).1 q, e⟩
  · exact .inr ⟨hk, c, hc, IsCell.keepAt hv fun o e => x.keep _ _ e fun ⟨p, hp, q⟩ => (F.sepC p hp y c hc).1 q⟩

theorem Vars.step {env : Env} {m : Loc} (V : Vars hB env m ρ s.heap) (G : StG hB os C ρ σ s) (F : FmOk hB env ρ s.heap) (x : Step ρ s ρ' s') : Vars hB env m ρ' s'.heap := fun y v e =>
  let ⟨val, n, r⟩ := V y v e
  ⟨val, n.step F x, x.rel G r⟩

/-- the whole of a state, a frame above -/
structure St (hB : Heap) (os : OsState) (C : Addr) (env : Env) (m : Loc) (ρ : Rho) (σ : Sto) (s : Shared) : Prop where
  g : StG hB os C ρ σ s
  f : FmOk hB env ρ s.heap
  v : Vars hB env m ρ s.heap
theorem St.step {env : Env} {m : Loc} (S : St hB os C env m ρ σ s) (x : Step ρ s ρ' s') (G : StG hB os C ρ' σ' s') : St hB os C env m ρ' σ' s' :=
  ⟨G, S.f.step x, S.v.step S.g S.f x⟩

/-- behind an expression -/
noncomputable def PostV (hB : Heap) (os : OsState) (C : Addr) (ρ : Rho) (s : Shared) (v : AV) (σ' : Sto) (val : Value) (s' : Shared) : Prop :=
  ∃ ρ', Step ρ s ρ' s' ∧ StG hB os C ρ' σ' s' ∧ RelV hB ρ' s'.heap v val
/-- tokens are of no weight -/
theorem StG.toks (G : StG hB os C ρ σ s) (t : Nat) : StG hB os C ρ σ { s with toks := t } := ⟨G.base, G.len, G.cell, G.lo, G.apart, G.gens, G.os, G.two⟩
theorem isSome_keep {h h' : Heap} {b : Addr} (k : ∀ o, h.get? b = some o → h'.get? b = some o) (x : (h.get? b).isSome = true) : (h'.get? b).isSome = true := by
  obtain ⟨o, ho⟩ := Option.isSome_iff_exists.mp x
  rw [k o ho]; rfl
theorem Step.toks (x : Step ρ s ρ' s') (t : Nat) : Step ρ s ρ' { s' with toks := t } := ⟨x.grow, x.keep, x.lies⟩

/-- any object laid or turned that is no cell: the heap keeps all -/
theorem StG.keeps (G : StG hB os C ρ σ s) {h' : Heap} (k : ∀ b o, s.heap.get? b = some o → h'.get? b = some o) (t : Nat) : StG hB os C ρ σ { s with heap := h', toks := t } := by
  refine ⟨fun b o' e => k b o' (G.base b o' e), G.len, fun r c p e1 e2 => ?_, G.lo, G.apart, G.gens, G.os, fun p hp => isSome_keep (k p.2) (G.two p hp)⟩
  exact (G.cell r c p e1 e2).mono (M := fun _ => False) (n := s.heap) (fun b o' e _ => k b o' e) (fun _ h => h.elim) .refl id (fun _ _ _ => id)
theorem Step.keeps (G : StG hB os C ρ σ s) {h' : Heap} (k : ∀ b o, s.heap.get? b = some o → h'.get? b = some o) (t : Nat) : Step ρ s ρ { s with heap := h', toks := t } :=
  ⟨.refl, fun b o' e _ => k b o' e, fun b h => by
    obtain ⟨o, ho⟩ := Option.isSome_iff_exists.mp (G.lies h)
    show (h'.get? b).isSome = true
    rw [k b o ho]; rfl⟩
/-- an object that is laid and is no cell -/
theorem StG.push (G : StG hB os C ρ σ s) (o : Obj) (t : Nat) : StG hB os C ρ σ { s with heap := s.heap.push o, toks := t } := G.keeps (fun _ _ e => Heap.get?_push_of_some o e) t
theorem Step.push (G : StG hB os C ρ σ s) (o : Obj) (t : Nat) : Step ρ s ρ { s with heap := s.heap.push o, toks := t } := Step.keeps G (fun _ _ e => Heap.get?_push_of_some o e) t

theorem get_size (h : Heap) : h.get? h.objs.size = none := by
  cases e : h.get? h.objs.size with
  | none => rfl
  | some o => exact absurd (Heap.lt_size e) (Nat.lt_irrefl _)
theorem StG.noneB (G : StG hB os C ρ σ s) {b : Addr} (h : s.heap.get? b = none) : hB.get? b = none := by
  cases e : hB.get? b with
  | none => rfl
  | some o => rw [G.base b o e] at h; cases h

/-- a list is made -/
theorem StG.newList (G : StG hB os C ρ σ s) {xs : List AV} {vs : List Value} (R : RelVs hB ρ s.heap xs vs) (t : Nat) :
    let s' : Shared := { s with heap := s.heap.push { cls := .type "list", data := .seq vs.toArray }, toks := t }
    StG hB os C (ρ ++ [(s.heap.objs.size, s.heap.objs.size)]) (σ ++ [.list xs]) s' ∧ Step ρ s (ρ ++ [(s.heap.objs.size, s.heap.objs.size)]) s' := by
  intro s'
  have G1 := G.push { cls := .type "list", data := .seq vs.toArray } t
  have gr : Grow s.heap ρ (ρ ++ [(s.heap.objs.size, s.heap.objs.size)]) := ⟨_, rfl, fun p hp => by simp at hp; subst hp; exact ⟨get_size _, get_size _⟩⟩
  have kp : ∀ b o', s.heap.get? b = some o' → s'.heap.get? b = some o' := fun b o' e => Heap.get?_push_of_some _ e
  refine ⟨⟨G1.base, by simp [G.len], fun r c p e1 e2 => ?_, fun p hp => ?_, ?_, G.gens, G.os, fun p hp => ?_⟩, gr, KeepH.of_all kp, (Step.push G { cls := .type "list", data := .seq vs.toArray } t).lies⟩
  · by_cases hr : r < σ.length
    · rw [List.getElem?_append_left hr] at e1
      rw [List.getElem?_append_left (by rw [G.len]; exact hr)] at e2
      exact (G.cell r c p e1 e2).mono (M := fun _ => False) (fun b o' e _ => kp b o' e) (fun _ h => h.elim) gr id (fun _ _ _ => id)
    · rw [List.getElem?_append_right (Nat.le_of_not_lt hr)] at e1
      rw [List.getElem?_append_right (by rw [G.len]; exact Nat.le_of_not_lt hr)] at e2
      rw [G.len] at e2
      generalize r - σ.length = k at e1 e2
      cases k with
      | succ k => simp at e1
      | zero =>
        simp at e1 e2
        subst e1; subst e2
        exact ⟨vs, ⟨_, Heap.get?_push_size _ rfl⟩, R.mono (M := fun _ => False) (fun b o' e _ => kp b o' e) (fun _ h => h.elim) gr⟩
  · rcases List.mem_append.mp hp with q | q
    · exact G.lo p q
    · simp at q; subst q
      exact G.noneB (get_size _)
  · rw [List.map_append, List.nodup_append]
    refine ⟨G.apart, by simp, fun a ha b hb => ?_⟩
    simp at hb; subst hb
    obtain ⟨p, hp, rfl⟩ := List.mem_map.mp ha
    obtain ⟨o, ho⟩ := Option.isSome_iff_exists.mp (G.lies ⟨p, hp, rfl⟩)
    exact Nat.ne_of_lt (Heap.lt_size ho)
  · rcases List.mem_append.mp hp with q | q
    · exact isSome_keep (kp p.2) (G.two p q)
    · simp at q; subst q
      show ((s.heap.push _).get? _).isSome = true
      rw [Heap.get?_push_size _ rfl]; rfl

/-- a cell is turned -/
theorem StG.turn (G : StG hB os C ρ σ s) {r : Nat} {p : Addr × Addr} {c : Cell} {h' : Heap} (hp : ρ[r]? = some p) (hc : σ[r]? = some c) {c' : Cell}
    (hs : Heap.SameBut p.1 s.heap h') (R : CellR hB C ρ h' c' p) (t : Nat) :
    StG hB os C ρ (σ.set r c') { s with heap := h', toks := t } ∧ Step ρ s ρ { s with heap := h', toks := t } := by
  have hin : inρ ρ p.1 := ⟨p, List.mem_of_getElem? hp, rfl⟩
  have kp : KeepH (· = p.1) s.heap h' := fun b o e n => (hs.2 b n).trans e
  have hm : ∀ b, b = p.1 → Mut s.heap b ∧ hB.get? b = none := fun b e => by subst e; exact G.mut hin
  have hl : ∀ b, inρ ρ b → (h'.get? b).isSome = true := fun b hb => by
    by_cases q : b = p.1
    · subst q; exact R.lies
    · obtain ⟨o, ho⟩ := Option.isSome_iff_exists.mp (G.lies hb)
      rw [kp b o ho q]; rfl
  refine ⟨⟨fun b o e => ?_, by simp [G.len], fun i c1 p1 e1 e2 => ?_, G.lo, G.apart, G.gens, G.os, fun q hq => ?_⟩, .refl, kp.weak fun b o _ e => by subst e; exact hin, hl⟩
  · refine kp b o (G.base b o e) fun q => ?_
    have := (G.mut hin).2
    rw [← q, e] at this
    cases this
  · by_cases hi : i = r
    · subst hi
      rw [hp] at e2; cases e2
      rw [List.getElem?_set_self (List.getElem?_eq_some_iff.mp hc).1] at e1
      cases e1
      exact R
    · rw [List.getElem?_set_ne (Ne.symm hi)] at e1
      refine (G.cell i c1 p1 e1 e2).mono kp hm (n := s.heap) .refl (fun q => hi ?_) fun n xs ec => ?_
      · have ap := G.apart
        rw [List.Nodup, List.pairwise_iff_getElem] at ap
        obtain ⟨l1, g1⟩ := List.getElem?_eq_some_iff.mp e2
        obtain ⟨l2, g2⟩ := List.getElem?_eq_some_iff.mp hp
        rcases Nat.lt_trichotomy i r with z | z | z
        · exact absurd (by rw [List.getElem_map, List.getElem_map, g1, g2, q]) (ap i r (by simpa using l1) (by simpa using l2) z)
        · exact z
        · exact absurd (by rw [List.getElem_map, List.getElem_map, g1, g2, q]) (ap r i (by simpa using l2) (by simpa using l1) z)
      · subst ec
        exact G.noDict hin e2 e1
  · by_cases z : q.2 = p.1
    · show (h'.get? q.2).isSome = true
      rw [z]; exact R.lies
    · exact isSome_keep (fun o e => kp _ o e z) (G.two q hq)

end

/-! runs that end told apart into their parts -/
theorem nn {α : Type} {x : α} {P : Prop} (h : (none : Option α) = some x) : P := by cases h
theorem bind1_inv {α β : Type} {o : Option α} {f : α → Option β} {r : β} (h : bind1 o f = some r) : ∃ a, o = some a ∧ f a = some r := by
  cases o with
  | none => cases h
  | some a => exact ⟨a, rfl, h⟩
theorem bind2_inv {α β γ : Type} {o : Option (α × β)} {f : α → β → Option γ} {r : γ} (h : bind2 o f = some r) : ∃ a b, o = some (a, b) ∧ f a b = some r := by
  cases o with
  | none => cases h
  | some p => exact ⟨p.1, p.2, rfl, h⟩
theorem guard_inv {α : Type} {c : Prop} [Decidable c] {x : Option α} {r : α} (h : (if c then x else none) = some r) : c ∧ x = some r := by
  by_cases q : c
  · rw [if_pos q] at h; exact ⟨q, h⟩
  · rw [if_neg q] at h; cases h
theorem asInt_inv {a : AV} {i : Int} (h : asInt a = some i) : a = .int i := by cases a <;> cases h <;> rfl
theorem asStr_inv {a : AV} {l : List Nat} (h : asStr a = some l) : a = .str l := by cases a <;> cases h <;> rfl
theorem asTup_inv {a : AV} {xs : List AV} (h : asTup a = some xs) : a = .tup xs := by cases a <;> cases h <;> rfl
theorem asRef_inv {a : AV} {r : Nat} (h : asRef a = some r) : a = .ref r := by cases a <;> cases h <;> rfl
theorem asBool_inv {a : AV} {b : Bool} (h : asBool a = some b) : a = .bool b := by cases a <;> cases h <;> rfl
theorem listAt_inv {σ : Sto} {r : Nat} {xs : List AV} (h : listAt σ r = some xs) : σ[r]? = some (.list xs) := by
  unfold listAt at h
  split at h
  · rename_i e; cases h; exact e
  · cases h
theorem isAccAt_inv {σ : Sto} {r : Nat} (h : isAccAt σ r = true) : ∃ n xs, σ[r]? = some (.acc n xs) := by
  unfold isAccAt at h
  split at h
  · rename_i e; exact ⟨_, _, e⟩
  · cases h
theorem one_inv {α : Type} {l : List α} {a : α} (h : one l = some a) : l = [a] := by
  match l, h with
  | [_], h => cases h; rfl
theorem two_inv {α : Type} {l : List α} {a b : α} (h : two l = some (a, b)) : l = [a, b] := by
  match l, h with
  | [_, _], h => cases h; rfl
theorem byV_inv {w : Option (AV × Sto)} {b : Bool} {σ : Sto} (h : byV w = some (b, σ)) : w = some (.bool b, σ) := by
  obtain ⟨v, σ1, e, h⟩ := bind2_inv h
  obtain ⟨c, h1, h⟩ := bind1_inv h
  cases h
  rw [e, asBool_inv h1]

section
variable {n₀ : Heap} {ρ : Rho} {h : Heap} {x : Value}
theorem RelV.intE {i : Int} (r : RelV n₀ ρ h (.int i) x) : ∃ t, x = .int i t := by cases r; exact ⟨_, rfl⟩
theorem RelV.boolE {b : Bool} (r : RelV n₀ ρ h (.bool b) x) : x = .bool b := by cases r; rfl
theorem RelV.strE {l : List Nat} (r : RelV n₀ ρ h (.str l) x) : ∃ t, x = .str ⟨l.toArray⟩ t := by cases r; exact ⟨_, rfl⟩
theorem RelV.tupE {xs : List AV} (r : RelV n₀ ρ h (.tup xs) x) : ∃ a vs, IsTup h a vs.toArray ∧ RelVs n₀ ρ h xs vs ∧ x = .ref a := by
  cases r with
  | tup t rs => exact ⟨_, _, t, rs, rfl⟩
theorem RelV.frzE {xs : List AV} (r : RelV n₀ ρ h (.frz xs) x) : ∃ a vs, (n₀.get? a).isSome = true ∧ h.IsList a vs.toArray ∧ RelVs n₀ ρ h xs vs ∧ x = .ref a := by
  cases r with
  | frz l t rs => exact ⟨_, _, l, t, rs, rfl⟩
theorem RelV.rngE {a b c : Int} (r : RelV n₀ ρ h (.rng a b c) x) : ∃ r t u v, IsRange h r a b c t u v ∧ x = .ref r := by
  cases r with
  | rng t => exact ⟨_, _, _, _, t, rfl⟩
theorem RelV.refE {i : Nat} (r : RelV n₀ ρ h (.ref i) x) : ∃ p : Addr × Addr, ρ[i]? = some p ∧ x = .ref p.1 := by
  cases r with
  | ref e => exact ⟨_, e, rfl⟩
theorem RelVs.nilE {vs : List Value} (r : RelVs n₀ ρ h [] vs) : vs = [] := by cases r; rfl
theorem RelVs.consE {a : AV} {xs : List AV} {vs : List Value} (r : RelVs n₀ ρ h (a :: xs) vs) : ∃ v us, RelV n₀ ρ h a v ∧ RelVs n₀ ρ h xs us ∧ vs = v :: us := by
  cases r with
  | cons r1 rs => exact ⟨_, _, r1, rs, rfl⟩
theorem RelVs.oneE {a : AV} {vs : List Value} (r : RelVs n₀ ρ h [a] vs) : ∃ v, RelV n₀ ρ h a v ∧ vs = [v] := by
  obtain ⟨v, us, r1, rs, rfl⟩ := r.consE
  exact ⟨v, r1, by rw [rs.nilE]⟩
theorem RelVs.twoE {a b : AV} {vs : List Value} (r : RelVs n₀ ρ h [a, b] vs) : ∃ v u, RelV n₀ ρ h a v ∧ RelV n₀ ρ h b u ∧ vs = [v, u] := by
  obtain ⟨v, us, r1, rs, rfl⟩ := r.consE
  obtain ⟨u, r2, rfl⟩ := rs.oneE
  exact ⟨v, u, r1, r2, rfl⟩
end
section
variable {prog : Program} {w : World} {A : Around} {hB : Heap} {os : OsState} {C : Addr} {ρ ρ' : Rho} {σ σ' : Sto} {s s' : Shared} {v : AV}
/-- what is told behind a step -/
noncomputable def KontG (hB : Heap) (os : OsState) (C : Addr) (ρ : Rho) (s : Shared) (v : AV) (σ' : Sto) (Q : Value → Shared → Prop) : Prop :=
  ∀ x s1 ρ1, Step ρ s ρ1 s1 → StG hB os C ρ1 σ' s1 → RelV hB ρ1 s1.heap v x → Q x s1
theorem KontG.step {Q : Value → Shared → Prop} {ρ1 : Rho} {s1 : Shared} (k : KontG hB os C ρ s v σ' Q) (T : Step ρ s ρ1 s1) : KontG hB os C ρ1 s1 v σ' Q :=
  fun x s2 ρ2 T2 G r => k x s2 ρ2 (T.trans T2) G r
theorem KontG.post {Q : Value → Shared → Prop} (k : KontG hB os C ρ s v σ' Q) {x : Value} {s1 : Shared} (h : PostV hB os C ρ s v σ' x s1) : Q x s1 :=
  let ⟨ρ1, T, G, r⟩ := h
  k x s1 ρ1 T G r
theorem PostV.kont : KontG hB os C ρ s v σ' (PostV hB os C ρ s v σ') := fun _ _ ρ1 T G r => ⟨ρ1, T, G, r⟩
theorem KontG.of {v0 : AV} {σ0 : Sto} {Q : Value → Shared → Prop} (k : KontG hB os C ρ s v σ' Q) (e : some (v0, σ0) = some (v, σ')) : KontG hB os C ρ s v0 σ0 Q := by cases e; exact k
theorem KontG.of1 {v0 : AV} {Q : Value → Shared → Prop} (k : KontG hB os C ρ s v σ' Q) (e : some v0 = some v) : KontG hB os C ρ s v0 σ' Q := by cases e; exact k
/-- a list's cell -/
theorem StG.listE (G : StG hB os C ρ σ s) {r : Nat} {xs : List AV} {p : Addr × Addr} (e : listAt σ r = some xs) (hp : ρ[r]? = some p) : ∃ vs : List Value, s.heap.PlainList p.1 vs.toArray ∧ RelVs hB ρ s.heap xs vs :=
  G.cell r _ p (listAt_inv e) hp
end
end Mine
end

section
open PySem PySem.W PyProof.Rows PySem.Calls
set_option maxRecDepth 100000
set_option linter.unusedSimpArgs false
namespace Mine

theorem sizeOk_le {n : Nat} (h : sizeOk n = true) : n ≤ 1000000 := Nat.le_of_ble_eq_true h
theorem intOk_le {i : Int} (h : intOk i = true) : i.natAbs ≤ 1000000000000 := Nat.le_of_ble_eq_true h
theorem sizeLine_eq' : sizeLine = 16777216 := by decide

noncomputable abbrev Fls : Value → Shared → Prop := fun _ _ => False

theorem ltL_iff : ∀ x y : List Nat, ltL x y = decide (x < y)
  | [], [] => by simp [ltL_z]
  | [], _ :: _ => by simp [ltL_0]
  | _ :: _, [] => by simp [ltL_z]
  | a :: x, b :: y => by
    have ih := ltL_iff x y
    simp only [ltL_c, ih]
    by_cases h : a < b
    · simp [h, List.cons_lt_cons_iff]
    · by_cases q : a = b
      · subst q; simp []
      · simp [h, q, List.cons_lt_cons_iff]

section
variable {prog : Program} {w : World} {A : Around} {hB : Heap} {os : OsState} {C : Addr} {ρ ρ' : Rho} {σ σ' : Sto} {s s' : Shared} {v : AV}

theorem PostV.now (G : StG hB os C ρ σ s) {v : AV} {val : Value} (r : RelV hB ρ s.heap v val) (t : Nat) : PostV hB os C ρ s v σ val { s with toks := t } :=
  ⟨ρ, (Step.refl G).toks t, G.toks t, r⟩
theorem PostV.str (G : StG hB os C ρ σ s) {l : List Nat} {x : Str} (e : x.cps.toList = l) (u t : Nat) : PostV hB os C ρ s (.str l) σ (.str x u) { s with toks := t } := by
  subst e
  exact .now G (.str _ u) t
theorem PostV.bool (G : StG hB os C ρ σ s) (b : Bool) (t : Nat) : PostV hB os C ρ s (.bool b) σ (.bool b) { s with toks := t } := .now G (.bool b) t
theorem PostV.list (G : StG hB os C ρ σ s) {xs : List AV} {vs : List Value} (R : RelVs hB ρ s.heap xs vs) (t : Nat) :
    PostV hB os C ρ s (.ref σ.length) (σ ++ [.list xs]) (.ref s.heap.objs.size) { s with heap := s.heap.push { cls := .type "list", data := .seq vs.toArray }, toks := t } := by
  obtain ⟨G', S'⟩ := G.newList R t
  refine ⟨_, S', G', ?_⟩
  have : (ρ ++ [(s.heap.objs.size, s.heap.objs.size)])[σ.length]? = some (s.heap.objs.size, s.heap.objs.size) := by
    rw [← G.len, List.getElem?_append_right (Nat.le_refl _)]; simp
  exact .ref this
theorem PostV.tuple (G : StG hB os C ρ σ s) {xs : List AV} {vs : List Value} (R : RelVs hB ρ s.heap xs vs) (t : Nat) :
    PostV hB os C ρ s (.tup xs) σ (.ref s.heap.objs.size) { s with heap := s.heap.push { cls := .type "tuple", data := .seq vs.toArray }, toks := t } :=
  ⟨ρ, Step.push G _ t, G.push _ t, .tup ⟨_, Heap.get?_push_size _ rfl, rfl, _, rfl⟩ ((Step.push G _ t).rels G R)⟩

theorem foldl_replicate (n : Nat) (l : List Nat) : ∀ acc : Array Nat, ((List.replicate n l.toArray).foldl (· ++ ·) acc).toList = acc.toList ++ (List.replicate n l).flatten := by
  induction n with
  | zero => intro acc; simp
  | succ n ih => intro acc; simp only [List.replicate_succ, List.foldl_cons, List.flatten_cons, ih, Array.toList_append, List.append_assoc]

theorem mul_int_str {n : Int} {t u : Tok} {l : List Nat} (h1 : n.natAbs ≤ 1000000) (h2 : l.length ≤ 1000000) (h3 : n.natAbs * l.length ≤ 1000000) {Q : Value → Shared → Prop} {E : Value → Shared → Prop}
    (h : ∀ x t' tk, x.cps.toList = mulText n l → Q (.str x t') { s with toks := tk }) : wpAny (model prog w) A (binaryOp .Mult (.int n t) (.str ⟨l.toArray⟩ u)) Q E s := by
  have hok : MulOk ⟨l.toArray⟩ n := by
    have hl : (⟨l.toArray⟩ : Str).length = l.length := by simp [Str.length]
    have hp : ¬ n < 1 → l.length * n.toNat ≤ 1000000 := fun h0 => by
      have : n.toNat = n.natAbs := by omega
      rw [this, Nat.mul_comm]; exact h3
    refine ⟨?_, fun a _ => ?_, fun a _ => ?_⟩
    · have a1 : ¬ n < -(2 ^ 63 : Int) := by omega
      have a2 : ¬ n ≥ (2 ^ 63 : Int) := by omega
      rw [decide_eq_false a1, decide_eq_false a2]; rfl
    · have q := hp a
      have e : ((l.length * n.toNat : Nat) : Int) = (l.length : Int) * n := by rw [Int.natCast_mul, Int.toNat_of_nonneg (by omega)]
      have h3' : (l.length : Int) * n ≤ 2 ^ 63 - 1 := by rw [← e]; omega
      have h4 : (l.length : Int) ≤ (2 ^ 63 - 1) / n := (Int.le_ediv_iff_mul_le (by omega)).mpr h3'
      rw [hl]; omega
    · rw [hl]
      have q := hp a
      exact short24 (by omega)
  refine lm_binaryOp_repeat_right (T := "str") (U := "int") (by decide) (fun s' => typeIs_int s' n t) (typeIs_str s _ u) PySem.F.fills_int_mul noFill_str_mul PySem.F.slot_int_mul lm_noRepeat_int repeat_str PySem.F.slot_int_index.lookup ?_
  refine call_gives PySem.F.slot_int_mul (typeIs_int s n t) PySem.F.entry_int_mul (PySem.F.args_int_mul_2 _ _) (AutoIntG3.int___mul___int_str_0 n t _ u) ⟨rfl, typeIs_str _ _ _, ?_⟩
  refine call_gives PySem.F.slot_str_mul (typeIs_str s _ u) PySem.F.entry_str_mul (PySem.F.args_str_mul_2 _ _) (gives_str_mul _ n u t hok.1 hok.2.1 hok.2.2) ?_
  by_cases c1 : n < 1
  · rw [if_pos c1]
    refine ⟨by decide, h _ _ _ ?_⟩
    have : n.toNat = 0 := by omega
    simp [mulText, this, Str.empty]
  · rw [if_neg c1]
    by_cases c2 : (n == 1 || (⟨l.toArray⟩ : Str).length == 0) = true
    · rw [if_pos c2]
      refine h _ _ s.toks ?_
      rw [Bool.or_eq_true, beq_iff_eq, beq_iff_eq] at c2
      rcases c2 with rfl | c2
      · simp [mulText]
      · have : l = [] := by simpa [Str.length] using c2
        subst this
        simp [mulText]
    · rw [if_neg c2]
      have e : (((List.replicate n.toNat l.toArray).foldl (· ++ ·) #[]) : Array Nat).toList = mulText n l := by rw [foldl_replicate]; simp [mulText]
      refine ⟨?_, h _ _ _ e⟩
      show (Array.size _) ≤ sizeLine
      rw [← Array.length_toList, e, sizeLine_eq']
      have : n.toNat = n.natAbs := by omega
      simp only [mulText, List.length_flatten, List.map_replicate, List.sum_replicate_nat, this]
      omega

theorem KontG.now (G : StG hB os C ρ σ s) {Q : Value → Shared → Prop} (k : KontG hB os C ρ s v σ Q) {val : Value} (r : RelV hB ρ s.heap v val) (t : Nat) : Q val { s with toks := t } :=
  k.post (.now G r t)
theorem KontG.newList (G : StG hB os C ρ σ s) {Q : Value → Shared → Prop} {xs : List AV} (k : KontG hB os C ρ s (.ref σ.length) (σ ++ [.list xs]) Q) {vs : List Value} (R : RelVs hB ρ s.heap xs vs) (t : Nat) :
    Q (.ref s.heap.objs.size) { s with heap := s.heap.push { cls := .type "list", data := .seq vs.toArray }, toks := t } := k.post (.list G R t)

section
variable {a b : AV} {x y : Value} {Q : Value → Shared → Prop}
theorem addop_ok (e : binop .Add a b σ = some (v, σ')) (G : StG hB os C ρ σ s) (ra : RelV hB ρ s.heap a x) (rb : RelV hB ρ s.heap b y) (k : KontG hB os C ρ s v σ' Q) : wpAny (model prog w) A (binaryOp .Add x y) Q Fls s := by
  cases a with
  | int i =>
    obtain ⟨j, hb, e1⟩ := bind1_inv e
    rw [asInt_inv hb] at rb
    obtain ⟨_, rfl⟩ := ra.intE
    obtain ⟨_, rfl⟩ := rb.intE
    exact add_int ((k.of e1).now G (.int _ _) _)
  | str l =>
    obtain ⟨j, hb, e1⟩ := bind1_inv e
    obtain ⟨hk, e2⟩ := guard_inv e1
    have hk := sizeOk_le hk
    rw [asStr_inv hb] at rb
    obtain ⟨_, rfl⟩ := ra.strE
    obtain ⟨_, rfl⟩ := rb.strE
    refine add_str (fun t' tk => (k.of e2).post (.str G (by show (Array.append _ _).toList = _; simp) _ _)) ?_
    simp [Str.length, sizeLine_eq']; omega
  | _ => cases e
theorem two_ints {a b : AV} {x y : Value} {f : Int → Int → Option (AV × Sto)} {r : AV × Sto} (e : (bind1 (asInt a) fun i => bind1 (asInt b) fun j => f i j) = some r) (ra : RelV hB ρ s.heap a x) (rb : RelV hB ρ s.heap b y) :
    ∃ i j t u, x = .int i t ∧ y = .int j u ∧ f i j = some r := by
  obtain ⟨i, ha, e1⟩ := bind1_inv e
  obtain ⟨j, hb, e2⟩ := bind1_inv e1
  rw [asInt_inv ha] at ra
  rw [asInt_inv hb] at rb
  obtain ⟨t, rfl⟩ := ra.intE
  obtain ⟨u, rfl⟩ := rb.intE
  exact ⟨i, j, t, u, rfl, rfl, e2⟩
theorem mulop_ok (e : binop .Mult a b σ = some (v, σ')) (G : StG hB os C ρ σ s) (ra : RelV hB ρ s.heap a x) (rb : RelV hB ρ s.heap b y) (k : KontG hB os C ρ s v σ' Q) : wpAny (model prog w) A (binaryOp .Mult x y) Q Fls s := by
  obtain ⟨i, ha, e1⟩ := bind1_inv e
  rw [asInt_inv ha] at ra
  obtain ⟨_, rfl⟩ := ra.intE
  cases b with
  | int j =>
    obtain ⟨hk, e2⟩ := guard_inv e1
    have := intOk_le (Bool.and_eq_true_iff.mp hk).1
    obtain ⟨_, rfl⟩ := rb.intE
    exact mul_int ((k.of e2).now G (.int _ _) _) (.of_left (intBits_le_64 (by omega) (by omega)))
  | str l =>
    obtain ⟨hk, e2⟩ := guard_inv e1
    simp only [Bool.and_eq_true] at hk
    obtain ⟨_, rfl⟩ := rb.strE
    exact mul_int_str (sizeOk_le hk.1.1) (sizeOk_le hk.1.2) (sizeOk_le hk.2) fun x t' tk q => (k.of e2).post (.str G q _ _)
  | _ => cases e1
theorem binop_ok {op : Operator} (e : binop op a b σ = some (v, σ')) (G : StG hB os C ρ σ s) (ra : RelV hB ρ s.heap a x) (rb : RelV hB ρ s.heap b y) (k : KontG hB os C ρ s v σ' Q) : wpAny (model prog w) A (binaryOp op x y) Q Fls s := by
  cases op with
  | Add => exact addop_ok e G ra rb k
  | Mult => exact mulop_ok e G ra rb k
  | Sub =>
    obtain ⟨i, j, _, _, rfl, rfl, e1⟩ := two_ints e ra rb
    exact sub_int ((k.of e1).now G (.int _ _) _)
  | FloorDiv =>
    obtain ⟨i, j, _, _, rfl, rfl, e1⟩ := two_ints e ra rb
    obtain ⟨hk, e2⟩ := guard_inv e1
    rw [← Int.fdiv_eq_ediv_of_nonneg _ (by omega)] at e2
    exact floordiv_int (by omega) ((k.of e2).now G (.int _ _) _) (.inl (PyProof.noPylong_small (by omega)))
  | Mod =>
    obtain ⟨i, j, _, _, rfl, rfl, e1⟩ := two_ints e ra rb
    obtain ⟨hk, e2⟩ := guard_inv e1
    rw [← Int.fmod_eq_emod_of_nonneg _ (by omega)] at e2
    exact mod_int' (by omega) ((k.of e2).now G (.int _ _) _)
  | _ => cases e
end
end
end Mine
end

section
open PySem PySem.W PyProof.Rows PySem.Calls PySem.SeqAt
set_option maxRecDepth 100000
set_option linter.unusedSimpArgs false
namespace Mine

section
variable {prog : Program} {w : World} {A : Around} {hB : Heap} {os : OsState} {C : Addr} {ρ ρ' : Rho} {σ σ' : Sto} {s s' : Shared} {v : AV}

theorem RelV.str_inv {n₀ : Heap} {h : Heap} {y : AV} {x : Str} {t : Tok} (r : RelV n₀ ρ h y (.str x t)) : y = .str x.cps.toList := by
  cases r; simp
theorem RelV.ref_inv {n₀ : Heap} {h : Heap} {y : AV} {a : Addr} {P : Prop} (r : RelV n₀ ρ h y (.ref a)) (h1 : ∀ xs vs, y = .tup xs → IsTup h a vs.toArray → RelVs n₀ ρ h xs vs → P) (h2 : ∀ b c d t u v, y = .rng b c d → IsRange h a b c d t u v → P)
    (h3 : ∀ xs vs, y = .frz xs → (n₀.get? a).isSome = true → h.IsList a vs.toArray → RelVs n₀ ρ h xs vs → P) (h4 : ∀ i p, y = .ref i → ρ[i]? = some p → p.1 = a → P) : P := by
  cases y with
  | tup xs => obtain ⟨_, vs, t, rs, e⟩ := r.tupE; cases e; exact h1 xs vs rfl t rs
  | rng b c d => obtain ⟨_, _, _, _, t, e⟩ := r.rngE; cases e; exact h2 _ _ _ _ _ _ rfl t
  | frz xs => obtain ⟨_, vs, l, t, rs, e⟩ := r.frzE; cases e; exact h3 xs vs rfl l t rs
  | ref i => obtain ⟨p, hp, e⟩ := r.refE; exact h4 i p rfl hp (by cases e; rfl)
  | _ => cases r
theorem seq_inj {o : Obj} {vs us : List Value} {n k : Nat} (h : o.data = .seq vs.toArray n) (h' : o.data = .seq us.toArray k) : vs = us := by
  rw [h] at h'
  injection h' with e _
  simpa using congrArg Array.toList e

theorem tup_rng {h : Heap} {a : Addr} {vs : Array Value} {b c d : Int} {t u v : Tok} (x : IsTup h a vs) (y : IsRange h a b c d t u v) : False := by
  obtain ⟨o, ho, hc, _⟩ := x
  have y : h.get? a = _ := y
  rw [ho] at y; cases y; simp at hc
theorem tup_list {h : Heap} {a : Addr} {vs us : Array Value} (x : IsTup h a vs) (y : h.IsList a us) : False := by
  obtain ⟨o, ho, hc, _⟩ := x
  obtain ⟨o', ho', hc', _⟩ := y
  rw [ho] at ho'; cases ho'; rw [hc] at hc'; exact absurd hc' (by decide)
theorem rng_list {h : Heap} {a : Addr} {us : Array Value} {b c d : Int} {t u v : Tok} (x : IsRange h a b c d t u v) (y : h.IsList a us) : False := by
  have x : h.get? a = _ := x
  obtain ⟨o', ho', hc', _⟩ := y
  rw [ho'] at x; cases x; simp at hc'
theorem RelVs.injOf {n₀ : Heap} {h : Heap} : ∀ {xs ys : List AV} {vs : List Value}, (∀ x ∈ xs, ∀ y v, RelV n₀ ρ h x v → RelV n₀ ρ h y v → x = y) → RelVs n₀ ρ h xs vs → RelVs n₀ ρ h ys vs → xs = ys
  | [], ys, vs, _, r, q => by
    rw [r.nilE] at q
    cases ys with
    | nil => rfl
    | cons y ys => obtain ⟨_, _, _, _, e⟩ := q.consE; cases e
  | x :: xs, ys, vs, ih, r, q => by
    obtain ⟨v, us, r1, rs, rfl⟩ := r.consE
    cases ys with
    | nil => cases q.nilE
    | cons y ys =>
      obtain ⟨_, _, q1, qs, e⟩ := q.consE
      cases e
      rw [ih x (by simp) y v r1 q1, RelVs.injOf (fun x hx => ih x (by simp [hx])) rs qs]

theorem inj_aux (G : StG hB os C ρ σ s) : ∀ (n : Nat) (x y : AV) (val : Value), sizeOf x < n → RelV hB ρ s.heap x val → RelV hB ρ s.heap y val → x = y
  | 0, _, _, _, h, _, _ => absurd h (Nat.not_lt_zero _)
  | n + 1, x, y, val, h, r, q => by
    cases x with
    | none => cases r; cases q; rfl
    | bool b => rw [r.boolE] at q; cases q; rfl
    | int i => obtain ⟨_, rfl⟩ := r.intE; cases q; rfl
    | str l => obtain ⟨_, rfl⟩ := r.strE; rw [q.str_inv]
    | tup xs =>
      obtain ⟨a, vs, t, rs, rfl⟩ := r.tupE
      have ih : ∀ x ∈ xs, ∀ y v, RelV hB ρ s.heap x v → RelV hB ρ s.heap y v → x = y := fun x hx y v => inj_aux G n x y v (by have := List.sizeOf_lt_of_mem hx; simp at h; omega)
      refine q.ref_inv (fun ys us e t' rs' => ?_) (fun _ _ _ _ _ _ _ t' => (tup_rng t t').elim) (fun _ _ _ _ t' _ => (tup_list t t').elim) (fun i p _ hp e => (by rw [← e] at t; exact ((G.mut ⟨p, List.mem_of_getElem? hp, rfl⟩).1.noTup t).elim))
      obtain ⟨o, ho, _, _, hd⟩ := t
      obtain ⟨o', ho', _, _, hd'⟩ := t'
      rw [ho] at ho'; cases ho'
      cases seq_inj hd hd'
      rw [e, RelVs.injOf ih rs rs']
    | rng b c d =>
      obtain ⟨a, _, _, _, t, rfl⟩ := r.rngE
      refine q.ref_inv (fun _ _ _ t' _ => (tup_rng t' t).elim) (fun _ _ _ _ _ _ e t' => ?_) (fun _ _ _ _ t' _ => (rng_list t t').elim) (fun i p _ hp e => (by rw [← e] at t; exact ((G.mut ⟨p, List.mem_of_getElem? hp, rfl⟩).1.noRange t).elim))
      have t : s.heap.get? a = _ := t
      have := Option.some.inj (t.symm.trans t')
      simp at this
      obtain ⟨⟨e1, _⟩, ⟨e2, _⟩, ⟨e3, _⟩⟩ := this
      rw [e, e1, e2, e3]
    | frz xs =>
      obtain ⟨a, vs, l, t, rs, rfl⟩ := r.frzE
      have ih : ∀ x ∈ xs, ∀ y v, RelV hB ρ s.heap x v → RelV hB ρ s.heap y v → x = y := fun x hx y v => inj_aux G n x y v (by have := List.sizeOf_lt_of_mem hx; simp at h; omega)
      refine q.ref_inv (fun _ _ _ t' _ => (tup_list t' t).elim) (fun _ _ _ _ _ _ _ t' => (rng_list t' t).elim) (fun ys us e _ t' rs' => ?_) (fun i p _ hp e => (by rw [← e, (G.mut ⟨p, List.mem_of_getElem? hp, rfl⟩).2] at l; cases l))
      obtain ⟨o, ho, _, _, hd⟩ := t
      obtain ⟨o', ho', _, _, hd'⟩ := t'
      rw [ho] at ho'; cases ho'
      cases seq_inj hd hd'
      rw [e, RelVs.injOf ih rs rs']
    | ref r' =>
      obtain ⟨p, hp, rfl⟩ := r.refE
      have hin : inρ ρ p.1 := ⟨p, List.mem_of_getElem? hp, rfl⟩
      refine q.ref_inv (fun _ _ _ t' _ => ((G.mut hin).1.noTup t').elim) (fun _ _ _ _ _ _ _ t' => ((G.mut hin).1.noRange t').elim) (fun _ _ _ l _ _ => (by rw [(G.mut hin).2] at l; cases l)) (fun i q' e hq e1 => ?_)
      have ap := G.apart
      rw [List.Nodup, List.pairwise_iff_getElem] at ap
      obtain ⟨l1, g1⟩ := List.getElem?_eq_some_iff.mp hp
      obtain ⟨l2, g2⟩ := List.getElem?_eq_some_iff.mp hq
      rw [e]
      rcases Nat.lt_trichotomy r' i with z | z | z
      · exact absurd (by rw [List.getElem_map, List.getElem_map, g1, g2, e1]) (ap r' i (by simpa using l1) (by simpa using l2) z)
      · rw [z]
      · exact absurd (by rw [List.getElem_map, List.getElem_map, g1, g2, e1]) (ap i r' (by simpa using l2) (by simpa using l1) z)
/-- a value of the machine's tells one thing alone -/
theorem RelV.inj (G : StG hB os C ρ σ s) {x y : AV} {val : Value} (r : RelV hB ρ s.heap x val) (q : RelV hB ρ s.heap y val) : x = y := inj_aux G _ x y val (Nat.lt_succ_self _) r q

theorem beq_str (l l' : List Nat) : (l == l') = ((⟨l.toArray⟩ : Str) == ⟨l'.toArray⟩) := by rw [← PySem.SeqAt.str_beq]

theorem eq0_at {x y : AV} {a b : Value} {c : Bool} (e : eq0 x y = some c) (ra : RelV hB ρ s.heap x a) (rb : RelV hB ρ s.heap y b) : EqAt A s a b c := by
  cases x with
  | int i =>
    obtain ⟨j, hb, e⟩ := bind1_inv e
    cases asInt_inv hb; cases e
    obtain ⟨_, rfl⟩ := ra.intE
    obtain ⟨_, rfl⟩ := rb.intE
    exact EqAt.int_int _ _ _ _
  | str l =>
    obtain ⟨j, hb, e⟩ := bind1_inv e
    cases asStr_inv hb; cases e
    obtain ⟨_, rfl⟩ := ra.strE
    obtain ⟨_, rfl⟩ := rb.strE
    rw [beq_str]
    exact EqAt.str_str _ _ _ _
  | _ => cases e

/-- what two lists of values tell item by item -/
noncomputable def pairB (f : AV → AV → Option Bool) (xs ys : List AV) (j : Nat) : Bool := match xs[j]?, ys[j]? with | some x, some y => (f x y).getD false | _, _ => false

theorem pairB_zero {f : AV → AV → Option Bool} {x y : AV} {xs ys : List AV} : pairB f (x :: xs) (y :: ys) 0 = (f x y).getD false := rfl
theorem pairB_succ {f : AV → AV → Option Bool} {x y : AV} {xs ys : List AV} {j : Nat} : pairB f (x :: xs) (y :: ys) (j + 1) = pairB f xs ys j := by simp [pairB]


/-- what a list of answers is made of -/
theorem pairs_spec {f : AV → AV → Option Bool} {g : List AV → List AV → Option Bool} (h0 : g [] [] = some true) (h1 : ∀ x xs y ys, g (x :: xs) (y :: ys) = bind1 (f x y) fun a => bind1 (g xs ys) fun b => some (a && b))
    (h2 : ∀ y ys, g [] (y :: ys) = none) (h3 : ∀ x xs, g (x :: xs) [] = none) : ∀ {xs ys : List AV} {c : Bool}, g xs ys = some c → xs.length = ys.length ∧
    (∀ (j : Nat) x y, xs[j]? = some x → ys[j]? = some y → ∃ b, f x y = some b) ∧ c = (List.range xs.length).all (pairB f xs ys)
  | [], [], c, e => by rw [h0] at e; cases e; simp
  | [], _ :: _, c, e => by rw [h2] at e; cases e
  | _ :: _, [], c, e => by rw [h3] at e; cases e
  | x :: xs, y :: ys, c, e => by
    rw [h1] at e
    obtain ⟨a, h4, e⟩ := bind1_inv e
    obtain ⟨b, h5, e⟩ := bind1_inv e
    cases e
    obtain ⟨i1, i2, i3⟩ := pairs_spec h0 h1 h2 h3 h5
    refine ⟨by simp [i1], fun j x' y' ex ey => ?_, ?_⟩
    · cases j with
      | zero => simp at ex ey; subst ex; subst ey; exact ⟨_, h4⟩
      | succ j => simp at ex ey; exact i2 j x' y' ex ey
    · rw [List.length_cons, List.range_succ_eq_map, List.all_cons, List.all_map, i3]
      simp [pairB_zero, pairB_succ, h4, Function.comp_def]
theorem eq0s_spec {xs ys : List AV} {c : Bool} (e : eq0s xs ys = some c) : xs.length = ys.length ∧ (∀ (j : Nat) x y, xs[j]? = some x → ys[j]? = some y → ∃ b, eq0 x y = some b) ∧ c = (List.range xs.length).all (pairB eq0 xs ys) :=
  pairs_spec rfl (fun _ _ _ _ => rfl) (fun _ _ => rfl) (fun _ _ => rfl) e
theorem eqAVs_spec {xs ys : List AV} {c : Bool} (e : eqAVs xs ys = some c) : xs.length = ys.length ∧ (∀ (j : Nat) x y, xs[j]? = some x → ys[j]? = some y → ∃ b, eqAV x y = some b) ∧ c = (List.range xs.length).all (pairB eqAV xs ys) :=
  pairs_spec rfl (fun _ _ _ _ => rfl) (fun _ _ => rfl) (fun _ _ => rfl) e

/-- item by item, at the machine -/
theorem pairs_at {f : AV → AV → Option Bool} {xs ys : List AV} {vs us : List Value} (hf : ∀ x y a b c, f x y = some c → RelV hB ρ s.heap x a → RelV hB ρ s.heap y b → EqAt A.in1 s a b c)
    (i2 : ∀ (j : Nat) x y, xs[j]? = some x → ys[j]? = some y → ∃ b, f x y = some b) (ra : RelVs hB ρ s.heap xs vs) (rb : RelVs hB ρ s.heap ys us) :
    ∀ j (h1 : j < vs.toArray.size) (h2 : j < us.toArray.size), EqAt A.in1 s vs.toArray[j] us.toArray[j] (pairB f xs ys j) := by
  intro j h1 h2
  have h1' : j < xs.length := by rw [ra.length]; exact h1
  have h2' : j < ys.length := by rw [rb.length]; exact h2
  obtain ⟨x', e1, r1⟩ := ra.get (List.getElem?_eq_getElem h1')
  obtain ⟨y', e2, r2⟩ := rb.get (List.getElem?_eq_getElem h2')
  obtain ⟨b, hb⟩ := i2 j _ _ (List.getElem?_eq_getElem h1') (List.getElem?_eq_getElem h2')
  have ex : vs.toArray[j] = x' := Option.some.inj ((List.getElem?_eq_getElem (l := vs) h1).symm.trans e1)
  have ey : us.toArray[j] = y' := Option.some.inj ((List.getElem?_eq_getElem (l := us) h2).symm.trans e2)
  have : pairB f xs ys j = b := by simp [pairB, List.getElem?_eq_getElem h1', List.getElem?_eq_getElem h2', hb]
  rw [ex, ey, this]
  exact hf _ _ _ _ _ hb r1 r2
theorem eq0s_tup {xs ys : List AV} {vs us : List Value} {c : Bool} (e : eq0s xs ys = some c) (ra : RelVs hB ρ s.heap xs vs) (rb : RelVs hB ρ s.heap ys us) :
    (∀ j (h1 : j < vs.toArray.size) (h2 : j < us.toArray.size), EqAt A.in1 s vs.toArray[j] us.toArray[j] (pairB eq0 xs ys j)) ∧
    ((List.range (min vs.toArray.size us.toArray.size)).all (pairB eq0 xs ys) && vs.toArray.size == us.toArray.size) = c := by
  obtain ⟨i1, i2, i3⟩ := eq0s_spec e
  refine ⟨pairs_at (fun _ _ _ _ _ => eq0_at) i2 ra rb, ?_⟩
  have e1 : vs.toArray.size = xs.length := ra.length.symm
  have e2 : us.toArray.size = xs.length := rb.length.symm.trans i1.symm
  rw [e1, e2, i3, Nat.min_self]
  simp only [beq_self_eq_true, Bool.and_true]
theorem eqAV_inv {x y : AV} {c : Bool} (e : eqAV x y = some c) : (eq0 x y = some c) ∨ ∃ xs ys, x = .tup xs ∧ y = .tup ys ∧ eq0s xs ys = some c := by
  cases x with
  | tup xs =>
    obtain ⟨ys, h, e⟩ := bind1_inv e
    exact .inr ⟨xs, ys, rfl, asTup_inv h, e⟩
  | _ => exact .inl e
theorem eq0s_same {xs : List AV} {c : Bool} (e : eq0s xs xs = some c) : c = true := by
  obtain ⟨_, i2, i3⟩ := eq0s_spec e
  rw [i3, List.all_eq_true]
  intro j hj
  have hj' : j < xs.length := List.mem_range.mp hj
  obtain ⟨b, hb⟩ := i2 j _ _ (List.getElem?_eq_getElem hj') (List.getElem?_eq_getElem hj')
  simp only [pairB, List.getElem?_eq_getElem hj', hb, Option.getD_some]
  generalize xs[j] = x at hb
  cases x with
  | int i =>
    have h : some (i == i) = some b := hb
    cases h; exact beq_self_eq_true i
  | str l =>
    have h : some (l == l) = some b := hb
    cases h; exact beq_self_eq_true l
  | _ => cases hb
theorem eqAV_at (G : StG hB os C ρ σ s) {x y : AV} {a b : Value} {c : Bool} (e : eqAV x y = some c) (ra : RelV hB ρ s.heap x a) (rb : RelV hB ρ s.heap y b) (hu : A.units < cLine) : EqAt A s a b c := by
  rcases eqAV_inv e with e | ⟨xs, ys, rfl, rfl, e⟩
  · exact eq0_at e ra rb
  · obtain ⟨la, vs, t, rs, rfl⟩ := ra.tupE
    obtain ⟨lb, us, t', rs', rfl⟩ := rb.tupE
    by_cases hne : la = lb
    · subst hne
      cases RelV.inj G (RelV.tup t rs) (RelV.tup t' rs')
      rw [eq0s_same e]
      exact EqAt.same _
    · obtain ⟨p1, p2⟩ := eq0s_tup (A := A) e rs rs'
      rw [← p2]
      exact EqAt.of_refs hne (RcAt.tuples t t' hu p1)

theorem eqAVs_lists (G : StG hB os C ρ σ s) {xs ys : List AV} {vs us : List Value} {c : Bool} (e : eqAVs xs ys = some c) (ra : RelVs hB ρ s.heap xs vs) (rb : RelVs hB ρ s.heap ys us) (hu : A.units + 1 < cLine) :
    vs.toArray.size = us.toArray.size ∧ (∀ j (h1 : j < vs.toArray.size) (h2 : j < us.toArray.size), EqAt A.in1 s vs.toArray[j] us.toArray[j] (pairB eqAV xs ys j)) ∧
    (List.range vs.toArray.size).all (pairB eqAV xs ys) = c := by
  obtain ⟨i1, i2, i3⟩ := eqAVs_spec e
  have e1 : vs.toArray.size = xs.length := ra.length.symm
  exact ⟨e1.trans (i1.trans rb.length), pairs_at (fun _ _ _ _ _ q r1 r2 => eqAV_at G q r1 r2 hu) i2 ra rb, by rw [e1, i3]⟩

theorem eqTop_inv {a b : AV} {c : Bool} (e : eqTop a b σ = some c) : (eqAV a b = some c) ∨ ∃ r q xs ys, a = .ref r ∧ b = .ref q ∧ listAt σ r = some xs ∧ listAt σ q = some ys ∧ (if xs.length = ys.length then eqAVs xs ys else some false) = some c := by
  cases a with
  | ref r =>
    obtain ⟨q, hb, e⟩ := bind1_inv e
    obtain ⟨xs, h1, e⟩ := bind1_inv e
    obtain ⟨ys, h2, e⟩ := bind1_inv e
    exact .inr ⟨r, q, xs, ys, rfl, asRef_inv hb, h1, h2, e⟩
  | _ => exact .inl e
/-- == and != at once -/
theorem eqne_ok {a b : AV} {x y : Value} {c : Bool} (e : eqTop a b σ = some c) (G : StG hB os C ρ σ s)
    (ra : RelV hB ρ s.heap a x) (rb : RelV hB ρ s.heap b y) (hu : A.units + 1 < cLine) {Q : Value → Shared → Prop} {E : Value → Shared → Prop} :
    (Q (.bool c) s → wpAny (model prog w) A (compareOp .Eq x y) Q E s) ∧ (Q (.bool (!c)) s → wpAny (model prog w) A (compareOp .NotEq x y) Q E s) := by
  rcases eqTop_inv e with e | ⟨r, q, xs, ys, rfl, rfl, h1, h2, e⟩
  · rcases eqAV_inv e with e | ⟨xs, ys, rfl, rfl, e⟩
    · cases a with
      | int i =>
        obtain ⟨j, hb, e⟩ := bind1_inv e
        cases asInt_inv hb; cases e
        obtain ⟨_, rfl⟩ := ra.intE
        obtain ⟨_, rfl⟩ := rb.intE
        exact ⟨fun h => eq_int h, fun h => ne_int h⟩
      | str l =>
        obtain ⟨j, hb, e⟩ := bind1_inv e
        cases asStr_inv hb; cases e
        obtain ⟨_, rfl⟩ := ra.strE
        obtain ⟨_, rfl⟩ := rb.strE
        rw [beq_str]
        exact ⟨fun h => eq_str h, fun h => ne_str h⟩
      | _ => cases e
    · obtain ⟨la, vs, t, rs, rfl⟩ := ra.tupE
      obtain ⟨lb, us, t', rs', rfl⟩ := rb.tupE
      obtain ⟨p1, p2⟩ := eq0s_tup (A := A) e rs rs'
      rw [← p2]
      have hu' : A.units < cLine := Nat.lt_of_succ_lt hu
      exact ⟨fun h => RcAt.tuples t t' hu' p1 prog w E Q h, fun h => RcNeAt.tuples t t' hu' p1 prog w E Q h⟩
  · obtain ⟨p, hp, rfl⟩ := ra.refE
    obtain ⟨q, hq, rfl⟩ := rb.refE
    obtain ⟨vs, hl, r1⟩ := G.listE h1 hp
    obtain ⟨us, hl2, r2⟩ := G.listE h2 hq
    have hu' : A.units < cLine := Nat.lt_of_succ_lt hu
    by_cases hne : xs.length = ys.length
    · rw [if_pos hne] at e
      obtain ⟨z1, z2, z3⟩ := eqAVs_lists (A := A) G e r1 r2 hu
      rw [← z3]
      exact ⟨fun h => eq_listAt hl.isList hl2.isList z1 hu' z2 h, fun h => RcNeAt.lists hl.isList hl2.isList z1 hu' z2 prog w E Q h⟩
    · rw [if_neg hne] at e
      cases e
      have hs : (vs.toArray.size != us.toArray.size) = true := bne_iff_ne.mpr fun q => hne (r1.length.trans (q.trans r2.length.symm))
      exact ⟨fun h => eq_list_lengthsAt hl.isList hl2.isList hs hu' h, fun h => RcNeAt.lists_lengths hl.isList hl2.isList hs hu' prog w E Q h⟩

/-- does it equal -/
noncomputable def eqV (n₀ : Heap) (ρ : Rho) (h : Heap) (v : AV) (y : Value) : Bool := @decide (∃ x, RelV n₀ ρ h x y ∧ eqAV x v = some true) (Classical.propDecidable _)

theorem eqV_eq (G : StG hB os C ρ σ s) {x v : AV} {y : Value} {b : Bool} (r : RelV hB ρ s.heap x y) (e : eqAV x v = some b) : eqV hB ρ s.heap v y = b := by
  cases b with
  | true => exact @decide_eq_true _ (Classical.propDecidable _) ⟨x, r, e⟩
  | false =>
    refine @decide_eq_false _ (Classical.propDecidable _) ?_
    rintro ⟨x', r', e'⟩
    rw [RelV.inj G r' r, e] at e'
    cases e'
theorem anyEq_spec (G : StG hB os C ρ σ s) {v : AV} : ∀ {xs : List AV} {vs : List Value} {c : Bool}, anyEq v xs = some c → RelVs hB ρ s.heap xs vs →
    (∀ y ∈ vs, ∃ x b, RelV hB ρ s.heap x y ∧ eqAV x v = some b) ∧ vs.any (eqV hB ρ s.heap v) = c
  | [], _, c, e, R => by rw [R.nilE]; cases e; simp
  | x :: xs, _, c, e, R => by
    obtain ⟨y, ys, r, rs, rfl⟩ := R.consE
    obtain ⟨a, h1, e⟩ := bind1_inv e
    obtain ⟨b, h2, e⟩ := bind1_inv e
    cases e
    obtain ⟨i1, i2⟩ := anyEq_spec G h2 rs
    refine ⟨fun z hz => ?_, by rw [List.any_cons, i2, eqV_eq G r h1]⟩
    rcases List.mem_cons.mp hz with rfl | q
    · exact ⟨x, a, r, h1⟩
    · exact i1 z q
theorem eqV_at (G : StG hB os C ρ σ s) {v : AV} {z : Value} (rv : RelV hB ρ s.heap v z) {vs : List Value} (hu : A.units < cLine)
    (i1 : ∀ y ∈ vs, ∃ x b, RelV hB ρ s.heap x y ∧ eqAV x v = some b) : ∀ y, y ∈ vs.toArray → EqAt A s y z (eqV hB ρ s.heap v y) := fun y hy => by
  obtain ⟨x, b, r, e⟩ := i1 y (by simpa using hy)
  rw [eqV_eq G r e]
  exact eqAV_at G e r rv hu

theorem ord_ok {op : CmpOp} {c : Bool} {lt gt : Bool} (h : ordOp op lt gt = some c) : (op = .Lt ∧ c = lt) ∨ (op = .Gt ∧ c = gt) ∨ (op = .LtE ∧ c = !gt) ∨ (op = .GtE ∧ c = !lt) := by
  refine Classical.byContradiction fun hn => ?_
  cases op with
  | Lt => exact hn (.inl ⟨rfl, (Option.some.inj h).symm⟩)
  | Gt => exact hn (.inr (.inl ⟨rfl, (Option.some.inj h).symm⟩))
  | LtE => exact hn (.inr (.inr (.inl ⟨rfl, (Option.some.inj h).symm⟩)))
  | GtE => exact hn (.inr (.inr (.inr ⟨rfl, (Option.some.inj h).symm⟩)))
  | _ => exact nn h

theorem ordS_ok {op : CmpOp} {x y : List Nat} {t u : Tok} {c : Bool} (e : ordOp op (ltL x y) (ltL y x) = some c) {Q : Value → Shared → Prop} {E : Value → Shared → Prop} (h : Q (.bool c) s) :
    wpAny (model prog w) A (compareOp op (.str ⟨x.toArray⟩ t) (.str ⟨y.toArray⟩ u)) Q E s := by
  rw [ltL_iff, ltL_iff] at e
  rcases ord_ok e with ⟨rfl, rfl⟩ | ⟨rfl, rfl⟩ | ⟨rfl, rfl⟩ | ⟨rfl, rfl⟩
  · exact P.lt_str h
  · exact P.gt_str h
  · exact P.le_str h
  · exact P.ge_str h
theorem ordI_ok {op : CmpOp} {x y : Int} {t u : Tok} {c : Bool} (e : ordOp op (decide (x < y)) (decide (y < x)) = some c) {Q : Value → Shared → Prop} {E : Value → Shared → Prop} (h : Q (.bool c) s) :
    wpAny (model prog w) A (compareOp op (.int x t) (.int y u)) Q E s := by
  rcases ord_ok e with ⟨rfl, rfl⟩ | ⟨rfl, rfl⟩ | ⟨rfl, rfl⟩ | ⟨rfl, rfl⟩
  · exact lt_int h
  · exact gt_int h
  · refine le_int ?_
    have : decide (x ≤ y) = !decide (y < x) := by simp [← Int.not_lt]
    rw [this]; exact h
  · refine ge_int ?_
    have : decide (y ≤ x) = !decide (x < y) := by simp [← Int.not_lt]
    rw [this]; exact h

theorem memb_inv {a b : AV} {f : Nat → List AV → Option Bool} {c : Bool} (e : (bind1 (asRef b) fun r => bind1 (listAt σ r) fun xs => f r xs) = some c) : ∃ r xs, b = .ref r ∧ listAt σ r = some xs ∧ f r xs = some c := by
  obtain ⟨r, h, e⟩ := bind1_inv e
  obtain ⟨xs, h1, e⟩ := bind1_inv e
  exact ⟨r, xs, asRef_inv h, h1, e⟩
theorem ords_ok {op : CmpOp} {a b : AV} {x y : Value} {c : Bool} (e : (match a with
    | .int x => bind1 (asInt b) fun y => ordOp op (decide (x < y)) (decide (y < x))
    | .str x => bind1 (asStr b) fun y => ordOp op (ltL x y) (ltL y x)
    | _ => none) = some c) (ra : RelV hB ρ s.heap a x) (rb : RelV hB ρ s.heap b y) {Q : Value → Shared → Prop} {E : Value → Shared → Prop} (h : Q (.bool c) s) :
    wpAny (model prog w) A (compareOp op x y) Q E s := by
  cases a with
  | int i =>
    obtain ⟨j, hb, e⟩ := bind1_inv e
    cases asInt_inv hb
    obtain ⟨_, rfl⟩ := ra.intE
    obtain ⟨_, rfl⟩ := rb.intE
    exact ordI_ok e h
  | str i =>
    obtain ⟨j, hb, e⟩ := bind1_inv e
    cases asStr_inv hb
    obtain ⟨_, rfl⟩ := ra.strE
    obtain ⟨_, rfl⟩ := rb.strE
    exact ordS_ok e h
  | _ => cases e
theorem cmpop_ok {op : CmpOp} {a b : AV} {x y : Value} {c : Bool} (e : cmpop op a b σ = some c) (G : StG hB os C ρ σ s)
    (ra : RelV hB ρ s.heap a x) (rb : RelV hB ρ s.heap b y) (hu : A.units + 1 < cLine) {Q : Value → Shared → Prop} {E : Value → Shared → Prop} (h : Q (.bool c) s) :
    wpAny (model prog w) A (compareOp op x y) Q E s := by
  cases op with
  | Eq => exact (eqne_ok e G ra rb hu).1 h
  | NotEq =>
    obtain ⟨d, q, e⟩ := bind1_inv e
    cases e
    exact (eqne_ok q G ra rb hu).2 h
  | In =>
    obtain ⟨r, xs, rfl, h1, e⟩ := memb_inv (a := a) e
    obtain ⟨p, hp, rfl⟩ := rb.refE
    obtain ⟨vs, hl, r1⟩ := G.listE h1 hp
    obtain ⟨i1, i2⟩ := anyEq_spec G e r1
    refine in_listAt (eqV hB ρ s.heap a) hl.isList (eqV_at G ra hu i1) ?_
    rw [show vs.toArray.any (eqV hB ρ s.heap a) = c by simpa using i2]; exact h
  | NotIn =>
    obtain ⟨r, xs, rfl, h1, e⟩ := memb_inv (a := a) e
    obtain ⟨d, q, e⟩ := bind1_inv e
    cases e
    obtain ⟨p, hp, rfl⟩ := rb.refE
    obtain ⟨vs, hl, r1⟩ := G.listE h1 hp
    obtain ⟨i1, i2⟩ := anyEq_spec G q r1
    refine notIn_listAt (eqV hB ρ s.heap a) hl.isList (eqV_at G ra hu i1) ?_
    rw [show vs.toArray.any (eqV hB ρ s.heap a) = d by simpa using i2]; exact h
  | _ => exact ords_ok e ra rb h
end
end Mine
end

section
open PySem PySem.W PyProof.Rows PySem.Calls
set_option maxRecDepth 100000
set_option linter.unusedSimpArgs false
namespace Mine

section
variable {prog : Program} {w : World} {A : Around} {hB : Heap} {os : OsState} {C : Addr} {ρ ρ' : Rho} {σ σ' : Sto} {s s' : Shared} {v : AV}

theorem RelVs.picked {n₀ : Heap} {h : Heap} {xs : List AV} {vs : List Value} (R : RelVs n₀ ρ h xs vs) : ∀ is : List Nat, RelVs n₀ ρ h (is.filterMap (xs[·]?)) (is.filterMap (vs[·]?))
  | [] => .nil
  | i :: is => by
    have ih := RelVs.picked R is
    simp only [List.filterMap_cons]
    cases e : xs[i]? with
    | none => rw [R.none e]; exact ih
    | some x =>
      obtain ⟨v, e', r⟩ := R.get e
      rw [e']
      exact .cons r ih
theorem bounds_same (lo hi st : Option Int) (n : Nat) : sliceRange (sliceBounds lo hi st n).1 (sliceBounds lo hi st n).2.1 (sliceBounds lo hi st n).2.2 = Builtin.Str.strSliceIndices lo hi (st.getD 1) n := by
  unfold sliceBounds Builtin.Str.strSliceIndices
  cases lo <;> cases hi <;> rfl
theorem slicePick_list (vs : List Value) (lo hi st : Option Int) : slicePick vs.toArray lo hi st = (pickL vs lo hi st).toArray := by
  unfold slicePick pickL
  rw [bounds_same]
  simp
theorem filterMap_range {α : Type} (l : List α) : (List.range l.length).filterMap (l[·]?) = l := by
  induction l with
  | nil => rfl
  | cons x xs ih =>
    rw [List.length_cons, List.range_succ_eq_map, List.filterMap_cons]
    simp only [List.getElem?_cons_zero, List.filterMap_map, Function.comp_def, List.getElem?_cons_succ]
    rw [ih]
noncomputable def clipN (v : Option Int) (d n : Int) : Int := match v with | none => d | some i => max 0 (min (if i < 0 then i + n else i) n)
theorem clip_bounds (v : Option Int) (d n : Int) (hn : 0 ≤ n) (hd : 0 ≤ d ∧ d ≤ n) : 0 ≤ clipN v d n ∧ clipN v d n ≤ n := by
  cases v with
  | none => exact hd
  | some i => unfold clipN; dsimp only; omega
theorem pick_whole {α : Type} (l : List α) (lo hi : Option Int) (h : (Builtin.Str.strSliceIndices lo hi 1 l.length).length = l.length) : pickL l lo hi none = l := by
  unfold pickL
  have e : Builtin.Str.strSliceIndices lo hi 1 l.length = sliceRange (clipN lo 0 l.length) (clipN hi l.length l.length) 1 := by
    cases lo <;> cases hi <;> rfl
  show (Builtin.Str.strSliceIndices lo hi 1 l.length).filterMap (l[·]?) = l
  rw [e] at h ⊢
  have b1 := clip_bounds lo 0 l.length (by omega) (by omega)
  have b2 := clip_bounds hi l.length l.length (by omega) (by omega)
  generalize clipN lo 0 l.length = a at *
  generalize clipN hi l.length l.length = b at *
  obtain ⟨a', rfl⟩ : ∃ a' : Nat, a = (a' : Int) := ⟨a.toNat, by omega⟩
  obtain ⟨b', rfl⟩ : ∃ b' : Nat, b = (b' : Int) := ⟨b.toNat, by omega⟩
  rw [sliceRange_one] at h ⊢
  simp only [List.length_map, List.length_range] at h
  by_cases h0 : l.length = 0
  · have : l = [] := List.eq_nil_of_length_eq_zero h0
    subst this
    simp
  · have ea : a' = 0 := by omega
    have eb : b' = l.length := by omega
    subst ea; subst eb
    rw [show (fun x => 0 + x) = (id : Nat → Nat) from funext fun x => Nat.zero_add x, List.map_id, Nat.sub_zero]
    exact filterMap_range l
theorem RelVs.pick {n₀ : Heap} {h : Heap} {xs : List AV} {vs : List Value} (R : RelVs n₀ ρ h xs vs) (lo hi st : Option Int) : RelVs n₀ ρ h (pickL xs lo hi st) (pickL vs lo hi st) := by
  unfold pickL
  rw [R.length]
  exact R.picked _

theorem PostV.laid {ρ₁ : Rho} {v : AV} {val : Value} {s₁ : Shared} (S1 : Step ρ s ρ₁ s₁) (P : PostV hB os C ρ₁ s₁ v σ' val s') : PostV hB os C ρ s v σ' val s' := by
  obtain ⟨ρ', S, G', r⟩ := P
  exact ⟨ρ', S1.trans S, G', r⟩

theorem subscripted_is (slice : PySem.Expr) (o i : Value) : ∃ ops, subscripted slice false o i = operate ops (getItem o i) := by
  cases slice with
  | Slice a b c p => cases c <;> exact ⟨_, rfl⟩
  | _ => exact ⟨_, rfl⟩

theorem tail_gen {value slice : PySem.Expr} {o i : Value} {T id : String} {Q : Value → Shared → Prop} {E : Value → Shared → Prop} (hT : s.TypeIs o T)
    (hl : typeLookup (.type T) "__getitem__" = pure (some (.builtin id))) (hg : wpAny (model prog w) A (getItem o i) Q E s) : wpAny (model prog w) A (subscriptTail value slice o i) Q E s := by
  obtain ⟨ops, e⟩ := subscripted_is slice o i
  exact tail_any hT hl hg e

theorem getIx_spec {i : Int} {n : Nat} (h : getIx i = some n) : 0 ≤ i ∧ i ≤ 1000000 ∧ n = i.toNat := by
  cases i with
  | ofNat k =>
    simp only [getIx] at h
    split at h
    · rename_i q
      cases h
      exact ⟨Int.natCast_nonneg _, Int.ofNat_le.mpr (Nat.le_of_ble_eq_true q), rfl⟩
    · cases h
  | negSucc k => cases h
theorem chrIx_spec {i : Int} {n : Nat} (h : chrIx i = some n) : 0 ≤ i ∧ i ≤ 1114111 ∧ n = i.toNat := by
  cases i with
  | ofNat k =>
    simp only [chrIx] at h
    split at h
    · rename_i q
      cases h
      exact ⟨Int.natCast_nonneg _, Int.ofNat_le.mpr (Nat.le_of_ble_eq_true q), rfl⟩
    · cases h
  | negSucc k => cases h

theorem subs_ok {value slice : PySem.Expr} {a i : AV} {x y : Value} {Q : Value → Shared → Prop} (e : subs a i σ = some v) (G : StG hB os C ρ σ s)
    (ra : RelV hB ρ s.heap a x) (rb : RelV hB ρ s.heap i y) (kk : KontG hB os C ρ s v σ Q) : wpAny (model prog w) A (subscriptTail value slice x y) Q Fls s := by
  obtain ⟨k, hi, f⟩ := bind1_inv e
  obtain ⟨n, hk, e⟩ := bind1_inv f
  rw [asInt_inv hi] at rb
  obtain ⟨h0, h1, rfl⟩ := getIx_spec hk
  obtain ⟨_, rfl⟩ := rb.intE
  cases a with
  | str l =>
    obtain ⟨c, hc, e⟩ := bind1_inv e
    obtain ⟨_, rfl⟩ := ra.strE
    refine tail_gen (typeIs_str s _ _) PySem.F.slot_str_getitem.lookup (getItem_str (c := c) ?_ ?_ ((kk.of1 e).post (.str (l := [c]) (x := ⟨#[c]⟩) G rfl _ _)))
    · rw [decide_eq_false (show ¬ k < -(2 ^ 63 : Int) by omega), decide_eq_false (show ¬ k ≥ (2 ^ 63 : Int) by omega)]; rfl
    · have hlt := (List.getElem?_eq_some_iff.mp hc).1
      have : seqIndex? k (⟨l.toArray⟩ : Str).length = some k.toNat := by
        have h2 : k < l.length := by omega
        have hn : ¬ k < 0 := by omega
        simp [seqIndex?, Str.length, hn]
        exact ⟨h0, h2⟩
      rw [this]
      simpa using hc
  | tup xs =>
    obtain ⟨a, vs, t, rs, rfl⟩ := ra.tupE
    obtain ⟨val, e1, r⟩ := rs.get e
    have hlt := (List.getElem?_eq_some_iff.mp e1).1
    refine tail_gen t.typeIs PySem.F.slot_tuple_getitem.lookup (getItem_tuple t (j := k.toNat) (by omega) (by omega) ?_ (by simpa using e1) (kk.now G r s.toks))
    simp [seqIndex?]
    omega
  | ref r =>
    obtain ⟨xs, h1', e⟩ := bind1_inv e
    obtain ⟨p, hp, rfl⟩ := ra.refE
    obtain ⟨vs, hl, rs⟩ := G.listE h1' hp
    obtain ⟨val, e1, r⟩ := rs.get e
    exact tail_gen hl.isList.typeIs slot_list_getitem.lookup (wpAny_getItem_list hl.isList h0 (by omega) (by simpa using e1) (kk.now G r s.toks))
  | _ => cases e

theorem isPart_of {b' : Option Int} {t : Tok} : IsPart (partValue (b'.map fun i => (i, t))) b' := by
  cases b' with
  | none => exact .none
  | some i => exact .int i t

theorem fst_map (o : Option Int) (t : Tok) : (o.map fun i => (i, t)).map (·.1) = o := by cases o <;> rfl
theorem step_ne {st : Option Int} (h : ¬ st = some 0) : st.getD 1 ≠ 0 := by
  cases st with
  | none => decide
  | some c => exact fun q => h (by rw [show c = 0 from q])
/-- a cut of a text -/
theorem slc_str {value slice : PySem.Expr} {l : List Nat} {t : Tok} {lo hi st : Option Int} {t1 t2 t3 : Tok} {sl : Addr} {Q : Value → Shared → Prop} (hst : ¬ st = some 0) (hk : l.length ≤ 1000000) (G : StG hB os C ρ σ s)
    (hs : s.heap.IsSlice sl (lo.map fun i => (i, t1)) (hi.map fun i => (i, t2)) (st.map fun i => (i, t3))) (kk : KontG hB os C ρ s (.str (pickL l lo hi st)) σ Q) :
    wpAny (model prog w) A (subscriptTail value slice (.str ⟨l.toArray⟩ t) (.ref sl)) Q Fls s := by
  refine tail_gen (typeIs_str s _ _) PySem.F.slot_str_getitem.lookup (wpAny_getItem_str_slice hs ?_ ?_)
  · rw [fst_map]; exact beq_eq_false_iff_ne.mpr (step_ne hst)
  · have hlen : (⟨l.toArray⟩ : Str).length = l.length := by simp [Str.length]
    have hpk : (Builtin.Str.strSliceIndices lo hi (st.getD 1) l.length).filterMap (fun i => (⟨l.toArray⟩ : Str).cps[i]?) = pickL l lo hi st := by
      unfold pickL
      congr 1
      funext i
      simp
    have hle := sliceIndicesBy_le lo hi (st.getD 1) (step_ne hst) l.length
    unfold sliceMade slicePicked
    rw [fst_map, fst_map, fst_map, hlen]
    split
    · rename_i hc
      refine kk.post (.str G ?_ _ s.toks)
      simp only [Bool.and_eq_true, beq_iff_eq] at hc
      have h1 : pickL l lo hi st = pickL l lo hi none := by unfold pickL; rw [hc.1]; rfl
      rw [h1, pick_whole l lo hi (by rw [← hc.1]; exact hc.2)]
    · refine ⟨?_, kk.post (.str G (by simpa using hpk) _ _)⟩
      show Array.size _ ≤ sizeLine
      rw [hpk, sizeLine_eq']
      have : (pickL l lo hi st).length ≤ l.length := Nat.le_trans (List.length_filterMap_le _ _) hle
      simp
      omega
/-- a cut of a list -/
theorem slc_list {value slice : PySem.Expr} {xs : List AV} {vs : List Value} {a : Addr} {lo hi st : Option Int} {t1 t2 t3 : Tok} {sl : Addr} {Q : Value → Shared → Prop} (hst : ¬ st = some 0) (hk : xs.length ≤ 1000000) (G : StG hB os C ρ σ s)
    (hl : s.heap.IsList a vs.toArray) (rs : RelVs hB ρ s.heap xs vs)
    (hs : s.heap.IsSlice sl (lo.map fun i => (i, t1)) (hi.map fun i => (i, t2)) (st.map fun i => (i, t3))) (kk : KontG hB os C ρ s (.ref σ.length) (σ ++ [.list (pickL xs lo hi st)]) Q) :
    wpAny (model prog w) A (subscriptTail value slice (.ref a) (.ref sl)) Q Fls s := by
  have hs' : s.heap.IsSliceOf sl (partValue (lo.map fun i => (i, t1))) (partValue (hi.map fun i => (i, t2))) (partValue (st.map fun i => (i, t3))) := hs
  refine tail_gen hl.typeIs slot_list_getitem.lookup (wpAny_getItem_list_slice hl hs' isPart_of isPart_of isPart_of hst ?_ ?_)
  · rw [slicePick_list]
    exact kk.newList G (rs.pick lo hi st) _
  · have := rs.length
    simp [sizeLine_eq']; omega

theorem guard_not {α : Type} {c : Prop} [Decidable c] {x : Option α} {r : α} (h : (if c then none else x) = some r) : ¬ c ∧ x = some r := by
  by_cases q : c
  · rw [if_pos q] at h; cases h
  · rw [if_neg q] at h; exact ⟨q, h⟩
theorem slc_ok {value slice : PySem.Expr} {a : AV} {x : Value} {lo hi st : Option Int} {t1 t2 t3 : Tok} {sl : Addr} {Q : Value → Shared → Prop} (e : slc a lo hi st σ = some (v, σ')) (G : StG hB os C ρ σ s)
    (ra : RelV hB ρ s.heap a x) (hs : s.heap.IsSlice sl (lo.map fun i => (i, t1)) (hi.map fun i => (i, t2)) (st.map fun i => (i, t3))) (kk : KontG hB os C ρ s v σ' Q) :
    wpAny (model prog w) A (subscriptTail value slice x (.ref sl)) Q Fls s := by
  obtain ⟨hst, e⟩ := guard_not e
  cases a with
  | str l =>
    obtain ⟨hk, e⟩ := guard_inv e
    obtain ⟨_, rfl⟩ := ra.strE
    exact slc_str hst (sizeOk_le hk) G hs (kk.of e)
  | ref r =>
    obtain ⟨xs, h1, e⟩ := bind1_inv e
    obtain ⟨hk, e⟩ := guard_inv e
    obtain ⟨p, hp, rfl⟩ := ra.refE
    obtain ⟨vs, hl, rs⟩ := G.listE h1 hp
    exact slc_list hst (sizeOk_le hk) G hl.isList rs hs (kk.of e)
  | frz xs =>
    obtain ⟨hk, e⟩ := guard_inv e
    obtain ⟨a, vs, _, hl, rs, rfl⟩ := ra.frzE
    exact slc_list hst (sizeOk_le hk) G hl rs hs (kk.of e)
  | _ => cases e
end
end Mine
end

section
open PySem PySem.W PyProof.Rows PySem.Calls PySem.SeqAt
set_option maxRecDepth 100000
set_option linter.unusedSimpArgs false
namespace Mine

/-- room: for d calls one in the other -/
structure AOk (d : Nat) (A : Around) : Prop where
  handled : A.handled = none
  depth : A.depth + d ≤ 900
  units : A.units + 40 * d + 40 ≤ 9000
theorem AOk.mono {d d' : Nat} {A : Around} (h : AOk d A) (l : d' ≤ d) : AOk d' A := ⟨h.handled, by have := h.depth; omega, by have := h.units; omega⟩
theorem AOk.line {d : Nat} {A : Around} (h : AOk d A) : A.units + 30 < cLine := by
  have := h.units
  have e : cLine = 9900 := rfl
  omega
theorem AOk.room {d : Nat} {A : Around} (h : AOk d A) : A.depth < recursionLimit := by
  have := h.depth
  have e : recursionLimit = 1000 := rfl
  omega

/-- what the text's names mean -/
structure Nm where
  acc : Addr
  push : Addr
  pop : Addr
  pc : Addr
  fn : Str → Addr

noncomputable def Nm.val (N : Nm) (f : Str) : Value :=
  if f = "#new" then .ref N.acc else if f = "#push" then .ref N.push else if f = "#pop" then .ref N.pop else if f = "#part_count" then .ref N.pc
  else if f = "#sorted" then .builtin "sorted"
  else .ref (N.fn f)

noncomputable def bifVal (N : Nm) : Bif → Value
  | .len => .builtin "len"
  | .chr => .builtin "chr"
  | .sum => .builtin "sum"
  | .range => .type "range"
  | .sorted => .builtin "sorted"
  | .accum => .ref N.acc

/-- the oracle's answers are the machine's -/
noncomputable def OCall (prog : Program) (w : World) (hB : Heap) (os : OsState) (N : Nm) (d : Nat) (O : Oracle) : Prop :=
  ∀ f vs σ v σ', O f vs σ = some (v, σ') → ∀ (A : Around) (ρ : Rho) (s : Shared) (vals : List Value), AOk d A → StG hB os N.acc ρ σ s → RelVs hB ρ s.heap vs vals →
    wpAny (model prog w) A (call (N.val f) vals) (PostV hB os N.acc ρ s v σ') Fls s

section
variable {prog : Program} {w : World} {A : Around} {hB : Heap} {os : OsState} {C : Addr} {ρ ρ' : Rho} {σ σ' : Sto} {s s' : Shared} {v : AV} {N : Nm} {d : Nat} {O : Oracle}

theorem OCall.kont {f : Str} {vs : List AV} {vals : List Value} {Q : Value → Shared → Prop} (hO : OCall prog w hB os N d O) (hA : AOk d A) (e : O f vs σ = some (v, σ')) (G : StG hB os N.acc ρ σ s) (R : RelVs hB ρ s.heap vs vals)
    (k : KontG hB os N.acc ρ s v σ' Q) : wpAny (model prog w) A (call (N.val f) vals) Q Fls s :=
  wpAny_mono (hO f vs σ v σ' e A ρ s vals hA G R) (fun _ _ h => k.post h) fun _ _ x => x

theorem ints_are : ∀ {xs : List AV} {vs : List Value} {is : List Int}, intsOf xs = some is → RelVs hB ρ s.heap xs vs → IntsAre vs is
  | [], _, is, e, R => by rw [R.nilE]; cases e; exact .nil
  | x :: xs, _, is, e, R => by
    obtain ⟨v, vs, r, rs, rfl⟩ := R.consE
    obtain ⟨i, h, e1⟩ := bind1_inv e
    obtain ⟨js, h2, e2⟩ := bind1_inv e1
    cases e2
    rw [asInt_inv h] at r
    obtain ⟨_, rfl⟩ := r.intE
    exact .cons _ _ (ints_are h2 rs)
theorem txts_are : ∀ {xs : List AV} {vs : List Value} {is : List (List Nat)}, txts xs = some is → RelVs hB ρ s.heap xs vs → StrsAre vs (is.map fun l => ⟨l.toArray⟩)
  | [], _, is, e, R => by rw [R.nilE]; cases e; exact .nil
  | x :: xs, _, is, e, R => by
    obtain ⟨v, vs, r, rs, rfl⟩ := R.consE
    obtain ⟨i, h, e1⟩ := bind1_inv e
    obtain ⟨js, h2, e2⟩ := bind1_inv e1
    cases e2
    rw [asStr_inv h] at r
    obtain ⟨_, rfl⟩ := r.strE
    exact .cons _ _ (txts_are h2 rs)

theorem join_list' (sep : List Nat) : ∀ ss : List (List Nat), (Str.join ⟨sep.toArray⟩ (ss.map fun l => ⟨l.toArray⟩)).cps.toList = joinL sep ss
  | [] => rfl
  | [x] => by simp [Str.join, joinL_1]
  | x :: y :: r => by
    have ih := join_list' sep (y :: r)
    show ((⟨x.toArray⟩ ++ ⟨sep.toArray⟩ ++ Str.join ⟨sep.toArray⟩ ((y :: r).map fun l => ⟨l.toArray⟩) : Str)).cps.toList = _
    rw [PySem.Str.cps_append, PySem.Str.cps_append, Array.toList_append, Array.toList_append, ih]
    rfl

theorem total_map (ss : List (List Nat)) : ((ss.map fun l => (⟨l.toArray⟩ : Str)).map (·.length)).sum = total ss := by
  simp [total, Function.comp_def, Str.length]

section
variable {Q : Value → Shared → Prop} {vs : List AV} {vals : List Value}
theorem len_ok (hO : OCall prog w hB os N d O) (hA : AOk d A) (e : builtin O .len vs σ = some (v, σ')) (G : StG hB os N.acc ρ σ s)
    (R : RelVs hB ρ s.heap vs vals) (k : KontG hB os N.acc ρ s v σ' Q) : wpAny (model prog w) A (call (.builtin "len") vals) Q Fls s := by
  obtain ⟨a, h, e1⟩ := bind1_inv e
  rw [one_inv h] at R
  obtain ⟨x, r, rfl⟩ := R.oneE
  cases a with
  | str l =>
    obtain ⟨hk, e⟩ := guard_inv e1
    have k := k.of e
    have := sizeOk_le hk
    obtain ⟨_, rfl⟩ := r.strE
    have hl : (⟨l.toArray⟩ : Str).length = l.length := by simp [Str.length]
    refine len_str (by rw [hl]; omega) ?_
    rw [hl]
    exact k.now G (.int _ _) _
  | _ => cases e1
theorem chr_ok (e : builtin O .chr vs σ = some (v, σ')) (G : StG hB os N.acc ρ σ s) (R : RelVs hB ρ s.heap vs vals) (k : KontG hB os N.acc ρ s v σ' Q) : wpAny (model prog w) A (call (.builtin "chr") vals) Q Fls s := by
  obtain ⟨a, h, e1⟩ := bind1_inv e
  obtain ⟨i, h2, e2⟩ := bind1_inv e1
  obtain ⟨n, hx, e3⟩ := bind1_inv e2
  rw [one_inv h, asInt_inv h2] at R
  have k := k.of e3
  obtain ⟨b1, b2, rfl⟩ := chrIx_spec hx
  obtain ⟨x, r, rfl⟩ := R.oneE
  obtain ⟨_, rfl⟩ := r.intE
  exact P.chr_of_int (by rw [decide_eq_false (show ¬ i < 0 by omega), decide_eq_false (show ¬ i > 0x10FFFF by omega)]; rfl) (k.post (.str (l := [i.toNat]) (x := ⟨#[i.toNat]⟩) G rfl _ _))
theorem sum_ok (hA : AOk d A) (e : builtin O .sum vs σ = some (v, σ')) (G : StG hB os N.acc ρ σ s) (R : RelVs hB ρ s.heap vs vals) (k : KontG hB os N.acc ρ s v σ' Q) : wpAny (model prog w) A (call (.builtin "sum") vals) Q Fls s := by
  obtain ⟨a, h, e1⟩ := bind1_inv e
  obtain ⟨i, h2, e2⟩ := bind1_inv e1
  obtain ⟨xs, h1, e3⟩ := bind1_inv e2
  obtain ⟨is, hi, e4⟩ := bind1_inv e3
  rw [one_inv h, asRef_inv h2] at R
  have k := k.of e4
  obtain ⟨x, r, rfl⟩ := R.oneE
  obtain ⟨p, hp, rfl⟩ := r.refE
  obtain ⟨us, hl, rs⟩ := G.listE h1 hp
  have hi := ints_are hi rs
  obtain ⟨xs', e'⟩ := hi.allInts.items
  have hl' := hl.isList
  rw [e'] at hl'
  refine sum_intListG hA.handled hl' fun h' tk t' hk => ?_
  have es : preSum (numAt xs') xs'.size = is.sum := by
    rw [preSum_eq, List.take_of_length_le (by simp), ← nums_intItems, ← e']
    exact congrArg List.sum hi.numsOf
  rw [es]
  exact k _ _ ρ (Step.keeps G hk tk) (G.keeps hk tk) (.int _ _)
theorem range_ok (e : builtin O .range vs σ = some (v, σ')) (G : StG hB os N.acc ρ σ s) (R : RelVs hB ρ s.heap vs vals) (k : KontG hB os N.acc ρ s v σ' Q) : wpAny (model prog w) A (call (.type "range") vals) Q Fls s := by
  have fin : ∀ {a b c : Int} {t u x : Tok}, some (AV.rng a b c, σ) = some (v, σ') → ∀ tk, Q (.ref s.heap.objs.size) { s with heap := s.heap.push { cls := .type "range", data := .fields #[.int a t, .int b u, .int c x] }, toks := tk } := fun {a b c t u x} e tk => (k.of e) _ _ ρ (Step.push G _ _) (G.push _ _) (.rng (IsRange.new ..))
  rcases vs with _ | ⟨a, _ | ⟨b, _ | ⟨_, _⟩⟩⟩
  · cases e
  · obtain ⟨x, r, rfl⟩ := R.oneE
    obtain ⟨i, h, e1⟩ := bind1_inv e
    obtain ⟨_, e2⟩ := guard_inv e1
    rw [asInt_inv h] at r
    obtain ⟨_, rfl⟩ := r.intE
    exact call_range_1 (fin e2 _)
  · obtain ⟨x, y, r, r2, rfl⟩ := R.twoE
    obtain ⟨i, h, e1⟩ := bind1_inv e
    obtain ⟨j, h2, e2⟩ := bind1_inv e1
    obtain ⟨_, e3⟩ := guard_inv e2
    rw [asInt_inv h] at r
    rw [asInt_inv h2] at r2
    obtain ⟨_, rfl⟩ := r.intE
    obtain ⟨_, rfl⟩ := r2.intE
    exact call_range_2 (fin e3 _)
  · cases e

theorem builtin_ok {f : Bif} (hO : OCall prog w hB os N d O) (hA : AOk d A) (e : builtin O f vs σ = some (v, σ')) (G : StG hB os N.acc ρ σ s)
    (R : RelVs hB ρ s.heap vs vals) (k : KontG hB os N.acc ρ s v σ' Q) : wpAny (model prog w) A (call (bifVal N f) vals) Q Fls s := by
  cases f with
  | len => exact len_ok hO hA e G R k
  | sorted => exact hO.kont (f := "#sorted") hA e G R k
  | accum => exact hO.kont (f := "#new") hA e G R k
  | chr => exact chr_ok e G R k
  | sum => exact sum_ok hA e G R k
  | range => exact range_ok e G R k
end

noncomputable def mthVal (N : Nm) : Mth → Value
  | .join => .builtin "str.join"
  | .append => .builtin "list.append"
  | .push => .ref N.push
  | .pop => .ref N.pop
  | .partCount => .ref N.pc

section
variable {Q : Value → Shared → Prop} {o : AV} {vs : List AV} {ov : Value} {vals : List Value}
theorem join_ok (e : methCall O .join o vs σ = some (v, σ')) (G : StG hB os N.acc ρ σ s)
    (r : RelV hB ρ s.heap o ov) (R : RelVs hB ρ s.heap vs vals) (k : KontG hB os N.acc ρ s v σ' Q) : wpAny (model prog w) A (call (.builtin "str.join") (ov :: vals)) Q Fls s := by
  obtain ⟨sep, h, e1⟩ := bind1_inv e
  obtain ⟨a, h2, e2⟩ := bind1_inv e1
  obtain ⟨xs, h3, e3⟩ := bind1_inv e2
  obtain ⟨ss, h4, e4⟩ := bind1_inv e3
  obtain ⟨hk, e5⟩ := guard_inv e4
  rw [one_inv h2] at R
  rw [asStr_inv h] at r
  have k := k.of e5
  have hk' := sizeOk_le hk
  obtain ⟨_, rfl⟩ := r.strE
  obtain ⟨y, r1, rfl⟩ := R.oneE
  have fin : ∀ t' tk, Q (.str (Txt.join ⟨sep.toArray⟩ (ss.map fun l => ⟨l.toArray⟩)) t') { s with toks := tk } := fun t' tk =>
    k.post (.str G (by show (Builtin.Str.glued _ _).cps.toList = _; rw [StrLaws.glued_eq_join, join_list']) _ _)
  have hsz : ((ss.map fun l => (⟨l.toArray⟩ : Str)).map (·.length)).sum + (ss.map fun l => (⟨l.toArray⟩ : Str)).length * (⟨sep.toArray⟩ : Str).length ≤ 16777216 := by
    rw [total_map, List.length_map, show (⟨sep.toArray⟩ : Str).length = sep.length by simp [Str.length], Nat.mul_comm]
    omega
  cases a with
  | ref i =>
    obtain ⟨p, hp, rfl⟩ := r1.refE
    obtain ⟨us, hl, rs⟩ := G.listE h3 hp
    exact join_list hl.isList (txts_are h4 rs) hsz fin
  | tup ys =>
    cases h3
    obtain ⟨_, _, t, rs, rfl⟩ := r1.tupE
    exact join_tuple t (txts_are h4 rs) hsz fin
  | frz ys =>
    cases h3
    obtain ⟨_, _, _, hl, rs, rfl⟩ := r1.frzE
    exact join_list hl (txts_are h4 rs) hsz fin
  | _ => cases h3
theorem append_ok (hA : AOk d A) (e : methCall O .append o vs σ = some (v, σ')) (G : StG hB os N.acc ρ σ s)
    (r : RelV hB ρ s.heap o ov) (R : RelVs hB ρ s.heap vs vals) (k : KontG hB os N.acc ρ s v σ' Q) : wpAny (model prog w) A (call (.builtin "list.append") (ov :: vals)) Q Fls s := by
  obtain ⟨i, h, e1⟩ := bind1_inv e
  obtain ⟨a, h2, e2⟩ := bind1_inv e1
  obtain ⟨xs, h1, e3⟩ := bind1_inv e2
  obtain ⟨hk, e4⟩ := guard_inv e3
  rw [one_inv h2] at R
  rw [asRef_inv h] at r
  have k := k.of e4
  have hk' := sizeOk_le hk
  obtain ⟨p, hp, rfl⟩ := r.refE
  obtain ⟨y, r1, rfl⟩ := R.oneE
  obtain ⟨us, hl, rs⟩ := G.listE h1 hp
  have hn := rs.length
  refine wpAny_list_append_plain hl (fun h' hl' hs => ?_) (by simp [sizeLine_eq']; omega)
  have kp : KeepH (· = p.1) s.heap h' := fun b o e n => (hs.2 b n).trans e
  have hm : ∀ b, b = p.1 → Mut s.heap b ∧ hB.get? b = none := fun b e => by subst e; exact G.mut ⟨p, List.mem_of_getElem? hp, rfl⟩
  obtain ⟨G', S'⟩ := G.turn hp (listAt_inv h1) (c' := .list (xs ++ [a])) hs ⟨us ++ [_], by simpa using hl', ((rs.mono kp hm (n := s.heap) .refl).append (.cons (r1.mono kp hm (n := s.heap) .refl) .nil))⟩ s.toks
  exact k _ _ ρ S' G' .none
theorem acc_ok {f : Str} (hO : OCall prog w hB os N d O) (hA : AOk d A) (e : accCall O f o vs σ = some (v, σ')) (G : StG hB os N.acc ρ σ s)
    (r : RelV hB ρ s.heap o ov) (R : RelVs hB ρ s.heap vs vals) (k : KontG hB os N.acc ρ s v σ' Q) : wpAny (model prog w) A (call (N.val f) (ov :: vals)) Q Fls s := by
  obtain ⟨i, h, e1⟩ := bind1_inv e
  exact hO.kont hA (guard_inv e1).2 G (.cons r R) k

theorem methCall_ok {mt : Mth} (hO : OCall prog w hB os N d O) (hA : AOk d A) (e : methCall O mt o vs σ = some (v, σ')) (G : StG hB os N.acc ρ σ s)
    (r : RelV hB ρ s.heap o ov) (R : RelVs hB ρ s.heap vs vals) (k : KontG hB os N.acc ρ s v σ' Q) : wpAny (model prog w) A (call (mthVal N mt) (ov :: vals)) Q Fls s := by
  cases mt with
  | join => exact join_ok e G r R k
  | append => exact append_ok hA e G r R k
  | push => exact acc_ok (f := "#push") hO hA e G r R k
  | pop => exact acc_ok (f := "#pop") hO hA e G r R k
  | partCount => exact acc_ok (f := "#part_count") hO hA e G r R k
end
end
end Mine
end

section
open PySem PySem.W PyProof.Rows PySem.Calls PySem.SeqAt
set_option maxRecDepth 100000
set_option linter.unusedSimpArgs false
namespace Mine

theorem Ns.uniq {h : Heap} {a : Addr} {m m' : Str → Option Value} (x : h.Ns a m) (y : h.Ns a m') : m = m' := by
  obtain ⟨o, es, ep, ho, hd, _, hm⟩ := x
  obtain ⟨o', es', ep', ho', hd', _, hm'⟩ := y
  rw [ho] at ho'; cases ho'
  rw [hd] at hd'; cases hd'
  funext z
  rw [← hm, ← hm']
theorem Ns.mut {h : Heap} {a : Addr} {m : Str → Option Value} (x : h.Ns a m) : Mut h a := by
  obtain ⟨o, es, ep, ho, hd, _, hm⟩ := x
  intro o' ho'
  rw [ho] at ho'; cases ho'
  exact .inr (.inl ⟨_, _, hd⟩)
theorem IsCell.mut {h : Heap} {a : Addr} {v : Option Value} (x : h.IsCell a v) : Mut h a := by
  obtain ⟨o, ho, hd⟩ := x
  intro o' ho'
  rw [ho] at ho'; cases ho'
  exact .inr (.inr ⟨_, hd⟩)

theorem lookup_setL (x : Str) (v : AV) (y : Str) : ∀ m : Loc, (setL m x v).lookup y = if y = x then some v else m.lookup y
  | [] => by
    simp only [setL_nil, List.lookup]
    by_cases h : y = x
    · subst h; simp
    · have : (y == x) = false := by simpa using h
      simp [this, h]
  | p :: r => by
    have ih := lookup_setL x v y r
    simp only [setL_cons]
    by_cases hp : p.1 = x
    · rw [if_pos hp]
      by_cases h : y = x
      · subst h; simp [List.lookup]
      · have : (y == x) = false := by simpa using h
        have h2 : (y == p.1) = false := by rw [hp]; exact this
        obtain ⟨p1, p2⟩ := p
        simp only at h2
        simp [List.lookup, this, h, h2]
    · rw [if_neg hp]
      obtain ⟨p1, p2⟩ := p
      simp only at hp
      by_cases h : y = x
      · subst h
        have : (y == p1) = false := by simpa using (fun e => hp e.symm)
        simp [List.lookup, this, ih]
      · simp only [List.lookup]
        cases hq : y == p1 with
        | true => simp [h]
        | false => simp [ih, h]

section
variable {prog : Program} {w : World} {A : Around} {hB : Heap} {os : OsState} {C : Addr} {ρ ρ' : Rho} {σ σ' : Sto} {s s' : Shared} {v : AV} {N : Nm} {d : Nat} {O : Oracle} {env : Env} {m m' : Loc}

/-- the heap turns at places that are no cells -/
theorem StG.side {M : Addr → Prop} (G : StG hB os C ρ σ s) {h' : Heap} (k : KeepH M s.heap h') (hm : ∀ b, M b → Mut s.heap b ∧ hB.get? b = none) (h1 : ∀ p ∈ ρ, ¬ M p.1 ∧ ¬ M p.2) (t : Nat) :
    StG hB os C ρ σ { s with heap := h', toks := t } := by
  refine ⟨fun b o e => k b o (G.base b o e) fun q => ?_, G.len, fun r c p e1 e2 => ?_, G.lo, G.apart, G.gens, G.os, fun p hp => isSome_keep (fun o e => k _ o e (h1 p hp).2) (G.two p hp)⟩
  · rw [(hm b q).2] at e; cases e
  · have := h1 p (List.mem_of_getElem? e2)
    exact (G.cell r c p e1 e2).mono k hm (n := s.heap) .refl this.1 fun _ _ _ => this.2

/-- the places of a frame that its own statements turn -/
noncomputable def tgtM (env : Env) (P : Str → Prop) (b : Addr) : Prop := b = env.locals ∨ ∃ x, P x ∧ env.kindOf x = some .cell ∧ env.cells.lookup x = some b
noncomputable abbrev frM (env : Env) : Addr → Prop := tgtM env fun _ => True
theorem tgtM.fr {P : Str → Prop} {b : Addr} (h : tgtM env P b) : frM env b := h.imp id fun ⟨x, _, a⟩ => ⟨x, trivial, a⟩

theorem FmOk.frMut {n₀ : Heap} {h : Heap} (F : FmOk n₀ env ρ h) {b : Addr} (q : frM env b) : Mut h b ∧ n₀.get? b = none := by
  rcases q with rfl | ⟨x, _, _, hx⟩
  · exact ⟨(let ⟨_, h⟩ := F.ns; Ns.mut h), F.loL⟩
  · obtain ⟨a, v, hc⟩ := F.cellAt x b hx
    exact ⟨IsCell.mut hc, a⟩
theorem FmOk.frLies {n₀ : Heap} {h : Heap} (F : FmOk n₀ env ρ h) {b : Addr} (q : frM env b) : (h.get? b).isSome = true := by
  rcases q with rfl | ⟨x, _, _, hx⟩
  · obtain ⟨_, o, _, _, ho, _⟩ := F.ns; rw [ho]; rfl
  · obtain ⟨_, v, o, ho, _⟩ := F.cellAt x b hx; rw [ho]; rfl

/-- a statement's step: the places of M turn too -/
structure StepS (M : Addr → Prop) (ρ : Rho) (s : Shared) (ρ' : Rho) (s' : Shared) : Prop where
  grow : Grow s.heap ρ ρ'
  keep : KeepH (fun b => inρ ρ b ∨ M b) s.heap s'.heap
  lies : ∀ b, inρ ρ b ∨ M b → (s'.heap.get? b).isSome = true
theorem StepS.none {M : Addr → Prop} (x : StepS M ρ s ρ' s') : ∀ b, s'.heap.get? b = none → s.heap.get? b = none := fun b h => by
  cases e : s.heap.get? b with
  | none => rfl
  | some o =>
    by_cases q : inρ ρ b ∨ M b
    · have := x.lies b q; rw [h] at this; cases this
    · rw [x.keep b o e q] at h; cases h
theorem StepS.weak {M M' : Addr → Prop} (x : StepS M ρ s ρ' s') (sub : ∀ b, M b → M' b) (l : ∀ b, M' b → (s'.heap.get? b).isSome = true) : StepS M' ρ s ρ' s' :=
  ⟨x.grow, x.keep.weak fun b _ _ h => h.imp id (sub b), fun b h => h.elim (fun h => x.lies b (.inl h)) (l b)⟩
theorem Step.toS {P : Str → Prop} (x : Step ρ s ρ' s') (F : FmOk hB env ρ s.heap) : StepS (tgtM env P) ρ s ρ' s' := by
  refine ⟨x.grow, x.keep.weak fun _ _ _ h => .inl h, fun b h => ?_⟩
  rcases h with h | h
  · exact x.lies b h
  · exact (F.step x).frLies h.fr
theorem StepS.trans {M : Addr → Prop} {ρ'' : Rho} {s'' : Shared} (x : StepS M ρ s ρ' s') (y : StepS M ρ' s' ρ'' s'') : StepS M ρ s ρ'' s'' := by
  refine ⟨x.grow.trans y.grow x.none, x.keep.trans y.keep fun b o e => ?_, fun b h => ?_⟩
  · rintro (⟨p, hp, rfl⟩ | h)
    · rcases x.grow.mem hp with q | q
      · exact .inl ⟨p, q, rfl⟩
      · rw [q.1] at e; cases e
    · exact .inr h
  · rcases h with ⟨p, hp, rfl⟩ | h
    · obtain ⟨t, rfl, _⟩ := x.grow
      exact y.lies p.1 (.inl ⟨p, List.mem_append_left _ hp, rfl⟩)
    · exact y.lies b (.inr h)

theorem store_ok {x : Str} {val : Value} {Q : Unit → Shared → Prop} (S : St hB os C env m ρ σ s) (r : RelV hB ρ s.heap v val) (hk : env.kindOf x = some .local ∨ env.kindOf x = some .cell)
    (K : ∀ u s', StepS (tgtM env (· = x)) ρ s ρ s' → St hB os C env (setL m x v) ρ σ s' → Q u s') : wpAny (model prog w) A (storeName env x val) Q Fls s := by
  have F := S.f
  rcases hk with hk | hk
  · obtain ⟨mm, hn⟩ := F.ns
    refine wpAny_storeName_local hk hn (fun h' hn' hs => ?_) (by rw [F.kind]; rfl)
    have kp : KeepH (· = env.locals) s.heap h' := fun b o e n => (hs.2 b n).trans e
    have hm : ∀ b, b = env.locals → Mut s.heap b ∧ hB.get? b = none := fun b e => by subst e; exact F.frMut (.inl rfl)
    have fr : ∀ {y z}, RelV hB ρ s.heap y z → RelV hB ρ h' y z := fun r => r.mono kp hm (n := s.heap) .refl
    have cellk : ∀ y c, env.cells.lookup y = some c → c ≠ env.locals := fun y c hy e => by
      obtain ⟨_, v, o, ho, hd⟩ := F.cellAt y c hy
      obtain ⟨o', es, ep, ho', hd', _⟩ := hn
      rw [e, ho'] at ho; cases ho
      rw [hd'] at hd; cases hd
    refine K _ _ ⟨.refl, kp.weak fun b _ _ e => .inr (.inl e), fun b h => ?_⟩ ⟨S.g.side kp hm (fun p hp => F.sepL p hp) _, ?_, fun y u e => ?_⟩
    · by_cases q : b = env.locals
      · subst q; obtain ⟨o, _, _, ho, _⟩ := hn'; show (h'.get? _).isSome = true; rw [ho]; rfl
      · have : (s.heap.get? b).isSome = true := by
          rcases h with h | h
          · exact S.g.lies h
          · exact F.frLies h.fr
        obtain ⟨o, ho⟩ := Option.isSome_iff_exists.mp this
        show (h'.get? b).isSome = true
        rw [kp b o ho q]; rfl
    · exact ⟨F.kind, F.glob, F.bui, ⟨_, hn'⟩, F.loL, F.cells, fun y c hy => let ⟨a, v, hv⟩ := F.cellAt y c hy; ⟨a, v, IsCell.keepAt hv fun o e => kp c o e (cellk y c hy)⟩, F.cinj, F.sepL, F.sepC⟩
    · rw [lookup_setL] at e
      by_cases h : y = x
      · subst h
        rw [if_pos rfl] at e; cases e
        exact ⟨val, .inl ⟨hk, _, hn', by simp⟩, fr r⟩
      · rw [if_neg h] at e
        obtain ⟨u', n, ru⟩ := S.v y u e
        refine ⟨u', ?_, fr ru⟩
        rcases n with ⟨k1, mm', hn2, e2⟩ | ⟨k1, c, hc, hv⟩
        · rw [Ns.uniq hn2 hn] at e2
          exact .inl ⟨k1, _, hn', by simp [h, e2]⟩
        · exact .inr ⟨k1, c, hc, IsCell.keepAt hv fun o e => kp c o e (cellk y c hc)⟩
  · obtain ⟨c, hc⟩ := F.cells x (.inl hk)
    obtain ⟨hc0, v₀, hcell⟩ := F.cellAt x c hc
    refine wpAny_storeName_cell F.kind hk hc hcell (fun h' hn' hs => ?_)
    have kp : KeepH (· = c) s.heap h' := fun b o e n => (hs.2 b n).trans e
    have hm : ∀ b, b = c → Mut s.heap b ∧ hB.get? b = none := fun b e => by subst e; exact F.frMut (.inr ⟨x, trivial, hk, hc⟩)
    have fr : ∀ {y z}, RelV hB ρ s.heap y z → RelV hB ρ h' y z := fun r => r.mono kp hm (n := s.heap) .refl
    have hL : env.locals ≠ c := fun e => by
      obtain ⟨_, o', es, ep, ho', hd', _⟩ := F.ns
      obtain ⟨o, ho, hd⟩ := hcell
      rw [← e, ho'] at ho; cases ho
      rw [hd'] at hd; cases hd
    refine K _ _ ⟨.refl, kp.weak fun b _ _ e => .inr (.inr ⟨x, rfl, hk, e ▸ hc⟩), fun b h => ?_⟩ ⟨S.g.side kp hm (fun p hp => F.sepC p hp x c hc) _, ?_, fun y u e => ?_⟩
    · by_cases q : b = c
      · subst q; obtain ⟨o, ho, _⟩ := hn'; show (h'.get? _).isSome = true; rw [ho]; rfl
      · have : (s.heap.get? b).isSome = true := by
          rcases h with h | h
          · exact S.g.lies h
          · exact F.frLies h.fr
        obtain ⟨o, ho⟩ := Option.isSome_iff_exists.mp this
        show (h'.get? b).isSome = true
        rw [kp b o ho q]; rfl
    · refine ⟨F.kind, F.glob, F.bui, (let ⟨mm, h⟩ := F.ns; ⟨mm, Ns.keepAt h fun o e => kp _ o e hL⟩), F.loL, F.cells, fun y c' hy => ?_, F.cinj, F.sepL, F.sepC⟩
      obtain ⟨a, v, hv⟩ := F.cellAt y c' hy
      by_cases q : c' = c
      · subst q; exact ⟨a, _, hn'⟩
      · exact ⟨a, v, IsCell.keepAt hv fun o e => kp c' o e q⟩
    · rw [lookup_setL] at e
      by_cases h : y = x
      · subst h
        rw [if_pos rfl] at e; cases e
        exact ⟨val, .inr ⟨.inl hk, c, hc, hn'⟩, fr r⟩
      · rw [if_neg h] at e
        obtain ⟨u', n, ru⟩ := S.v y u e
        refine ⟨u', ?_, fr ru⟩
        rcases n with ⟨k1, mm', hn2, e2⟩ | ⟨k1, c', hc', hv⟩
        · exact .inl ⟨k1, mm', Ns.keepAt hn2 fun o e => kp _ o e hL, e2⟩
        · exact .inr ⟨k1, c', hc', IsCell.keepAt hv fun o e => kp c' o e fun q => h (F.cinj y x c (q ▸ hc') hc)⟩


theorem RelVs.two {n₀ : Heap} {h : Heap} {a b : AV} {vs : List Value} (r : RelVs n₀ ρ h [a, b] vs) : ∃ va vb, vs = [va, vb] ∧ RelV n₀ ρ h a va ∧ RelV n₀ ρ h b vb :=
  let ⟨v, u, r1, r2, e⟩ := r.twoE
  ⟨v, u, e, r1, r2⟩

/-- the target of a loop is bound -/
noncomputable def kOk (env : Env) (x : Str) : Prop := env.kindOf x = some .local ∨ env.kindOf x = some .cell
noncomputable def tOk (env : Env) (P : Str → Prop) (t : PySem.Expr) : Prop :=
  (∀ x, nameOf t = some x → kOk env x ∧ P x) ∧ ∀ x y, pairOf t = some (x, y) → (kOk env x ∧ P x) ∧ (kOk env y ∧ P y)
theorem nameOf_inv {t : PySem.Expr} {x : Str} (h : nameOf t = some x) : ∃ p, t = .Name x p := by
  refine Classical.byContradiction fun hn => ?_
  cases t with
  | Name y p => exact hn ⟨p, by rw [Option.some.inj h]⟩
  | _ => exact nn h
theorem tupleOf_inv {t : PySem.Expr} {es : List PySem.Expr} (h : tupleOf t = some es) : ∃ k p, t = .Tuple es k p := by
  refine Classical.byContradiction fun hn => ?_
  cases t with
  | Tuple y k p => exact hn ⟨k, p, by rw [Option.some.inj h]⟩
  | _ => exact nn h
theorem pairOf_inv {t : PySem.Expr} {x y : Str} (h : pairOf t = some (x, y)) : x ≠ y ∧ ∃ p q k r, t = .Tuple [.Name x p, .Name y q] k r := by
  obtain ⟨es, h1, h⟩ := bind1_inv h
  obtain ⟨a, b, h2, h⟩ := bind2_inv h
  obtain ⟨x', h3, h⟩ := bind1_inv h
  obtain ⟨y', h4, h⟩ := bind1_inv h
  by_cases q : x' = y'
  · rw [if_pos q] at h; cases h
  · rw [if_neg q] at h
    cases h
    obtain ⟨k, r, rfl⟩ := tupleOf_inv h1
    rw [two_inv h2]
    obtain ⟨p, rfl⟩ := nameOf_inv h3
    obtain ⟨p', rfl⟩ := nameOf_inv h4
    exact ⟨q, p, p', k, r, rfl⟩
theorem bindT_inv {t : PySem.Expr} {u : AV} (e : bindT t u m = some m') : (∃ x, nameOf t = some x ∧ m' = setL m x u) ∨ ∃ x y a b, pairOf t = some (x, y) ∧ u = .tup [a, b] ∧ m' = setL (setL m x a) y b := by
  unfold bindT at e
  split at e
  · rename_i x h; cases e; exact .inl ⟨x, h, rfl⟩
  · obtain ⟨x, y, h, e⟩ := bind2_inv e
    obtain ⟨vs, h2, e⟩ := bind1_inv e
    obtain ⟨a, b, h3, e⟩ := bind2_inv e
    cases e
    exact .inr ⟨x, y, a, b, h, by rw [asTup_inv h2, two_inv h3], rfl⟩

theorem assign_ok {P : Str → Prop} {t : PySem.Expr} {val : Value} {Q : Unit → Shared → Prop} (e : bindT t v m = some m') (hA : A.handled = none) (S : St hB os C env m ρ σ s) (r : RelV hB ρ s.heap v val) (ht : tOk env P t)
    (K : ∀ u s', StepS (tgtM env P) ρ s ρ s' → St hB os C env m' ρ σ s' → Q u s') : wpAny (model prog w) A (assign t env val) Q Fls s := by
  rcases bindT_inv e with ⟨x, hx, rfl⟩ | ⟨x, y, a, b, hx, rfl, rfl⟩
  · obtain ⟨hk, hP⟩ := ht.1 x hx
    obtain ⟨p, rfl⟩ := nameOf_inv hx
    exact wpAny_assign_Name (store_ok S r hk fun u s2 h2 S2 => K u s2 (h2.weak (fun b hb => hb.imp id fun ⟨y, e, a⟩ => ⟨y, e ▸ hP, a⟩) fun b hb => S2.f.frLies hb.fr) S2)
  · obtain ⟨⟨hk, hP⟩, hk2, hP2⟩ := ht.2 x y hx
    obtain ⟨hxy, px, py, k, pos, rfl⟩ := pairOf_inv hx
    obtain ⟨ad, vs, tt, rs, rfl⟩ := r.tupE
    obtain ⟨va, vb, r1, r2, rfl⟩ := rs.twoE
    refine wpAny_assign_Tuple hA tt rfl rfl fun h' hx => ?_
    have kp : ∀ b o, s.heap.get? b = some o → h'.get? b = some o := fun b o e => hx b o (Nat.ne_of_lt (Heap.lt_size e)) e
    have St1 : Step ρ s ρ { s with heap := h' } := Step.keeps S.g kp s.toks
    have S1 := S.step St1 (S.g.keeps kp s.toks)
    show wpAny _ _ (do holding [vb] (assign (.Name x px) env va); do holding [] (assign (.Name y py) env vb); pure ()) _ _ _
    refine wpAny_bind (wpAny_holding (wpAny_assign_Name (store_ok S1 (St1.rel S.g r1) hk fun u s2 Sa S2 => ?_)))
    have r2' : RelV hB ρ s2.heap b vb := (St1.rel S.g r2).mono Sa.keep (fun b hb => hb.elim S1.g.mut fun hb => S1.f.frMut hb.fr) .refl (n := s.heap)
    refine wpAny_bind (wpAny_holding (wpAny_assign_Name (store_ok S2 r2' hk2 fun u s3 h3 S3 => wpAny_pure (K _ s3 ?_ S3))))
    exact ((St1.toS S.f).trans (Sa.weak (fun b hb => hb.imp id fun ⟨y, e, a⟩ => ⟨y, e ▸ hP, a⟩) fun b hb => S2.f.frLies hb.fr)).trans
        (h3.weak (fun b hb => hb.imp id fun ⟨y, e, a⟩ => ⟨y, e ▸ hP2, a⟩) fun b hb => S3.f.frLies hb.fr)

/-- the iterator of a loop -/
noncomputable def ItAt (ρ : Rho) (h : Heap) (src : AV) (i : Nat) (I : Addr) : Prop :=
  match src with
  | .ref r => ∃ p, ρ[r]? = some p ∧ h.IsListIter I p.1 i
  | .str l => ∃ t, h.IsStrIter I (strIterType ⟨l.toArray⟩) ⟨l.toArray⟩ t i
  | .rng a b c => c = 1 ∧ IsRangeIter h I (a + i) ((if a < b then b - a else 0) - i) 1
  | _ => False
theorem ItAt.keep {h h' : Heap} {src : AV} {i : Nat} {I : Addr} (x : ItAt ρ h src i I) (k : ∀ o, h.get? I = some o → h'.get? I = some o) {n : Heap} (g : Grow n ρ ρ') : ItAt ρ' h' src i I := by
  cases src with
  | ref r => obtain ⟨p, hp, o, ho, hr⟩ := x; exact ⟨p, g.get hp, o, k o ho, hr⟩
  | str l => obtain ⟨t, o, ho, hr⟩ := x; exact ⟨t, o, k o ho, hr⟩
  | rng a b c => exact ⟨x.1, k _ x.2⟩
  | _ => exact x.elim
theorem ItAt.lies {h : Heap} {src : AV} {i : Nat} {I : Addr} (x : ItAt ρ h src i I) : ∃ o fs, h.get? I = some o ∧ o.data = .fields fs ∧ o.cls ≠ .type "tuple" ∧ o.cls ≠ .type "range" := by
  cases src with
  | ref r => obtain ⟨p, hp, o, ho, hc, hd⟩ := x; exact ⟨o, _, ho, hd, by rw [hc]; simp, by rw [hc]; simp⟩
  | str l =>
    obtain ⟨t, o, ho, hc, hd⟩ := x
    refine ⟨o, _, ho, hd, ?_, ?_⟩ <;> (rw [hc]; unfold strIterType; split <;> simp)
  | rng a b c => exact ⟨_, _, x.2, rfl, by simp, by simp⟩
  | _ => exact x.elim

theorem iter_ok {t : PySem.Expr} {src : AV} {val : Value} (e : srcOk t src σ = true) (G : StG hB os C ρ σ s) (r : RelV hB ρ s.heap src val) {Q : Value → Shared → Prop}
    (h : ∀ h' I, (∀ b o, s.heap.get? b = some o → h'.get? b = some o) → s.heap.get? I = none → ItAt ρ h' src 0 I → Q (.ref I) { s with heap := h' }) : wpAny (model prog w) A (pyIter val) Q Fls s := by
  have go : ∀ {o : Obj}, ItAt ρ (s.heap.push o) src 0 s.heap.objs.size → Q (.ref s.heap.objs.size) { s with heap := s.heap.push o } := fun x => h _ _ (fun _ _ e => Heap.get?_push_of_some _ e) (get_size _) x
  cases src with
  | ref i =>
    obtain ⟨xs, h1⟩ := Option.isSome_iff_exists.mp (show (listAt σ i).isSome = true from e)
    obtain ⟨p, hp, rfl⟩ := r.refE
    obtain ⟨vs, hl, rs⟩ := G.listE h1 hp
    exact wpAny_pyIter_list hl.isList (go ⟨p, hp, _, Heap.get?_push_size _ rfl, rfl, rfl⟩)
  | str l =>
    obtain ⟨_, rfl⟩ := r.strE
    exact wpAny_pyIter_strU (go ⟨_, _, Heap.get?_push_size _ rfl, rfl, rfl⟩)
  | rng a b c =>
    have e : ((nameOf t).isSome && intOk a && intOk b && decide (c = 1)) = true := e
    simp only [Bool.and_eq_true, decide_eq_true_eq] at e
    have ha := intOk_le e.1.1.2
    have hb := intOk_le e.1.2
    obtain ⟨_, t', u', v', hr, rfl⟩ := r.rngE
    obtain rfl := e.2
    refine wpAny_pyIter_range hr (small_one (by omega) (by omega) (by omega) (by omega)) (go ⟨rfl, ?_⟩)
    have := Heap.get?_push_size s.heap (o := { cls := .type "range_iterator", data := .fields #[rawInt a, rawInt (Builtin.Range.rangeSize a b 1), rawInt 1] }) rfl
    show Heap.get? _ _ = _
    rw [rangeSize_one] at this ⊢
    simp only [Int.natCast_zero, Int.add_zero, Int.sub_zero] at this ⊢
    exact this
  | _ => cases e

/-- the next item, or the end: what is told behind it -/
noncomputable def NextK (hB : Heap) (ρ : Rho) (s : Shared) (src : AV) (i : Nat) (I : Addr) (r : Option AV) (Q : Option Value → Shared → Prop) : Prop :=
  ∀ h' t, Heap.ExtBut I s.heap h' → match r with
    | none => Q none { s with heap := h', toks := t }
    | some v => ∀ val, RelV hB ρ s.heap v val → ItAt ρ h' src (i + 1) I → Q (some val) { s with heap := h', toks := t }

theorem next_list {q i : Nat} {I : Addr} {xs : List AV} {Q : Option Value → Shared → Prop} (h1 : listAt σ q = some xs) (hA : A.handled = none) (G : StG hB os C ρ σ s) (hI : ItAt ρ s.heap (.ref q) i I) (K : NextK hB ρ s (.ref q) i I xs[i]? Q) :
    wpAny (model prog w) A (pyNext (.ref I)) Q Fls s := by
  obtain ⟨p, hp, hit⟩ := hI
  obtain ⟨vs, hl, rs⟩ := G.listE h1 hp
  cases h2 : xs[i]? with
  | none =>
    rw [h2] at K
    exact wpAny_pyNext_list_end hA hit hl.isList (by simpa using rs.none h2) fun h' hx => K h' s.toks hx
  | some x =>
    rw [h2] at K
    obtain ⟨val, e1, rv⟩ := rs.get h2
    exact wpAny_pyNext_list_item hit hl.isList (by simpa using e1) fun h' hi hs => K h' s.toks hs.extBut val rv ⟨p, hp, hi⟩
theorem next_str {l : List Nat} {i : Nat} {I : Addr} {Q : Option Value → Shared → Prop} (hA : A.handled = none) (hI : ItAt ρ s.heap (.str l) i I) (K : NextK hB ρ s (.str l) i I ((l[i]?).map fun c => .str [c]) Q) :
    wpAny (model prog w) A (pyNext (.ref I)) Q Fls s := by
  obtain ⟨t, hit⟩ := hI
  unfold strIterType at hit
  cases h2 : l[i]? with
  | none =>
    rw [h2] at K
    have hx : (⟨l.toArray⟩ : Str).cps[i]? = none := by simpa using h2
    split at hit
    · exact wpAny_pyNext_ascii_end hA hit hx fun h' hx => K h' s.toks hx
    · exact wpAny_pyNext_wide_end hA hit hx fun h' hx => K h' s.toks hx
  | some c =>
    rw [h2] at K
    have hx : (⟨l.toArray⟩ : Str).cps[i]? = some c := by simpa using h2
    split at hit
    · rename_i hty
      exact wpAny_pyNext_ascii_item hit hx fun h' hi hs => K h' (s.toks + 1) hs.extBut _ (.str [c] _) ⟨t, by unfold strIterType; rw [if_pos hty]; exact hi⟩
    · rename_i hty
      exact wpAny_pyNext_wide_item hit hx fun h' hi hs => K h' (s.toks + 1) hs.extBut _ (.str [c] _) ⟨t, by unfold strIterType; rw [if_neg hty]; exact hi⟩
theorem next_up {a b : Int} {i : Nat} {I : Addr} {Q : Option Value → Shared → Prop} (hA : A.handled = none) (hit : IsRangeIter s.heap I (a + i) ((if a < b then b - a else 0) - i) 1) (K : NextK hB ρ s (.rng a b 1) i I (if a + (i : Int) < b then some (.int (a + (i : Int))) else none) Q) :
    wpAny (model prog w) A (pyNext (.ref I)) Q Fls s := by
  by_cases hlt : a + (i : Int) < b
  · rw [if_pos hlt] at K
    have hab : a < b := by omega
    rw [if_pos hab] at hit
    refine wpAny_pyNext_range_item hit (by omega) fun h' hi hs => K h' (s.toks + 1) hs.extBut _ (.int _ _) ⟨rfl, ?_⟩
    rw [if_pos hab, show a + ((i + 1 : Nat) : Int) = a + i + 1 by omega, show b - a - ((i + 1 : Nat) : Int) = b - a - i - 1 by omega]
    exact hi
  · rw [if_neg hlt] at K
    exact wpAny_pyNext_range_end hA hit (by split <;> omega) fun h' hx => K h' s.toks hx
theorem next_ok {src : AV} {i : Nat} {I : Addr} {r : Option AV} {Q : Option Value → Shared → Prop} (e : nextOf src i σ = some r) (hA : A.handled = none) (G : StG hB os C ρ σ s) (hI : ItAt ρ s.heap src i I) (K : NextK hB ρ s src i I r Q) :
    wpAny (model prog w) A (pyNext (.ref I)) Q Fls s := by
  cases src with
  | ref q =>
    obtain ⟨xs, h, e1⟩ := bind1_inv e
    cases e1
    exact next_list h hA G hI K
  | str l =>
    cases e
    exact next_str hA hI K
  | rng a b c =>
    obtain ⟨rfl, hit⟩ := hI
    cases (show some (if a + (i : Int) < b then some (AV.int (a + (i : Int))) else none) = some r from e)
    exact next_up hA hit K
  | _ => cases e
end
end Mine
end

section
open PySem PySem.W PyProof.Rows PySem.Calls PySem.SeqAt
set_option maxRecDepth 100000
set_option linter.unusedSimpArgs false
namespace Mine

noncomputable def relabelS (scope outer : Scope) : Scope :=
  { scope with names := scope.names.map fun (n, k) => if (k == .free && outer.kind == .function && outer.names.lookup n == some .cell) then (n, .cell) else (n, k) }
noncomputable def isCall : PySem.Expr → Bool
  | .Call .. => true
  | _ => false
noncomputable def ownN (sc : Scope) (x : Str) : Bool := sc.names.lookup x == some .local || sc.names.lookup x == some .cell
noncomputable def tgtIn (sc : Scope) (t : PySem.Expr) : Bool := match nameOf t with
  | some x => ownN sc x
  | none => match pairOf t with
    | some (x, y) => ownN sc x && ownN sc y
    | none => false
noncomputable def freeB (scope sc : Scope) : Bool := scope.names.all fun x => x.2 != .free || (sc.names.lookup x.1 == some .cell || sc.names.lookup x.1 == some .free)
noncomputable def compB (scope sc : Scope) : Bool :=
  scope.kind == .function && scope.names.all (fun x => x.2 != .local || scope.names.lookup x.1 == some .local) && freeB scope sc && decide (scope.names.map (·.1)).Nodup

mutual
/-- what the walk asks of a text -/
noncomputable def okE (kn : Str → Bool) : Scope → PySem.Expr → Bool
  | _, .Constant _ _ _ => true
  | _, .Name x _ => x != ("__debug__" : Str) && x != ("__classdict__" : Str)
  | sc, .BoolOp _ vs _ => okEs kn sc vs
  | sc, .BinOp l _ r _ => okE kn sc l && okE kn sc r
  | sc, .UnaryOp _ x _ => okE kn sc x
  | sc, .List es _ => okEs kn sc es
  | sc, .Tuple es _ _ => okEs kn sc es
  | sc, .ListComp elt gens scope _ => match gens with
    | [⟨t, iter, ifs, _⟩] => compB scope sc && tgtIn scope t && okE kn sc iter && okEs kn (relabelS scope sc) ifs && okE kn (relabelS scope sc) elt
    | _ => false
  | sc, .Compare l ops rs _ => okE kn sc l && okEs kn sc rs && ops.length == rs.length
  | sc, .Call f args ks pos => match ks with
    | [] => match f with
      | .Attribute o _ apos => !isCall o && apos.endLine == pos.line && decide (args.length < 20) && okE kn sc o && okEs kn sc args
      | .Name g _ => sc.names.lookup g == some .globalImplicit && g != ("__debug__" : Str) && decide (args.length < 20) && okEs kn sc args && (kn g || (bifOf g).isSome || g == qname)
      | _ => false
    | _ => false
  | sc, .Subscript v i _ => okE kn sc v && (if isSl i then okSl kn sc i else okE kn sc i)
  | _, _ => false
noncomputable def okSl (kn : Str → Bool) : Scope → PySem.Expr → Bool
  | sc, .Slice lo hi st _ => okO kn sc lo && okO kn sc hi && okO kn sc st
  | _, _ => false
noncomputable def okEs (kn : Str → Bool) : Scope → List PySem.Expr → Bool
  | _, [] => true
  | sc, e :: r => okE kn sc e && okEs kn sc r
noncomputable def okO (kn : Str → Bool) : Scope → Option PySem.Expr → Bool
  | _, none => true
  | sc, some e => okE kn sc e
end

theorem and2 {a b : Bool} (h : (a && b) = true) : a = true ∧ b = true := Bool.and_eq_true_iff.mp h
theorem and3 {a b c : Bool} (h : (a && b && c) = true) : a = true ∧ b = true ∧ c = true := ⟨(and2 (and2 h).1).1, (and2 (and2 h).1).2, (and2 h).2⟩
theorem okE_noStar {kn : Str → Bool} {sc : Scope} {e : PySem.Expr} (h : okE kn sc e = true) (rest : List PySem.Expr) (env : Env) : starEach (e :: rest) env = (false, eval e env) :: starEach rest env := by
  cases e <;> first | rfl | cases h
theorem okE_noSet {kn : Str → Bool} {sc : Scope} {e : PySem.Expr} (h : okE kn sc e = true) (env : Env) (x : Value) : foldedSetIterable e env x = pure x := by
  cases e <;> first | rfl | cases h
theorem okE_noMarks {kn : Str → Bool} {sc : Scope} {e : PySem.Expr} (h : okE kn sc e = true) (op : CmpOp) : behindInMarks op e = false := by
  cases e <;> first | rfl | cases h

/-- what stands fixed in a walk -/
structure Cx where
  prog : Program
  w : World
  hB : Heap
  os : OsState
  N : Nm
  qn : Addr
  d : Nat
  O : Oracle
  kn : Str → Bool

noncomputable def isAcc : Mth → Bool
  | .push | .pop | .partCount => true
  | _ => false

/-- what the text's names mean, and how they are called -/
structure Wld (prog : Program) (w : World) (hB : Heap) (N : Nm) (qn : Addr) (kn : Str → Bool) : Prop where
  bi : ∀ g b, bifOf g = some b → ∀ env : Env, env.globals = mainGlobals → env.builtins = builtinsNs → Looks (model prog w) hB (loadGlobal env g) (bifVal N b)
  fn : ∀ g, kn g = true → ∀ env : Env, env.globals = mainGlobals → env.builtins = builtinsNs → Looks (model prog w) hB (loadGlobal env g) (N.val g)
  q : ∀ env : Env, env.globals = mainGlobals → env.builtins = builtinsNs → Looks (model prog w) hB (loadGlobal env qname) (.ref qn)
  keepFn : ∀ g, kn g = true → ∃ k, (k = Keeper.frame ∨ k = Keeper.machine ∨ k = Keeper.boundFrame) ∧ Looks (model prog w) hB (keeperOf (N.val g)) k
  keepAcc : ∃ k, (k = Keeper.frame ∨ k = Keeper.machine ∨ k = Keeper.boundFrame) ∧ Looks (model prog w) hB (keeperOf (.ref N.acc)) k
  keepQ : ∃ k, (k = Keeper.frame ∨ k = Keeper.machine ∨ k = Keeper.boundFrame) ∧ Looks (model prog w) hB (keeperOf (.ref qn)) k
  keepM : ∀ m, isAcc m = true → ∃ k, (k = Keeper.frame ∨ k = Keeper.machine ∨ k = Keeper.boundFrame) ∧ Looks (model prog w) hB (keeperOf (mthVal N m)) k
  meth : ∀ name m, mthOf name = some m → isAcc m = true → ∀ h a dd size vs, (∀ b o, hB.get? b = some o → h.get? b = some o) → AccAt N.acc h a dd size vs → ∀ pl, Looks (model prog w) h (getMethod (.ref a) name pl) (mthVal N m, [.ref a])

/-- two names from texts, and their order -/
noncomputable def QOk (prog : Program) (w : World) (hB : Heap) (os : OsState) (N : Nm) (qn : Addr) (d : Nat) : Prop :=
  ∀ (op : CmpOp) (a b : List Nat) (c : Bool), cmpQ op (.str a) (.str b) = some c → ∀ (A : Around) (ρ : Rho) (σ : Sto) (s : Shared) (t : Tok), AOk d A → StG hB os N.acc ρ σ s →
    wpAny (model prog w) A (call (.ref qn) [.str ⟨a.toArray⟩ t]) (fun q1 s1 => (Step ρ s ρ s1 ∧ StG hB os N.acc ρ σ s1) ∧
      ∀ ρ' σ' s2 u, Step ρ s1 ρ' s2 → StG hB os N.acc ρ' σ' s2 → wpAny (model prog w) A (call (.ref qn) [.str ⟨b.toArray⟩ u]) (fun q2 s3 =>
        wpAny (model prog w) A (compareOp op q1 q2) (PostV hB os N.acc ρ' s2 (.bool c) σ') Fls s3) Fls s2) Fls s

structure Cx.Ok (X : Cx) : Prop where
  call : OCall X.prog X.w X.hB X.os X.N X.d X.O
  q : QOk X.prog X.w X.hB X.os X.N X.qn X.d
  wld : Wld X.prog X.w X.hB X.N X.qn X.kn
  noq : ∀ vs σ, X.O qname vs σ = none

noncomputable abbrev Cx.Kont (X : Cx) (ρ : Rho) (s : Shared) (v : AV) (σ' : Sto) (Q : Value → Shared → Prop) : Prop := KontG X.hB X.os X.N.acc ρ s v σ' Q
/-- what is told behind a list of expressions -/
noncomputable def KontsG (hB : Heap) (os : OsState) (C : Addr) (ρ : Rho) (s : Shared) (vs : List AV) (σ' : Sto) (Q : List Value → Shared → Prop) : Prop :=
  ∀ x s1 ρ1, Step ρ s ρ1 s1 → StG hB os C ρ1 σ' s1 → RelVs hB ρ1 s1.heap vs x → Q x s1
noncomputable def KontB (hB : Heap) (os : OsState) (C : Addr) (ρ : Rho) (s : Shared) (b : Bool) (σ' : Sto) (Q : Bool → Shared → Prop) : Prop :=
  ∀ s1 ρ1, Step ρ s ρ1 s1 → StG hB os C ρ1 σ' s1 → Q b s1
noncomputable def SndE (X : Cx) (e : PySem.Expr) : Prop :=
  ∀ m σ v σ' A env ρ s Q, okE X.kn env.scope e = true → ev X.O m e σ = some (v, σ') → AOk X.d A → St X.hB X.os X.N.acc env m ρ σ s → X.Kont ρ s v σ' Q →
    wpAny (model X.prog X.w) A (eval e env) Q Fls s
noncomputable def SndT (X : Cx) (e : PySem.Expr) : Prop :=
  ∀ m σ b σ' A env ρ s Q, okE X.kn env.scope e = true → tr X.O m e σ (ev X.O m e σ) = some (b, σ') → AOk X.d A → St X.hB X.os X.N.acc env m ρ σ s → KontB X.hB X.os X.N.acc ρ s b σ' Q →
    wpAny (model X.prog X.w) A (isTrue e env (eval e env)) Q Fls s

section
variable {X : Cx}

theorem snd_const {c : Const} {k : Nat} {p : Pos} : SndE X (.Constant c k p) := by
  intro m σ v σ' A env ρ s Q _ e hA S K
  obtain ⟨u, h, e1⟩ := bind1_inv e
  have K := K.of e1
  cases c with
  | none => exact wpAny_Constant_none ((K.of1 h).now S.g .none _)
  | bool b => exact wpAny_Constant_bool ((K.of1 h).now S.g (.bool b) _)
  | int i => exact wpAny_Constant_int ((K.of1 h).now S.g (.int i _) _)
  | str x => exact wpAny_Constant_str ((K.of1 h).post (.str S.g rfl _ _))
  | _ => cases h

theorem snd_name {x : Str} {p : Pos} : SndE X (.Name x p) := by
  intro m σ v σ' A env ρ s Q ok e hA S K
  have ok := and2 ok
  obtain ⟨u, h, e1⟩ := bind1_inv e
  have K := K.of e1
  obtain ⟨val, n, r⟩ := S.v x _ h
  refine wpAny_Name ?_ (by simpa using ok.1)
  rcases n with ⟨hk, mm, hn, hv⟩ | ⟨hk, c, hc, hv⟩
  · exact wpAny_loadName_local S.f.kind hk hn hv (K.now S.g r _)
  · rcases hk with hk | hk
    · exact wpAny_loadName_cell S.f.kind hk hc hv (K.now S.g r _)
    · exact wpAny_loadName_free S.f.kind hk hc hv (K.now S.g r _) (by simpa using ok.2)

theorem snd_bin {l r : PySem.Expr} {op : Operator} {p : Pos} (hl : SndE X l) (hr : SndE X r) : SndE X (.BinOp l op r p) := by
  intro m σ v σ' A env ρ s Q ok e hA S K
  have ok := and2 ok
  obtain ⟨a, σ1, h1, e1⟩ := bind2_inv e
  obtain ⟨b, σ2, h2, e2⟩ := bind2_inv e1
  refine wpAny_BinOp (hl m σ a σ1 A env ρ s _ ok.1 h1 hA S fun x s1 ρ1 T1 G1 r1 => ?_)
  refine hr m σ1 b σ2 A env ρ1 s1 _ ok.2 h2 hA (S.step T1 G1) fun y s2 ρ2 T2 G2 r2 => ?_
  exact binop_ok e2 G2 (T2.rel G1 r1) r2 (K.step (T1.trans T2))

theorem snd_neg {x : PySem.Expr} {op : UnaryOp} {p : Pos} (hx : SndE X x) : SndE X (.UnaryOp op x p) := by
  intro m σ v σ' A env ρ s Q ok e hA S K
  refine wpAny_UnaryOp ?_
  cases op with
  | USub =>
    obtain ⟨a, σ1, h1, e1⟩ := bind2_inv e
    obtain ⟨i, h2, e2⟩ := bind1_inv e1
    have K := K.of e2
    rw [asInt_inv h2] at h1
    refine hx m σ _ _ A env ρ s _ ok h1 hA S fun y s1 ρ1 T1 G1 r1 => ?_
    obtain ⟨_, rfl⟩ := r1.intE
    exact neg_int ((K.step T1).now G1 (.int _ _) _)
  | Not =>
    obtain ⟨a, σ1, h1, e1⟩ := bind2_inv e
    obtain ⟨i, h2, e2⟩ := bind1_inv e1
    have K := K.of e2
    rw [asBool_inv h2] at h1
    refine hx m σ _ _ A env ρ s _ ok h1 hA S fun y s1 ρ1 T1 G1 r1 => ?_
    rw [r1.boolE]
    exact not_value (wpAny_truthy_bool ((K.step T1).now G1 (.bool _) _))
  | _ => cases e

theorem KontB.step {hB : Heap} {os : OsState} {C : Addr} {ρ ρ1 : Rho} {s s1 : Shared} {b : Bool} {σ' : Sto} {Q : Bool → Shared → Prop} (K : KontB hB os C ρ s b σ' Q) (T : Step ρ s ρ1 s1) : KontB hB os C ρ1 s1 b σ' Q :=
  fun s2 ρ2 T2 G2 => K s2 ρ2 (T.trans T2) G2

theorem KontB.of {hB : Heap} {os : OsState} {C : Addr} {ρ : Rho} {s : Shared} {b b0 : Bool} {σ' σ0 : Sto} {Q : Bool → Shared → Prop} (K : KontB hB os C ρ s b σ' Q) (e : some (b0, σ0) = some (b, σ')) : KontB hB os C ρ s b0 σ0 Q := by cases e; exact K
theorem KontsG.of {hB : Heap} {os : OsState} {C : Addr} {ρ : Rho} {s : Shared} {vs vs0 : List AV} {σ' σ0 : Sto} {Q : List Value → Shared → Prop} (K : KontsG hB os C ρ s vs σ' Q) (e : some (vs0, σ0) = some (vs, σ')) : KontsG hB os C ρ s vs0 σ0 Q := by cases e; exact K

theorem snd_each : ∀ {es : List PySem.Expr}, (∀ e ∈ es, SndE X e) → ∀ m σ vs σ' A env ρ s pos Q, okEs X.kn env.scope es = true → evs X.O m es σ = some (vs, σ') → AOk X.d A →
    St X.hB X.os X.N.acc env m ρ σ s → KontsG X.hB X.os X.N.acc ρ s vs σ' Q → wpAny (model X.prog X.w) A (spliced (backTo pos (starEach es env))) Q Fls s
  | [], _, m, σ, vs, σ', A, env, ρ, s, pos, Q, _, e, _, S, K => by
    exact wpAny_items_nil (K.of e _ _ ρ (.refl S.g) S.g .nil)
  | a :: r, hs, m, σ, vs, σ', A, env, ρ, s, pos, Q, ok, e, hA, S, K => by
    have ok := and2 (a := okE X.kn env.scope a) ok
    obtain ⟨v, σ1, h1, e1⟩ := bind2_inv e
    obtain ⟨ws, σ2, h2, e2⟩ := bind2_inv e1
    have K := K.of e2
    refine wpAny_items_cons (hs a List.mem_cons_self m σ v σ1 A env ρ s _ ok.1 h1 hA S fun x s1 ρ1 T1 G1 r1 => ?_) (okE_noStar ok.1 r env)
    refine snd_each (fun e he => hs e (List.mem_cons_of_mem _ he)) m σ1 ws σ2 A env ρ1 s1 pos _ ok.2 h2 hA (S.step T1 G1) fun ys s2 ρ2 T2 G2 r2 => ?_
    exact K _ _ ρ2 (T1.trans T2) G2 (.cons (T2.rel G1 r1) r2)

theorem snd_list {es : List PySem.Expr} {p : Pos} (hs : ∀ e ∈ es, SndE X e) : SndE X (.List es p) := by
  intro m σ v σ' A env ρ s Q ok e hA S K
  obtain ⟨vs, σ1, h1, e1⟩ := bind2_inv e
  obtain ⟨hk, e2⟩ := guard_inv e1
  have K := K.of e2
  have := sizeOk_le hk
  refine wpAny_List (snd_each hs m σ vs σ1 A env ρ s p _ ok h1 hA S fun ys s1 ρ1 T1 G1 r1 => ?_)
  have hl := r1.length
  exact ⟨by rw [sizeLine_eq']; omega, (K.step T1).newList G1 r1 _⟩
theorem snd_tuple {es : List PySem.Expr} {k : Nat} {p : Pos} (hs : ∀ e ∈ es, SndE X e) : SndE X (.Tuple es k p) := by
  intro m σ v σ' A env ρ s Q ok e hA S K
  obtain ⟨vs, σ1, h1, e1⟩ := bind2_inv e
  obtain ⟨hk, e2⟩ := guard_inv e1
  have K := K.of e2
  have := sizeOk_le hk
  refine wpAny_Tuple (snd_each hs m σ vs σ1 A env ρ s p _ ok h1 hA S fun ys s1 ρ1 T1 G1 r1 => ?_)
  have hl := r1.length
  exact ⟨by rw [sizeLine_eq']; omega, (K.step T1).post (.tuple G1 r1 _)⟩

theorem snd_bool {op : BoolOp} {p : Pos} : ∀ {es : List PySem.Expr}, (∀ e ∈ es, SndE X e) → ∀ m σ v σ' A env ρ s Q, okEs X.kn env.scope es = true → evBool X.O m op es σ = some (v, σ') → AOk X.d A →
    St X.hB X.os X.N.acc env m ρ σ s → X.Kont ρ s v σ' Q → wpAny (model X.prog X.w) A (boolOp p op (evalEach es env)) Q Fls s
  | [], _, m, σ, v, σ', A, env, ρ, s, Q, _, e, _, S, _ => by cases e
  | [a], hs, m, σ, v, σ', A, env, ρ, s, Q, ok, e, hA, S, K => hs a List.mem_cons_self m σ v σ' A env ρ s Q (and2 (a := okE X.kn env.scope a) ok).1 e hA S K
  | a :: b :: r, hs, m, σ, v, σ', A, env, ρ, s, Q, ok, e, hA, S, K => by
    have ok := and2 (a := okE X.kn env.scope a) ok
    obtain ⟨u, σ1, h1, e1⟩ := bind2_inv e
    obtain ⟨c, h2, e2⟩ := bind1_inv e1
    rw [asBool_inv h2] at h1
    show wpAny _ A (do
      let v ← eval a env
      standAt p
      let t ← holding [v] (truthy v)
      match op, t with
      | .And, false | .Or, true => pure v
      | _, _ => boolOp p op (evalEach (b :: r) env)) _ _ s
    refine wpAny_bind (hs a List.mem_cons_self m σ _ σ1 A env ρ s _ ok.1 h1 hA S fun x s1 ρ1 T1 G1 r1 => wpAny_bind (wpAny_standAt ?_))
    rw [r1.boolE]
    refine wpAny_bind (wpAny_holding (wpAny_truthy_bool ?_))
    have rec' : evBool X.O m op (b :: r) σ1 = some (v, σ') → wpAny (model X.prog X.w) A (boolOp p op (evalEach (b :: r) env)) Q Fls s1 := fun e =>
      snd_bool (fun e he => hs e (List.mem_cons_of_mem _ he)) m σ1 v σ' A env ρ1 s1 Q ok.2 e hA (S.step T1 G1) (K.step T1)
    cases op with
    | And =>
      cases c with
      | false => exact wpAny_pure (((K.of e2).step T1).now G1 (.bool _) _)
      | true => exact rec' e2
    | Or =>
      cases c with
      | false => exact rec' e2
      | true => exact wpAny_pure (((K.of e2).step T1).now G1 (.bool _) _)

theorem snd_all {op : BoolOp} : ∀ {es : List PySem.Expr}, (∀ e ∈ es, SndT X e) → ∀ m σ b σ' A env ρ s Q, okEs X.kn env.scope es = true → trAll X.O m op es σ = some (b, σ') → AOk X.d A →
    St X.hB X.os X.N.acc env m ρ σ s → KontB X.hB X.os X.N.acc ρ s b σ' Q → wpAny (model X.prog X.w) A (allTrue op es env) Q Fls s
  | [], _, m, σ, v, σ', A, env, ρ, s, Q, _, e, _, S, K => by
    cases op
    · exact wpAny_allTrue_And_nil (K.of e _ ρ (.refl S.g) S.g)
    · exact wpAny_allTrue_Or_nil (K.of e _ ρ (.refl S.g) S.g)
  | a :: r, hs, m, σ, v, σ', A, env, ρ, s, Q, ok, e, hA, S, K => by
    have ok := and2 (a := okE X.kn env.scope a) ok
    obtain ⟨c, σ1, h1, e1⟩ := bind2_inv e
    have go : ∀ {ρ1 s1}, Step ρ s ρ1 s1 → StG X.hB X.os X.N.acc ρ1 σ1 s1 → trAll X.O m op r σ1 = some (v, σ') → wpAny (model X.prog X.w) A (allTrue op r env) Q Fls s1 := fun T1 G1 e =>
      snd_all (fun e he => hs e (List.mem_cons_of_mem _ he)) m σ1 v σ' A env _ _ Q ok.2 e hA (S.step T1 G1) (K.step T1)
    cases op with
    | And =>
      refine wpAny_allTrue_And_cons (hs a List.mem_cons_self m σ c σ1 A env ρ s _ ok.1 h1 hA S fun s1 ρ1 T1 G1 => ?_)
      cases c with
      | false => exact K.of e1 _ ρ1 T1 G1
      | true => exact go T1 G1 e1
    | Or =>
      refine wpAny_allTrue_Or_cons (hs a List.mem_cons_self m σ c σ1 A env ρ s _ ok.1 h1 hA S fun s1 ρ1 T1 G1 => ?_)
      cases c with
      | false => exact go T1 G1 e1
      | true => exact K.of e1 _ ρ1 T1 G1
end
end Mine
end

section
open PySem PySem.W PyProof.Rows PySem.Calls PySem.SeqAt
set_option maxRecDepth 100000
set_option linter.unusedSimpArgs false
namespace Mine

section
variable {X : Cx}

theorem okEs_plain {kn : Str → Bool} {sc : Scope} {env : Env} {pos : Pos} : ∀ {es : List PySem.Expr}, okEs kn sc es = true → (backTo pos (starEach es env)).any (·.1) = false
  | [], _ => rfl
  | a :: r, ok => by
    have ok := and2 (a := okE kn sc a) ok
    rw [okE_noStar ok.1 r env]
    show (false || (backTo pos (starEach r env)).any (·.1)) = false
    rw [okEs_plain ok.2]; rfl
theorem okEs_len {kn : Str → Bool} {sc : Scope} {env : Env} {pos : Pos} : ∀ {es : List PySem.Expr}, okEs kn sc es = true → (backTo pos (starEach es env)).all (!·.1) = true
  | [], _ => rfl
  | a :: r, ok => by
    have ok := and2 (a := okE kn sc a) ok
    rw [okE_noStar ok.1 r env]
    show (true && (backTo pos (starEach r env)).all (!·.1)) = true
    rw [okEs_len ok.2]; rfl

theorem evalArgs_all {M : Model} {A : Around} {E : Value → Shared → Prop} {s : Shared} {kn : Str → Bool} {sc : Scope} {env : Env} {pos : Pos} {f : Value} {es : List PySem.Expr} {Q : Args → Shared → Prop} (ok : okEs kn sc es = true)
    (h : wpAny M A (spliced (backTo pos (starEach es env))) (fun vs s' => Q ⟨vs, []⟩ s') E s) : wpAny M A (evalArgs f true (backTo pos (starEach es env)) []) Q E s := by
  cases es with
  | nil =>
    unfold evalArgs
    show wpAny M A (spliced [] >>= _) Q E s
    refine wpAny_bind (wpAny_mono h (fun vs s' h' => ?_) fun _ _ x => x)
    refine wpAny_holding ?_
    exact wpAny_bind (wpAny_pure (wpAny_bind (wpAny_pure (wpAny_pure h'))))
  | cons a r =>
    have ok := and2 (a := okE kn sc a) ok
    rw [okE_noStar ok.1 r env] at h ⊢
    exact evalArgs_plain h

noncomputable abbrev Kp (X : Cx) (f : Value) : Prop := ∃ k, (k = Keeper.frame ∨ k = Keeper.machine ∨ k = Keeper.boundFrame) ∧ Looks (model X.prog X.w) X.hB (keeperOf f) k

theorem callWith_all {A : Around} {s : Shared} {sc : Scope} {env : Env} {pos : Pos} {f : Value} {first : List Value} {es : List PySem.Expr} {Q : Value → Shared → Prop} {E : Value → Shared → Prop} (K : Kp X f) (ok : okEs X.kn sc es = true)
    (h : wpAny (model X.prog X.w) A (spliced (backTo pos (starEach es env))) (fun vs s' => (∀ b o, X.hB.get? b = some o → s'.heap.get? b = some o) ∧ wpAny (model X.prog X.w) A (call f (first ++ vs)) Q E s') E s) :
    wpAny (model X.prog X.w) A (callWith pos f first (backTo pos (starEach es env)) []) Q E s := by
  refine callWith_of (P := fun h => ∀ b o, X.hB.get? b = some o → h.get? b = some o) (by rw [okEs_plain ok]; rfl) (fun h hp => ?_) (evalArgs_all ok h)
  obtain ⟨k, a, b⟩ := K
  exact ⟨k, a, b.keeps hp⟩

theorem call_name {A : Around} {s : Shared} {env : Env} {pos np : Pos} {g : Str} {f : Value} {es : List PySem.Expr} {Q : Value → Shared → Prop} {E : Value → Shared → Prop} (K : Kp X f) (ok : okEs X.kn env.scope es = true)
    (hkind : env.scope.kind = .function) (hk : env.kindOf g = some .globalImplicit) (hd : (g == ("__debug__" : Str)) = false) (hp : ∀ b o, X.hB.get? b = some o → s.heap.get? b = some o)
    (L : Looks (model X.prog X.w) X.hB (loadGlobal env g) f)
    (h : wpAny (model X.prog X.w) A (spliced (backTo pos (starEach es env))) (fun vs s' => (∀ b o, X.hB.get? b = some o → s'.heap.get? b = some o) ∧ wpAny (model X.prog X.w) A (call f vs) Q E s') E s) :
    wpAny (model X.prog X.w) A (eval (.Call (.Name g np) es [] pos) env) Q E s := by
  show wpAny _ _ (eval (.Name g np) env >>= fun f => callWith pos f [] (backTo pos (starEach es env)) []) _ _ _
  refine wpAny_bind (Name_function_global hkind hk ?_ hd)
  exact (L.keeps hp).here (callWith_all K ok h)

theorem kp_builtin {id : String} : Kp X (.builtin id) := ⟨.machine, .inr (.inl rfl), .of_pure rfl⟩
theorem kp_type {id : String} : Kp X (.type id) := ⟨.machine, .inr (.inl rfl), .of_pure rfl⟩

theorem snd_call {g : Str} {np pos : Pos} {es : List PySem.Expr} (W : X.Ok) (hs : ∀ e ∈ es, SndE X e) : SndE X (.Call (.Name g np) es [] pos) := by
  intro m σ v σ' A env ρ s Q ok e hA S K
  obtain ⟨ok, hg⟩ := and2 (b := (X.kn g || (bifOf g).isSome || g == qname)) ok
  obtain ⟨ok, oks⟩ := and2 ok
  obtain ⟨hk, hd, _⟩ := and3 ok
  have hk := beq_iff_eq.mp hk
  have hd' : (g == ("__debug__" : Str)) = false := by simpa using hd
  obtain ⟨hm, e1⟩ : ¬ (m.lookup g).isSome = true ∧ (bind2 (evs X.O m es σ) fun vs σ1 => match bifOf g with | some b => builtin X.O b vs σ1 | none => X.O g vs σ1) = some (v, σ') := by
    by_cases q : (m.lookup g).isSome = true
    · have e : (if (m.lookup g).isSome = true then none else _) = some (v, σ') := e
      rw [if_pos q] at e; cases e
    · have e : (if (m.lookup g).isSome = true then none else _) = some (v, σ') := e
      rw [if_neg q] at e
      exact ⟨q, e⟩
  obtain ⟨vs, σ1, h1, e2⟩ := bind2_inv e1
  clear e e1 hm
  cases hb : bifOf g with
  | some b =>
    rw [hb] at e2
    have KK : Kp X (bifVal X.N b) := by
      cases b <;> first | exact kp_builtin | exact kp_type | exact W.wld.keepAcc
    refine call_name KK oks S.f.kind hk hd' S.g.base (W.wld.bi g b hb env S.f.glob S.f.bui) ?_
    exact snd_each hs m σ vs σ1 A env ρ s pos _ oks h1 hA S fun ys s1 ρ1 T1 G1 r1 => ⟨G1.base, builtin_ok W.call hA e2 G1 r1 (K.step T1)⟩
  | none =>
    rw [hb] at e2
    have hkn : X.kn g = true := by
      rw [Bool.or_eq_true, Bool.or_eq_true, hb] at hg
      rcases hg with (h | h) | h
      · exact h
      · cases h
      · rw [beq_iff_eq.mp h] at e2
        have e2 : X.O qname vs σ1 = some (v, σ') := e2
        rw [W.noq] at e2; cases e2
    refine call_name (W.wld.keepFn g hkn) oks S.f.kind hk hd' S.g.base (W.wld.fn g hkn env S.f.glob S.f.bui) ?_
    exact snd_each hs m σ vs σ1 A env ρ s pos _ oks h1 hA S fun ys s1 ρ1 T1 G1 r1 => ⟨G1.base, W.call.kont hA e2 G1 r1 (K.step T1)⟩

theorem base_plain {o : PySem.Expr} (h : isCall o = false) (name : Str) (env : Env) (whole : Sem Value) : attributeBase o name env whole = whole := by
  cases o <;> first | rfl | cases h

noncomputable def nameM : Mth → Str
  | .join => "join"
  | .append => "append"
  | .push => "push"
  | .pop => "pop"
  | .partCount => "part_count"
theorem pick_name {name x : Str} {a b : Mth} {o : Option Mth} (ha : nameM a = x) (e : (if name = x then some a else o) = some b) (h : o = some b → name = nameM b) : name = nameM b := by
  by_cases q : name = x
  · rw [if_pos q] at e; cases e; rw [q, ha]
  · rw [if_neg q] at e; exact h e
theorem mth_name {name : Str} {mt : Mth} (e : mthOf name = some mt) : name = nameM mt := by
  unfold mthOf at e
  refine pick_name (a := .join) rfl e fun e => ?_
  refine pick_name (a := .append) rfl e fun e => ?_
  refine pick_name (a := .push) rfl e fun e => ?_
  refine pick_name (a := .pop) rfl e fun e => ?_
  refine pick_name (a := .partCount) rfl e fun e => ?_
  cases e

section
variable {name : Str} {mt : Mth} {o : AV} {ov : Value} {A : Around} {ρ : Rho} {σ : Sto} {s : Shared} {pl : Sem Bool} {Q : Value × List Value → Shared → Prop} {E : Value → Shared → Prop}
theorem on_list {id : String} (hs : Slot "list" name id) (hty : typeOf (.builtin id) = pure (.type "method_descriptor")) (hr : recv .append o σ = true) (G : StG X.hB X.os X.N.acc ρ σ s) (r : RelV X.hB ρ s.heap o ov) (h : Q (.builtin id, [ov]) s) :
    wpAny (model X.prog X.w) A (getMethod ov name pl) Q E s := by
  have hr : (match asRef o with | some r => (listAt σ r).isSome | none => false) = true := hr
  cases ho : asRef o with
  | none => rw [ho] at hr; cases hr
  | some i =>
    rw [ho] at hr
    cases asRef_inv ho
    obtain ⟨xs, hx⟩ := Option.isSome_iff_exists.mp hr
    obtain ⟨p, hp, rfl⟩ := r.refE
    obtain ⟨us, ⟨n, hl⟩, rs⟩ := G.listE hx hp
    exact getMethod_list_of hs hty (Heap.PlainList.isList ⟨n, hl⟩) ⟨_, hl, rfl⟩ h
theorem on_acc (W : X.Ok) (e : mthOf name = some mt) (ha : isAcc mt = true) (hr : recv .push o σ = true) (G : StG X.hB X.os X.N.acc ρ σ s) (r : RelV X.hB ρ s.heap o ov) (h : Q (mthVal X.N mt, [ov]) s) :
    wpAny (model X.prog X.w) A (getMethod ov name pl) Q E s := by
  have hr : (match asRef o with | some r => isAccAt σ r | none => false) = true := hr
  cases ho : asRef o with
  | none => rw [ho] at hr; cases hr
  | some i =>
    rw [ho] at hr
    cases asRef_inv ho
    obtain ⟨sz, xs, hx⟩ := isAccAt_inv hr
    obtain ⟨p, hp, rfl⟩ := r.refE
    obtain ⟨us, ha', _⟩ := G.cell _ _ _ hx hp
    exact (W.wld.meth name mt e ha s.heap p.1 p.2 sz _ G.base ha' pl).here h
theorem on_str {l : Option (List Nat)} (hl : asStr o = l) (hr : l.isSome = true) (r : RelV X.hB ρ s.heap o ov) : ∃ x t, ov = .str x t := by
  cases l with
  | none => cases hr
  | some l =>
    cases asStr_inv hl
    obtain ⟨t, rfl⟩ := r.strE
    exact ⟨_, t, rfl⟩
theorem mth_ok (W : X.Ok) (e : mthOf name = some mt) (hr : recv mt o σ = true) (G : StG X.hB X.os X.N.acc ρ σ s) (r : RelV X.hB ρ s.heap o ov) (h : Q (mthVal X.N mt, [ov]) s) : wpAny (model X.prog X.w) A (getMethod ov name pl) Q E s := by
  cases mt with
  | join =>
    have hn : name = ("join" : Str) := mth_name e
    subst hn
    obtain ⟨_, _, rfl⟩ := on_str rfl hr r
    exact GM.join h
  | append =>
    have hn : name = ("append" : Str) := mth_name e
    subst hn
    exact on_list PySem.F.slot_list_append PySem.F.type_list_append hr G r h
  | push => exact on_acc W e rfl hr G r h
  | pop => exact on_acc W e rfl hr G r h
  | partCount => exact on_acc W e rfl hr G r h
end

theorem snd_mth {o : PySem.Expr} {name : Str} {apos pos : Pos} {es : List PySem.Expr} (W : X.Ok) (ho : SndE X o) (hs : ∀ e ∈ es, SndE X e) : SndE X (.Call (.Attribute o name apos) es [] pos) := by
  intro m σ v σ' A env ρ s Q ok e hA S K
  obtain ⟨ok, oks⟩ := and2 (b := okEs X.kn env.scope es) ok
  obtain ⟨ok, oko⟩ := and2 ok
  obtain ⟨hc, hline, hlen⟩ := and3 ok
  have hlen := of_decide_eq_true hlen
  have hc := Bool.not_eq_true' _ ▸ hc
  obtain ⟨mt, hm, e1⟩ := bind1_inv e
  obtain ⟨ov, σ1, h1, e2⟩ := bind2_inv e1
  obtain ⟨hr, e3⟩ := guard_inv e2
  obtain ⟨vs, σ2, h2, e4⟩ := bind2_inv e3
  clear e e1 e2 e3
  rw [arm_eval_Call, base_plain hc]
  refine wpAny_bind (ho m σ ov σ1 A env ρ s _ oko h1 hA S fun x s1 ρ1 T1 G1 r1 => wpAny_bind (wpAny_standAt ?_))
  have hform : methodCallForm (es.length + ([] : List Keyword).length) (backTo pos (starEach es env)) (backToKw pos (keywordEach [] env)) = true := by
    unfold methodCallForm
    rw [okEs_len oks]
    show (true && true && decide (es.length + 0 + 0 < 30)) = true
    simp; omega
  have hpos : methodCallPos true o env apos pos = pure pos := by unfold methodCallPos; simp [hline]
  unfold methodCall
  rw [hform]
  refine wpAny_bind (wpAny_holding (mth_ok W hm hr G1 r1 ?_))
  refine wpAny_bind (wpAny_of_eq hpos ?_)
  have KK : Kp X (mthVal X.N mt) := by
    cases mt <;> first | exact kp_builtin | exact W.wld.keepM _ rfl
  refine callWith_all KK oks (snd_each hs m σ1 vs σ2 A env ρ1 s1 pos _ oks h2 hA (S.step T1 G1) fun ys s2 ρ2 T2 G2 r2 => ?_)
  exact ⟨G2.base, methCall_ok W.call hA e4 G2 (T2.rel G1 r1) r2 (K.step (T1.trans T2))⟩
end
end Mine
end

section
open PySem PySem.W PyProof.Rows PySem.Calls PySem.SeqAt
set_option maxRecDepth 100000
set_option linter.unusedSimpArgs false
namespace Mine
section
variable {X : Cx}

theorem evs_one {O : Oracle} {m : Loc} {x : PySem.Expr} {σ σ' : Sto} {a : AV} (h : ev O m x σ = some (a, σ')) : evs O m [x] σ = some ([a], σ') := by
  show (bind2 (ev O m x σ) fun v σ1 => bind2 (some (([] : List AV), σ1)) fun vs σ2 => some (v :: vs, σ2)) = _
  rw [h]; rfl
theorem RelVs.one {n₀ : Heap} {ρ : Rho} {h : Heap} {a : AV} {vs : List Value} (r : RelVs n₀ ρ h [a] vs) : ∃ va, vs = [va] ∧ RelV n₀ ρ h a va :=
  let ⟨v, r1, e⟩ := r.oneE
  ⟨v, e, r1⟩

theorem cmpQ_str {op : CmpOp} {a b : AV} {c : Bool} (e : cmpQ op a b = some c) : ∃ x y, a = .str x ∧ b = .str y := by
  obtain ⟨x, h1, e⟩ := bind1_inv e
  obtain ⟨y, h2, _⟩ := bind1_inv e
  exact ⟨x, y, asStr_inv h1, asStr_inv h2⟩
theorem cmpQ_op {op : CmpOp} {x y : List Nat} {c : Bool} (e : cmpQ op (.str x) (.str y) = some c) : (op = .GtE ∧ (!ltL x y) = c) ∨ (op = .LtE ∧ (!ltL y x) = c) := by
  refine Classical.byContradiction fun hn => ?_
  cases op with
  | GtE => exact hn (.inl ⟨rfl, Option.some.inj e⟩)
  | LtE => exact hn (.inr ⟨rfl, Option.some.inj e⟩)
  | _ => exact nn e
theorem ff {P : Prop} (h : false = true) : P := Bool.noConfusion h
theorem isQN_inv {f : PySem.Expr} (h : isQN f = true) : ∃ p, f = .Name qname p := by
  refine Classical.byContradiction fun hn => ?_
  cases f with
  | Name x p => exact hn ⟨p, by rw [beq_iff_eq.mp h]⟩
  | _ => exact ff h
theorem isQ_inv {l : PySem.Expr} (h : isQ l = true) : ∃ pf x pc, l = .Call (.Name qname pf) [x] [] pc := by
  refine Classical.byContradiction fun hn => ?_
  cases l with
  | Call f args ks pc =>
    obtain ⟨h1, h2, h3⟩ := and3 h
    obtain ⟨pf, rfl⟩ := isQN_inv h1
    match args, ks, h2, h3 with
    | [x], [], _, _ => exact hn ⟨pf, x, pc, rfl⟩
  | _ => exact ff h

/-- a call of QName by a text's expression -/
theorem q_call {x : PySem.Expr} {pf pc : Pos} (W : X.Ok) (hx : SndE X x) {m : Loc} {σ σ' : Sto} {v : AV} {A : Around} {env : Env} {ρ : Rho} {s : Shared} {Q : Value → Shared → Prop}
    (ok : okE X.kn env.scope (.Call (.Name qname pf) [x] [] pc) = true) (e : evQ X.O m (.Call (.Name qname pf) [x] [] pc) σ = some (v, σ')) (hA : AOk X.d A) (S : St X.hB X.os X.N.acc env m ρ σ s)
    (K : X.Kont ρ s v σ' fun val s1 => (∀ b o, X.hB.get? b = some o → s1.heap.get? b = some o) → wpAny (model X.prog X.w) A (call (.ref X.qn) [val]) Q Fls s1) :
    wpAny (model X.prog X.w) A (eval (.Call (.Name qname pf) [x] [] pc) env) Q Fls s := by
  obtain ⟨vs, σ1, h1, e1⟩ := bind2_inv e
  obtain ⟨u, h2, e2⟩ := bind1_inv e1
  rw [one_inv h2] at h1
  obtain ⟨ok, _⟩ := and2 (b := (X.kn qname || (bifOf qname).isSome || qname == qname)) ok
  obtain ⟨ok, oks⟩ := and2 ok
  obtain ⟨hk, hd, _⟩ := and3 ok
  have hk := beq_iff_eq.mp hk
  have hd' : (qname == ("__debug__" : Str)) = false := by simpa using hd
  refine call_name W.wld.keepQ oks S.f.kind hk hd' S.g.base (W.wld.q env S.f.glob S.f.bui) ?_
  refine snd_each (fun z hz => by rw [List.mem_singleton.mp hz]; exact hx) m σ _ σ1 A env ρ s pc _ oks h1 hA S fun ys s1 ρ1 T1 G1 rs => ⟨G1.base, ?_⟩
  obtain ⟨val, r, rfl⟩ := rs.oneE
  exact K.of e2 val s1 ρ1 T1 G1 r G1.base

/-- how a comparison runs -/
theorem ev_cmp_inv {O : Oracle} {m : Loc} {l : PySem.Expr} {ops : List CmpOp} {rs : List PySem.Expr} {p : Pos} {σ : Sto} {q : AV × Sto} (e : ev O m (.Compare l ops rs p) σ = some q) : ∃ op r, ops = [op] ∧ rs = [r] ∧
    (if isQ l then (if isQ r then bind2 (evQ O m l σ) fun a σ1 => bind2 (evQ O m r σ1) fun b σ2 => bind1 (cmpQ op a b) fun c => some (.bool c, σ2) else none)
      else bind2 (ev O m l σ) fun a σ1 => bind2 (ev O m r σ1) fun b σ2 => bind1 (cmpop op a b σ2) fun c => some (.bool c, σ2)) = some q := by
  rcases ops with _ | ⟨op, _ | ⟨_, _⟩⟩
  · cases e
  · rcases rs with _ | ⟨r, _ | ⟨_, _⟩⟩
    · cases e
    · exact ⟨op, r, rfl, rfl, e⟩
    · cases e
  · cases e
theorem cmp_q {l r : PySem.Expr} {op : CmpOp} (W : X.Ok) (hx : ∀ f x q, l = .Call f [x] [] q → SndE X x) (hy : ∀ f x q, r = .Call f [x] [] q → SndE X x)
    {m : Loc} {σ σ1 σ' : Sto} {a b : AV} {c : Bool} {A : Around} {env : Env} {ρ : Rho} {s : Shared} (okl : okE X.kn env.scope l = true) (okr : okE X.kn env.scope r = true) (q : isQ l = true) (q2 : isQ r = true) (h1 : evQ X.O m l σ = some (a, σ1)) (h2 : evQ X.O m r σ1 = some (b, σ')) (h3 : cmpQ op a b = some c) (hA : AOk X.d A)
    (S : St X.hB X.os X.N.acc env m ρ σ s) {Q : Value → Shared → Prop} (K : X.Kont ρ s (.bool c) σ' Q) : wpAny (model X.prog X.w) A (eval l env) (fun a s₁ => wpAny (model X.prog X.w) A (eval r env) (fun b s₂ =>
      wpAny (model X.prog X.w) A (compareOp op a b) Q Fls s₂) Fls s₁) Fls s := by
  obtain ⟨pf, x, pc, rfl⟩ := isQ_inv q
  obtain ⟨pg, y, pd, rfl⟩ := isQ_inv q2
  obtain ⟨a', b', rfl, rfl⟩ := cmpQ_str h3
  refine q_call W (hx _ _ _ rfl) okl h1 hA S fun va s1 ρ1 T1 G1 r1 _ => ?_
  obtain ⟨_, rfl⟩ := r1.strE
  refine wpAny_mono (W.q op _ _ c h3 A ρ1 σ1 s1 _ hA G1) (fun q1 s2 ⟨⟨T2, G2⟩, hq⟩ => ?_) fun _ _ x => x
  refine q_call W (hy _ _ _ rfl) okr h2 hA (S.step (T1.trans T2) G2) fun vb s3 ρ3 T3 G3 r3 _ => ?_
  obtain ⟨_, rfl⟩ := r3.strE
  exact wpAny_mono (hq ρ3 _ s3 _ T3 G3) (fun q2 s4 h => wpAny_mono h (fun _ _ h => (K.step ((T1.trans T2).trans T3)).post h) fun _ _ x => x) fun _ _ x => x
theorem cmp_inv2 {O : Oracle} {m : Loc} {l r : PySem.Expr} {op : CmpOp} {σ σ' : Sto} {v : AV} (e : (if isQ l then (if isQ r then bind2 (evQ O m l σ) fun a σ1 => bind2 (evQ O m r σ1) fun b σ2 => bind1 (cmpQ op a b) fun c => some (.bool c, σ2) else none)
      else bind2 (ev O m l σ) fun a σ1 => bind2 (ev O m r σ1) fun b σ2 => bind1 (cmpop op a b σ2) fun c => some (.bool c, σ2)) = some (v, σ')) : ∃ a σ1 b c, v = .bool c ∧
      ((isQ l = true ∧ isQ r = true ∧ evQ O m l σ = some (a, σ1) ∧ evQ O m r σ1 = some (b, σ') ∧ cmpQ op a b = some c) ∨ (ev O m l σ = some (a, σ1) ∧ ev O m r σ1 = some (b, σ') ∧ cmpop op a b σ' = some c)) := by
  by_cases q : isQ l = true
  · rw [if_pos q] at e
    obtain ⟨q2, e⟩ := guard_inv e
    obtain ⟨a, σ1, h1, e1⟩ := bind2_inv e
    obtain ⟨b, σ2, h2, e2⟩ := bind2_inv e1
    obtain ⟨c, h3, e3⟩ := bind1_inv e2
    have hv := Prod.mk.inj (Option.some.inj e3)
    exact ⟨a, σ1, b, c, hv.1.symm, .inl ⟨q, q2, h1, hv.2 ▸ h2, h3⟩⟩
  · rw [if_neg q] at e
    obtain ⟨a, σ1, h1, e1⟩ := bind2_inv e
    obtain ⟨b, σ2, h2, e2⟩ := bind2_inv e1
    obtain ⟨c, h3, e3⟩ := bind1_inv e2
    have hv := Prod.mk.inj (Option.some.inj e3)
    exact ⟨a, σ1, b, c, hv.1.symm, .inr ⟨h1, hv.2 ▸ h2, hv.2 ▸ h3⟩⟩
theorem cmp_core {l r : PySem.Expr} {op : CmpOp} {p : Pos} (W : X.Ok) (hl : SndE X l) (hr : SndE X r) (hx : ∀ f x q, l = .Call f [x] [] q → SndE X x) (hy : ∀ f x q, r = .Call f [x] [] q → SndE X x)
    {m : Loc} {σ σ' : Sto} {v : AV} {A : Around} {env : Env} {ρ : Rho} {s : Shared} (okl : okE X.kn env.scope l = true) (okr : okE X.kn env.scope r = true) (e : ev X.O m (.Compare l [op] [r] p) σ = some (v, σ')) (hA : AOk X.d A)
    (S : St X.hB X.os X.N.acc env m ρ σ s) : ∃ c, v = .bool c ∧ ∀ Q, X.Kont ρ s (.bool c) σ' Q → wpAny (model X.prog X.w) A (eval l env) (fun a s₁ => wpAny (model X.prog X.w) A (eval r env) (fun b s₂ =>
      wpAny (model X.prog X.w) A (compareOp op a b) Q Fls s₂) Fls s₁) Fls s := by
  obtain ⟨a, σ1, b, c, hv, h⟩ := cmp_inv2 (op := op) (r := r) e
  refine ⟨c, hv, fun Q K => ?_⟩
  rcases h with ⟨q, q2, h1, h2, h3⟩ | ⟨h1, h2, h3⟩
  · exact cmp_q W hx hy okl okr q q2 h1 h2 h3 hA S K
  · refine hl m σ a σ1 A env ρ s _ okl h1 hA S fun x s1 ρ1 T1 G1 r1 => ?_
    refine hr m σ1 b _ A env ρ1 s1 _ okr h2 hA (S.step T1 G1) fun y s2 ρ2 T2 G2 r2 => ?_
    exact cmpop_ok h3 G2 (T2.rel G1 r1) r2 (by have := hA.line; omega) ((K.step (T1.trans T2)).now G2 (.bool c) s2.toks)

theorem snd_cmp {l : PySem.Expr} {ops : List CmpOp} {rs : List PySem.Expr} {p : Pos} (W : X.Ok) (hl : SndE X l) (hr : ∀ r ∈ rs, SndE X r) (hx : ∀ f x q, l = .Call f [x] [] q → SndE X x) (hy : ∀ r ∈ rs, ∀ f x q, r = .Call f [x] [] q → SndE X x) :
    SndE X (.Compare l ops rs p) := by
  intro m σ v σ' A env ρ s Q ok e hA S K
  obtain ⟨op, r, rfl, rfl, _⟩ := ev_cmp_inv e
  have ok := (and2 ok).1
  obtain ⟨okl, okr⟩ := and2 ok
  have okr := (and2 (a := okE X.kn env.scope r) okr).1
  obtain ⟨c, rfl, h⟩ := cmp_core W hl (hr r (by simp)) hx (hy r (by simp)) okl okr e hA S
  exact wpAny_Compare1 (h Q K) (okE_noMarks okr op)
theorem snt_cmp {l : PySem.Expr} {ops : List CmpOp} {rs : List PySem.Expr} {p : Pos} (W : X.Ok) (hl : SndE X l) (hr : ∀ r ∈ rs, SndE X r) (hx : ∀ f x q, l = .Call f [x] [] q → SndE X x) (hy : ∀ r ∈ rs, ∀ f x q, r = .Call f [x] [] q → SndE X x) :
    SndT X (.Compare l ops rs p) := by
  intro m σ b σ' A env ρ s Q ok e hA S K
  have e := byV_inv e
  obtain ⟨op, r, rfl, rfl, _⟩ := ev_cmp_inv e
  have ok := (and2 ok).1
  obtain ⟨okl, okr⟩ := and2 ok
  have okr := (and2 (a := okE X.kn env.scope r) okr).1
  obtain ⟨c, hc, h⟩ := cmp_core W hl (hr r (by simp)) hx (hy r (by simp)) okl okr e hA S
  cases hc
  exact wpAny_isTrue_Compare1 (h _ fun x s1 ρ1 T1 G1 r1 => by rw [r1.boolE]; exact wpAny_truthy_bool (K s1 ρ1 T1 G1)) (okE_noMarks okr op)

/-- a test by its value -/
theorem snt_value {e : PySem.Expr} (he : SndE X e) (hi : ∀ env whole, isTrue e env whole = (do let v ← whole; standAt e.pos; holding [v] (truthy v)))
    (ht : ∀ O m σ whole, tr O m e σ whole = byV whole) : SndT X e := by
  intro m σ b σ' A env ρ s Q ok e' hA S K
  have h := byV_inv ((ht _ _ _ _).symm.trans e')
  exact wpAny_isTrue_value (he m σ _ σ' A env ρ s _ ok h hA S fun x s1 ρ1 T1 G1 r1 => by rw [r1.boolE]; exact wpAny_truthy_bool (K s1 ρ1 T1 G1)) (hi _ _)

theorem snt_not {x : PySem.Expr} {p : Pos} (hx : SndT X x) : SndT X (.UnaryOp .Not x p) := by
  intro m σ b σ' A env ρ s Q ok e hA S K
  obtain ⟨c, σ1, h, e1⟩ := bind2_inv e
  exact wpAny_isTrue_Not (hx m σ c σ1 A env ρ s _ ok h hA S fun s1 ρ1 T1 G1 => K.of e1 s1 ρ1 T1 G1)
theorem snt_bool {op : BoolOp} {es : List PySem.Expr} {p : Pos} (hs : ∀ e ∈ es, SndT X e) : SndT X (.BoolOp op es p) := fun m σ b σ' A env ρ s Q ok e hA S K =>
  wpAny_isTrue_BoolOp (snd_all hs m σ b σ' A env ρ s Q ok e hA S K)

/-- a slice's bound -/
noncomputable def OptR (n₀ : Heap) (ρ : Rho) (h : Heap) : Option AV → Value → Prop
  | none, y => y = .none
  | some a, y => RelV n₀ ρ h a y
theorem part_ok' {n₀ : Heap} {ρ : Rho} {h : Heap} {b : Option AV} {b' : Option Int} {y : Value} (e : bound b = some b') (r : OptR n₀ ρ h b y) : ∃ t, y = partValue (b'.map fun i => (i, t)) := by
  cases b with
  | none => cases e; exact ⟨0, r⟩
  | some a =>
    obtain ⟨i, h1, e1⟩ := bind1_inv e
    obtain ⟨_, e2⟩ := guard_inv e1
    cases e2
    cases asInt_inv h1
    obtain ⟨t, rfl⟩ := RelV.intE r
    exact ⟨t, rfl⟩

theorem snd_part {o : Option PySem.Expr} (ho : ∀ e, o = some e → SndE X e) {m : Loc} {σ σ' : Sto} {x : Option AV} {A : Around} {env : Env} {ρ : Rho} {s : Shared} {Q : Value → Shared → Prop} (ok : okO X.kn env.scope o = true) (e : evOpt X.O m o σ = some (x, σ'))
    (hA : AOk X.d A) (S : St X.hB X.os X.N.acc env m ρ σ s) (K : ∀ y s1 ρ1, Step ρ s ρ1 s1 → StG X.hB X.os X.N.acc ρ1 σ' s1 → OptR X.hB ρ1 s1.heap x y → Q y s1) : wpAny (model X.prog X.w) A (evalPart o env) Q Fls s := by
  cases o with
  | none =>
    cases e
    exact wpAny_evalPart_none (K _ _ ρ (.refl S.g) S.g rfl)
  | some a =>
    obtain ⟨u, σ1, h, e1⟩ := bind2_inv e
    cases e1
    exact wpAny_evalPart_some (ho a rfl m σ u _ A env ρ s _ ok h hA S K)

theorem isSl_inv {i : PySem.Expr} (h : isSl i = true) : ∃ lo hi st q, i = .Slice lo hi st q := by
  refine Classical.byContradiction fun hn => ?_
  cases i with
  | Slice lo hi st q => exact hn ⟨lo, hi, st, q, rfl⟩
  | _ => exact ff h
theorem snd_slice {v : PySem.Expr} {lo hi st : Option PySem.Expr} {q p : Pos} (hv : SndE X v) (h1 : ∀ e, lo = some e → SndE X e) (h2 : ∀ e, hi = some e → SndE X e) (h3 : ∀ e, st = some e → SndE X e) :
    SndE X (.Subscript v (.Slice lo hi st q) p) := by
  intro m σ w σ' A env ρ s Q ok e hA S K
  obtain ⟨okv, oks⟩ := and2 ok
  obtain ⟨ok1, ok2, ok3⟩ := and3 (a := okO X.kn env.scope lo) (b := okO X.kn env.scope hi) (c := okO X.kn env.scope st) oks
  obtain ⟨a, σ1, e1, f1⟩ := bind2_inv e
  obtain ⟨z, σ4, e0, f2⟩ := bind2_inv (o := evSl X.O m (.Slice lo hi st q) σ1) f1
  obtain ⟨x, σ2, e2, f3⟩ := bind2_inv e0
  obtain ⟨y, σ3, e3, f4⟩ := bind2_inv f3
  obtain ⟨z', σ5, e4, f5⟩ := bind2_inv f4
  obtain ⟨x', b1, f6⟩ := bind1_inv f5
  obtain ⟨y', b2, f7⟩ := bind1_inv f6
  obtain ⟨z'', b3, f8⟩ := bind1_inv f7
  cases f8
  clear e f1 e0 f3 f4 f5 f6 f7
  rw [eval_Subscript]
  refine wpAny_bind (hv m σ a σ1 A env ρ s _ okv e1 hA S fun va s1 ρ1 T1 G1 r1 => ?_)
  have S1 := S.step T1 G1
  refine wpAny_bind (wpAny_holding (wpAny_Slice (snd_part h1 ok1 e2 hA S1 fun vl s2 ρ2 T2 G2 r2 => ?_)))
  have S2 := S1.step T2 G2
  refine snd_part h2 ok2 e3 hA S2 fun vh s3 ρ3 T3 G3 r3 => ?_
  refine snd_part h3 ok3 e4 hA (S2.step T3 G3) fun vs s4 ρ4 T4 G4 r4 => ?_
  obtain ⟨t1, rfl⟩ := part_ok' b1 r2
  obtain ⟨t2, rfl⟩ := part_ok' b2 r3
  obtain ⟨t3, rfl⟩ := part_ok' b3 r4
  refine wpAny_bind (wpAny_standAt ?_)
  have Gp := G4.push { cls := .type "slice", data := .fields #[partValue (x'.map fun i => (i, t1)), partValue (y'.map fun i => (i, t2)), partValue (z''.map fun i => (i, t3))] } s4.toks
  have Tp := Step.push G4 { cls := .type "slice", data := .fields #[partValue (x'.map fun i => (i, t1)), partValue (y'.map fun i => (i, t2)), partValue (z''.map fun i => (i, t3))] } s4.toks
  have T24 := (T2.trans T3).trans T4
  exact slc_ok (value := v) (slice := .Slice lo hi st q) f2 Gp (Tp.rel G4 (T24.rel G1 r1)) ⟨_, Heap.get?_push_size _ rfl, rfl, rfl⟩ (K.step ((T1.trans T24).trans Tp))
theorem snd_sub {v i : PySem.Expr} {p : Pos} (hn : isSl i = false) (hv : SndE X v) (hi : SndE X i) : SndE X (.Subscript v i p) := by
  intro m σ w σ' A env ρ s Q ok e hA S K
  obtain ⟨okv, oki⟩ := and2 ok
  rw [hn] at oki
  obtain ⟨a, σ1, h1, e1⟩ := bind2_inv e
  rw [hn] at e1
  obtain ⟨b, σ2, h2, e2⟩ := bind2_inv (o := ev X.O m i σ1) e1
  obtain ⟨u, h3, e3⟩ := bind1_inv e2
  have K := K.of e3
  rw [eval_Subscript]
  refine wpAny_bind (hv m σ a σ1 A env ρ s _ okv h1 hA S fun x s1 ρ1 T1 G1 r1 => ?_)
  refine wpAny_bind (wpAny_holding (hi m σ1 b σ2 A env ρ1 s1 _ oki h2 hA (S.step T1 G1) fun y s2 ρ2 T2 G2 r2 => ?_))
  exact wpAny_bind (wpAny_standAt (subs_ok (slice := i) (value := v) h3 G2 (T2.rel G1 r1) r2 (K.step (T1.trans T2))))
end
end Mine
end

section
open PySem PySem.W PyProof.Rows PySem.Calls PySem.SeqAt
set_option maxRecDepth 100000
set_option linter.unusedSimpArgs false
namespace Mine

theorem cellsFrom_app : ∀ (names : List (Str × NameKind)) (n : Nat) (acc : List (Str × Addr)), cellsFrom n names acc = cellsFrom n names [] ++ acc
  | [], n, acc => rfl
  | (x, k) :: r, n, acc => by
    unfold cellsFrom
    split
    · rw [cellsFrom_app r (n + 1) ((x, n) :: acc), cellsFrom_app r (n + 1) [(x, n)]]; simp
    · exact cellsFrom_app r n acc
theorem cellsFrom_kind : ∀ (names : List (Str × NameKind)) (n : Nat) (x : Str) (c : Addr), (x, c) ∈ cellsFrom n names [] → (x, NameKind.cell) ∈ names
  | [], n, x, c, h => by cases h
  | (y, k) :: r, n, x, c, h => by
    unfold cellsFrom at h
    split at h
    · rename_i hk
      rw [cellsFrom_app] at h
      rcases List.mem_append.mp h with q | q
      · exact List.mem_cons_of_mem _ (cellsFrom_kind r _ x c q)
      · simp at q
        obtain ⟨rfl, rfl⟩ := q
        rw [beq_iff_eq.mp hk]; exact List.mem_cons_self
    · exact List.mem_cons_of_mem _ (cellsFrom_kind r _ x c h)
theorem cellsFrom_has : ∀ (names : List (Str × NameKind)) (n : Nat) (x : Str), (x, NameKind.cell) ∈ names → ∃ c, (x, c) ∈ cellsFrom n names []
  | [], n, x, h => by cases h
  | (y, k) :: r, n, x, h => by
    unfold cellsFrom
    rcases List.mem_cons.mp h with q | q
    · cases q
      rw [if_pos (by rfl), cellsFrom_app]
      exact ⟨n, List.mem_append_right _ (by simp)⟩
    · split
      · rw [cellsFrom_app]
        obtain ⟨c, hc⟩ := cellsFrom_has r (n + 1) x q
        exact ⟨c, List.mem_append_left _ hc⟩
      · exact cellsFrom_has r n x q
theorem lookup_of_mem {α : Type} : ∀ {l : List (Str × α)} {n : Str} {c : α}, (n, c) ∈ l → ∃ c', l.lookup n = some c'
  | (k, v) :: r, n, c, h => by
    rw [List.lookup_cons]
    cases hb : n == k with
    | true => exact ⟨v, rfl⟩
    | false =>
      rcases List.mem_cons.mp h with e | e
      · cases e; simp at hb
      · exact lookup_of_mem e
theorem lookup_none_of {α : Type} {l : List (Str × α)} {n : Str} (h : l.lookup n = none) (c : α) : (n, c) ∉ l := fun m => by
  obtain ⟨c', e⟩ := lookup_of_mem m
  rw [h] at e; cases e
theorem nodup_lookup {α : Type} : ∀ {l : List (Str × α)}, (l.map (·.1)).Nodup → ∀ {n : Str} {c : α}, (n, c) ∈ l → l.lookup n = some c
  | (k, v) :: r, hn, n, c, h => by
    rw [List.map_cons, List.nodup_cons] at hn
    rw [List.lookup_cons]
    rcases List.mem_cons.mp h with e | e
    · cases e; simp
    · have : n ≠ k := fun q => hn.1 (q ▸ List.mem_map.mpr ⟨_, e, rfl⟩)
      have hb : (n == k) = false := by simpa using this
      rw [hb]
      exact nodup_lookup hn.2 e

theorem lookup_map_kind (f : Str → NameKind → NameKind) : ∀ (l : List (Str × NameKind)) (x : Str), (l.map fun (n, k) => (n, f n k)).lookup x = (l.lookup x).map (f x)
  | [], x => rfl
  | (n, k) :: r, x => by
    rw [List.map_cons, List.lookup_cons, List.lookup_cons]
    cases hb : x == n with
    | true => rw [← beq_iff_eq.mp hb]; rfl
    | false => exact lookup_map_kind f r x

noncomputable def reK (outer : Scope) (n : Str) (k : NameKind) : NameKind := if (k == .free && outer.kind == .function && outer.names.lookup n == some .cell) then .cell else k
theorem relabelS_lookup (scope outer : Scope) (x : Str) : (relabelS scope outer).names.lookup x = (scope.names.lookup x).map (reK outer x) := by
  rw [← lookup_map_kind (reK outer)]
  show List.lookup x (scope.names.map _) = _
  congr 1
  refine List.map_congr_left fun p _ => ?_
  obtain ⟨n, k⟩ := p
  show (if (k == NameKind.free && outer.kind == .function && outer.names.lookup n == some .cell) = true then (n, NameKind.cell) else (n, k)) = (n, reK outer n k)
  unfold reK
  by_cases h : (k == NameKind.free && outer.kind == .function && outer.names.lookup n == some .cell) = true
  · rw [if_pos h, if_pos h]
  · rw [if_neg h, if_neg h]

section
variable {M : Model} {A : Around} {E : Value → Shared → Prop} {s : Shared} {env : Env}

theorem closure_ok (f : Str × NameKind → List (Str × Addr) → Sem (ForInStep (List (Str × Addr))))
    (hf : ∀ n k cs, f (n, k) cs = if k == .free then (cellOf env n >>= fun c => pure (.yield ((n, c) :: cs))) else pure (.yield cs)) :
    ∀ (names : List (Str × NameKind)) (cs : List (Str × Addr)), (∀ x ∈ names, x.2 = .free → ∃ c, env.cells.lookup x.1 = some c) →
      ∃ cl, forIn names cs f = pure cl ∧ (∀ x c, (x, c) ∈ cl → (x, c) ∈ cs ∨ ((x, NameKind.free) ∈ names ∧ env.cells.lookup x = some c)) ∧ (∀ x, (x, NameKind.free) ∈ names → ∃ c, (x, c) ∈ cl) ∧ (∀ q ∈ cs, q ∈ cl)
  | [], cs, _ => ⟨cs, rfl, fun _ _ h => .inl h, fun _ h => (by cases h), fun _ h => h⟩
  | (n, k) :: r, cs, h => by
    have hr : ∀ x ∈ r, x.2 = .free → ∃ c, env.cells.lookup x.1 = some c := fun x hx => h x (List.mem_cons_of_mem _ hx)
    by_cases hk : k = .free
    · subst hk
      obtain ⟨c, hc⟩ := h (n, .free) List.mem_cons_self rfl
      obtain ⟨cl, e, a, b, d⟩ := closure_ok f hf r ((n, c) :: cs) hr
      refine ⟨cl, ?_, fun x c' hx => ?_, fun x hx => ?_, fun q hq => d q (List.mem_cons_of_mem _ hq)⟩
      · rw [List.forIn_cons, hf, if_pos (by rfl)]
        unfold cellOf
        rw [hc]
        simp only [pure_bind]
        exact e
      · rcases a x c' hx with q | q
        · rcases List.mem_cons.mp q with z | z
          · cases z; exact .inr ⟨List.mem_cons_self, hc⟩
          · exact .inl z
        · exact .inr ⟨List.mem_cons_of_mem _ q.1, q.2⟩
      · rcases List.mem_cons.mp hx with z | z
        · cases z; exact ⟨c, d _ List.mem_cons_self⟩
        · exact b x z
    · have hb : (k == NameKind.free) = false := by simpa using hk
      obtain ⟨cl, e, a, b, d⟩ := closure_ok f hf r cs hr
      refine ⟨cl, ?_, fun x c' hx => ?_, fun x hx => ?_, d⟩
      · rw [List.forIn_cons, hf, hb, if_neg Bool.false_ne_true]
        simp only [pure_bind]
        exact e
      · rcases a x c' hx with q | q
        · exact .inl q
        · exact .inr ⟨List.mem_cons_of_mem _ q.1, q.2⟩
      · rcases List.mem_cons.mp hx with z | z
        · cases z; exact absurd rfl hk
        · exact b x z

theorem closureFor_ok {scope : Scope} (h : ∀ x ∈ scope.names, x.2 = .free → ∃ c, env.cells.lookup x.1 = some c) :
    ∃ cl, closureFor scope env = pure cl ∧ (∀ x c, (x, c) ∈ cl → (x, NameKind.free) ∈ scope.names ∧ env.cells.lookup x = some c) ∧ (∀ x, (x, NameKind.free) ∈ scope.names → ∃ c, (x, c) ∈ cl) := by
  unfold closureFor
  obtain ⟨cl, e, a, b, _⟩ := closure_ok (env := env) (fun (p : Str × NameKind) (cs : List (Str × Addr)) => if p.2 == NameKind.free then (cellOf env p.1 >>= fun c => pure (.yield ((p.1, c) :: cs))) else pure (.yield cs)) (fun _ _ _ => rfl) scope.names [] h
  refine ⟨cl, ?_, fun x c hx => (a x c hx).resolve_left (by simp), b⟩
  have : (forIn scope.names [] fun (x : Str × NameKind) (r : List (Str × Addr)) => (if x.2 == NameKind.free then (cellOf env x.1 >>= fun c => pure (ForInStep.yield ((x.1, c) :: r))) else pure (ForInStep.yield r) : Sem _)) = pure cl := e
  simp only [bind_pure]
  exact this

theorem newEnv_comp {scope : Scope} {globals : Addr} {cl : List (Str × Addr)} {qual : Str} {Q : Env → Shared → Prop}
    (h : Q (newEnv scope s.heap.objs.size globals (cellsFrom (s.heap.objs.size + 1) scope.names cl) qual none .none (some env) builtinsNs) { s with heap := pushCells (s.heap.push { cls := .type "dict", data := .dict #[] }) scope.names }) :
    wpAny M A (newFunctionEnv scope globals cl [] qual none .none (some env)) Q E s := by
  simp only [newFunctionEnv, Option.isSome_some, if_true]
  refine wpAny_bind (wpAny_alloc ?_)
  refine wpAny_bind (wpAny_layCells _ (fun name kind cells => by cases hkc : kind == NameKind.cell <;> simp []) _ _ _ _ ?_)
  rw [show ({ s with heap := s.heap.push { cls := .type "dict", data := .dict #[] } } : Shared).heap.objs.size = s.heap.objs.size + 1 from Heap.size_push ..]
  refine wpAny_bind ?_
  rw [List.forIn_nil]
  exact wpAny_pure (wpAny_pure h)
end

section
variable {prog : Program} {w : World} {A : Around} {R : Result → Shared → Prop} {s : Shared}

/-- the turns of a comprehension -/
theorem comp_loop {elt target iter : PySem.Expr} {ifs : List PySem.Expr} {scope : Scope} {pos : Pos} {it acc : Value} {env : Env} (I : Nat → Shared → Prop)
    (turn : ∀ n s, I n s → wpAny (model prog w) A (pyNext it) (fun r s₁ => match r with
      | none => R (.ok .next) s₁
      | some v => wpAny (model prog w) A (letOwnedTupleGo target it v) (fun _ s₁' => wpAny (model prog w) A (assign target env v) (fun _ s₂ =>
          wpAny (model prog w) A (forIn ifs true fun c r => if r = true then do let ok ← isTrue c env (eval c env); pure (ForInStep.yield ok) else pure (ForInStep.yield r)) (fun ok s₃ =>
            if ok = true then wpAny (model prog w) A (eval elt env) (fun x s₄ =>
              wpAny (model prog w) A (call (.builtin "list.append") [acc, x]) (fun _ s₅ => ∃ m, m < n ∧ I m s₅) Fls s₄) Fls s₃
            else ∃ m, m < n ∧ I m s₃) Fls s₂) Fls s₁') Fls s₁) Fls s)
    (n : Nat) (h : I n s) : codeAny (model prog w) A (.compLoop (.ListComp elt [⟨target, iter, ifs, 0⟩] scope pos) 0 it acc env) R s := by
  refine codeAny_loop rfl I (fun n s hI => ?_) n h
  show wpAny _ A ((compTurn (.ListComp elt [⟨target, iter, ifs, 0⟩] scope pos) 0 it acc env).onRaise (fun x => do noteFrame x env; theTreesLotGoes x)) _ _ s
  refine wpAny_noted ?_
  rw [compTurn_list]
  refine wpAny_bind (wpAny_standAt (wpAny_bind (wpAny_mono (turn n s hI) (fun r s₁ h₁ => ?_) fun _ _ f => f.elim)))
  cases r with
  | none => exact wpAny_pure h₁
  | some v =>
    refine wpAny_bind (wpAny_mono h₁ (fun _ s₁' h₁' => ?_) fun _ _ f => f.elim)
    refine wpAny_bind (wpAny_mono h₁' (fun _ s₂ h₂ => wpAny_bind (wpAny_mono h₂ (fun ok s₃ h₃ => ?_) fun _ _ f => f.elim)) fun _ _ f => f.elim)
    cases ok with
    | false => exact wpAny_pure ⟨rfl, h₃⟩
    | true =>
      exact wpAny_bind (wpAny_bind (wpAny_mono h₃ (fun x s₄ h₄ => wpAny_bind (wpAny_mono h₄ (fun _ s₅ h₅ => wpAny_pure (wpAny_pure ⟨rfl, h₅⟩)) fun _ _ f => f.elim)) fun _ _ f => f.elim))
end

section
variable {X : Cx}

/-- the tests of a comprehension -/
theorem tests_false {M : Model} {A : Around} {E : Value → Shared → Prop} {s : Shared} {env : Env} {Q : Bool → Shared → Prop} (h : Q false s) : ∀ ifs : List PySem.Expr,
    wpAny M A (forIn ifs false fun c r => if r = true then do let ok ← isTrue c env (eval c env); pure (ForInStep.yield ok) else pure (ForInStep.yield r)) Q E s
  | [] => by rw [List.forIn_nil]; exact wpAny_pure h
  | c :: r => by
    rw [List.forIn_cons, if_neg Bool.false_ne_true]
    exact wpAny_bind (wpAny_pure (tests_false h r))
theorem snd_tests : ∀ {es : List PySem.Expr}, (∀ e ∈ es, SndT X e) → ∀ m σ b σ' A env ρ s Q, okEs X.kn env.scope es = true → trs X.O m es σ = some (b, σ') → AOk X.d A →
    St X.hB X.os X.N.acc env m ρ σ s → KontB X.hB X.os X.N.acc ρ s b σ' Q →
    wpAny (model X.prog X.w) A (forIn es true fun c r => if r = true then do let ok ← isTrue c env (eval c env); pure (ForInStep.yield ok) else pure (ForInStep.yield r)) Q Fls s
  | [], _, m, σ, v, σ', A, env, ρ, s, Q, _, e, _, S, K => by
    rw [List.forIn_nil]
    exact wpAny_pure (K.of e _ ρ (.refl S.g) S.g)
  | a :: r, hs, m, σ, v, σ', A, env, ρ, s, Q, ok, e, hA, S, K => by
    have ok := and2 (a := okE X.kn env.scope a) ok
    obtain ⟨c, σ1, h1, e1⟩ := bind2_inv e
    rw [List.forIn_cons, if_pos rfl]
    refine wpAny_bind (wpAny_bind (hs a List.mem_cons_self m σ c σ1 A env ρ s _ ok.1 h1 hA S fun s1 ρ1 T1 G1 => wpAny_pure ?_))
    cases c with
    | true => exact snd_tests (fun e he => hs e (List.mem_cons_of_mem _ he)) m σ1 v σ' A env ρ1 s1 Q ok.2 e1 hA (S.step T1 G1) (K.step T1)
    | false => exact tests_false (K.of e1 s1 ρ1 T1 G1) r
end

section
variable {hB : Heap} {os : OsState} {C : Addr} {ρ ρ' : Rho} {σ σ' : Sto} {s s' : Shared} {env : Env} {m m' : Loc}

theorem NameAt.keepAt {h h' : Heap} {y : Str} {val : Value} (n : NameAt env h y val) (kl : ∀ o, h.get? env.locals = some o → h'.get? env.locals = some o)
    (kc : ∀ c, env.cells.lookup y = some c → ∀ o, h.get? c = some o → h'.get? c = some o) : NameAt env h' y val := by
  rcases n with ⟨hk, mm, hn, e⟩ | ⟨hk, c, hc, hv⟩
  · exact .inl ⟨hk, mm, Ns.keepAt hn kl, e⟩
  · exact .inr ⟨hk, c, hc, IsCell.keepAt hv (kc c hc)⟩

/-- places that are no cells and not of the frame turn -/
theorem St.side {M : Addr → Prop} (S : St hB os C env m ρ σ s) {h' : Heap} (k : KeepH M s.heap h') (hm : ∀ b, M b → Mut s.heap b ∧ hB.get? b = none) (h1 : ∀ p ∈ ρ, ¬ M p.1 ∧ ¬ M p.2)
    (h2 : ¬ M env.locals) (h3 : ∀ x c, env.cells.lookup x = some c → ¬ M c) (t : Nat) : St hB os C env m ρ σ { s with heap := h', toks := t } := by
  have F := S.f
  refine ⟨S.g.side k hm h1 t, ⟨F.kind, F.glob, F.bui, (let ⟨mm, h⟩ := F.ns; ⟨mm, Ns.keepAt h fun o e => k _ o e h2⟩), F.loL, F.cells, fun y c hy => let ⟨a, v, hv⟩ := F.cellAt y c hy; ⟨a, v, IsCell.keepAt hv fun o e => k _ o e (h3 y c hy)⟩, F.cinj, F.sepL, F.sepC⟩, fun y v e => ?_⟩
  obtain ⟨val, n, r⟩ := S.v y v e
  exact ⟨val, n.keepAt (fun o e => k _ o e h2) (fun c hc o e => k _ o e (h3 y c hc)), r.mono k hm (n := s.heap) .refl⟩

/-- a list that was no cell becomes one -/
theorem StG.adopt (G : StG hB os C ρ σ s) {D : Addr} {xs : List AV} {vs : List Value} (hd : s.heap.PlainList D vs.toArray) (R : RelVs hB ρ s.heap xs vs) (hD : hB.get? D = none) (sep : ∀ p ∈ ρ, p.1 ≠ D ∧ p.2 ≠ D) :
    StG hB os C (ρ ++ [(D, D)]) (σ ++ [.list xs]) s := by
  have gr : Grow hB ρ (ρ ++ [(D, D)]) := ⟨[(D, D)], rfl, fun p hp => by simp at hp; subst hp; exact ⟨hD, hD⟩⟩
  refine ⟨G.base, by simp [G.len], fun r c p e1 e2 => ?_, fun p hp => ?_, ?_, G.gens, G.os, fun p hp => ?_⟩
  · by_cases hr : r < σ.length
    · rw [List.getElem?_append_left hr] at e1
      rw [List.getElem?_append_left (by rw [G.len]; exact hr)] at e2
      exact (G.cell r c p e1 e2).mono (M := fun _ => False) .refl (fun _ h => h.elim) gr id (fun _ _ _ => id)
    · rw [List.getElem?_append_right (Nat.le_of_not_lt hr)] at e1
      rw [List.getElem?_append_right (by rw [G.len]; exact Nat.le_of_not_lt hr)] at e2
      rw [G.len] at e2
      generalize r - σ.length = k at e1 e2
      cases k with
      | succ k => simp at e1
      | zero =>
        simp at e1 e2
        subst e1; subst e2
        exact ⟨vs, hd, R.mono (M := fun _ => False) .refl (fun _ h => h.elim) gr⟩
  · rcases List.mem_append.mp hp with q | q
    · exact G.lo p q
    · simp at q; subst q
      exact hD
  · rw [List.map_append, List.nodup_append]
    refine ⟨G.apart, by simp, fun a ha b hb => ?_⟩
    simp at hb; subst hb
    obtain ⟨p, hp, rfl⟩ := List.mem_map.mp ha
    exact (sep p hp).1
  · rcases List.mem_append.mp hp with q | q
    · exact G.two p q
    · simp at q; subst q
      obtain ⟨k, ho⟩ := hd
      show (s.heap.get? D).isSome = true
      rw [ho]; rfl

/-- a step by places that are new since s₁ -/
theorem Step.more {M : Addr → Prop} {ρ₁ : Rho} {s₁ : Shared} (T : Step ρ₁ s₁ ρ s) (x : StepS M ρ s ρ' s') (hm : ∀ b, M b → s₁.heap.get? b = Option.none) : Step ρ₁ s₁ ρ' s' := by
  refine ⟨T.grow.trans x.grow T.none, fun b o e n => x.keep b o (T.keep b o e n) ?_, fun b h => ?_⟩
  · rintro (⟨p, hp, rfl⟩ | h)
    · rcases T.grow.mem hp with q | q
      · exact n ⟨p, q, rfl⟩
      · rw [q.1] at e; cases e
    · rw [hm b h] at e; cases e
  · obtain ⟨p, hp, rfl⟩ := h
    obtain ⟨t, rfl, _⟩ := T.grow
    exact x.lies p.1 (.inl ⟨p, List.mem_append_left _ hp, rfl⟩)
theorem Step.more' {M : Addr → Prop} {ρ₁ : Rho} {s₁ : Shared} (T : Step ρ₁ s₁ ρ s) {h' : Heap} (k : KeepH M s.heap h') (G : StG hB os C ρ σ { s with heap := h', toks := s'.toks }) (hm : ∀ b, M b → s₁.heap.get? b = Option.none) :
    Step ρ₁ s₁ ρ { s with heap := h', toks := s'.toks } := by
  refine ⟨T.grow, fun b o e n => k b o (T.keep b o e n) fun h => (by rw [hm b h] at e; cases e), fun b h => ?_⟩
  obtain ⟨p, hp, rfl⟩ := h
  obtain ⟨t, rfl, _⟩ := T.grow
  exact G.lies ⟨p, List.mem_append_left _ hp, rfl⟩
end
end Mine
end

section
open PySem PySem.W PyProof.Rows PySem.Calls PySem.SeqAt
set_option maxRecDepth 100000
set_option linter.unusedSimpArgs false
namespace Mine

section
variable {hB : Heap} {os : OsState} {C : Addr} {ρ ρ' : Rho} {σ σ' : Sto} {s s' : Shared} {env : Env} {m m' : Loc}

theorem sees_lookup {scope : Scope} {y : Str} {v : AV} : ∀ {m : Loc}, (sees scope m).lookup y = some v → scope.names.lookup y = some .free ∧ m.lookup y = some v
  | [], h => by simp [sees] at h
  | (x, u) :: r, h => by
    unfold sees at h
    rw [List.filter_cons] at h
    split at h
    · rename_i hx
      rw [List.lookup_cons] at h ⊢
      cases hb : y == x with
      | true =>
        rw [hb] at h; cases h
        rw [beq_iff_eq.mp hb]
        exact ⟨beq_iff_eq.mp hx, rfl⟩
      | false => rw [hb] at h; exact sees_lookup h
    · rename_i hx
      obtain ⟨a, b⟩ := sees_lookup (m := r) h
      refine ⟨a, ?_⟩
      rw [List.lookup_cons]
      cases hb : y == x with
      | true =>
        rw [beq_iff_eq.mp hb] at a
        exact absurd (beq_iff_eq.mpr a) hx
      | false => exact b

noncomputable def compEnv (scope : Scope) (cl : List (Str × Addr)) (L : Addr) (env : Env) : Env :=
  { newEnv scope L env.globals (cellsFrom (L + 1) scope.names cl) env.qual none .none (some env) builtinsNs with scope := relabelS scope env.scope }

noncomputable def ownP (scope : Scope) (x : Str) : Prop := scope.names.lookup x = some .local ∨ scope.names.lookup x = some .cell

theorem beqs {a b : Option NameKind} (h : (a == b) = true) : a = b := beq_iff_eq.mp h

theorem comp_frame {scope : Scope} {cl : List (Str × Addr)} (S : St hB os C env m ρ σ s) (cp : compB scope env.scope = true) (h1 : ∀ x c, (x, c) ∈ cl → (x, NameKind.free) ∈ scope.names ∧ env.cells.lookup x = some c)
    (h2 : ∀ x, (x, NameKind.free) ∈ scope.names → ∃ c, (x, c) ∈ cl) :
    St hB os C (compEnv scope cl s.heap.objs.size env) (sees scope m) ρ σ { s with heap := pushCells (s.heap.push { cls := .type "dict", data := .dict #[] }) scope.names } ∧
    (∀ b, tgtM (compEnv scope cl s.heap.objs.size env) (ownP scope) b → s.heap.get? b = none) ∧
    (∀ x c, (compEnv scope cl s.heap.objs.size env).cells.lookup x = some c → s.heap.get? c = none ∨ env.cells.lookup x = some c) ∧
    (∀ b o, s.heap.get? b = some o → (pushCells (s.heap.push { cls := .type "dict", data := .dict #[] }) scope.names).get? b = some o) := by
  simp only [compB, Bool.and_eq_true, beq_iff_eq, decide_eq_true_eq] at cp
  obtain ⟨⟨⟨hkind, hloc⟩, hfree⟩, hnd⟩ := cp
  have F := S.f
  have keep : ∀ b o, s.heap.get? b = some o → (pushCells (s.heap.push { cls := .type "dict", data := .dict #[] }) scope.names).get? b = some o := fun b o e => pushCells_keeps _ _ b o (Heap.get?_push_of_some _ e)
  have ok := cellsFrom_ok scope.names (s.heap.push { cls := .type "dict", data := .dict #[] }) (s.heap.objs.size + 1) [] ⟨fun _ _ hm => (nomatch hm), List.Pairwise.nil⟩ (by rw [Heap.size_push]; exact Nat.le_refl _)
  rw [Heap.size_push] at ok
  have ecells : (compEnv scope cl s.heap.objs.size env).cells = cellsFrom (s.heap.objs.size + 1) scope.names [] ++ cl := cellsFrom_app _ _ _
  have new : ∀ x c, (x, c) ∈ cellsFrom (s.heap.objs.size + 1) scope.names [] → s.heap.get? c = none := fun x c h => by
    have q1 := (ok.empty x c h).2
    cases e : s.heap.get? c with
    | none => rfl
    | some o => exact absurd (Nat.lt_trans (Nat.lt_of_lt_of_le (Nat.lt_succ_self _) q1) (Heap.lt_size e)) (Nat.lt_irrefl _)
  have look : ∀ x c, (compEnv scope cl s.heap.objs.size env).cells.lookup x = some c → (x, c) ∈ cellsFrom (s.heap.objs.size + 1) scope.names [] ∨ ((cellsFrom (s.heap.objs.size + 1) scope.names []).lookup x = none ∧ (x, c) ∈ cl) := fun x c h => by
    rw [ecells, List.lookup_append] at h
    cases e : (cellsFrom (s.heap.objs.size + 1) scope.names []).lookup x with
    | none => rw [e] at h; exact .inr ⟨rfl, mem_of_lookup h⟩
    | some c' => rw [e] at h; cases h; exact .inl (mem_of_lookup e)
  have kind : ∀ x, (compEnv scope cl s.heap.objs.size env).kindOf x = (scope.names.lookup x).map (reK env.scope x) := fun x => relabelS_lookup scope env.scope x
  have lieC : ∀ x c, env.cells.lookup x = some c → (s.heap.get? c).isSome = true := fun x c h => by
    obtain ⟨_, v, o, ho, _⟩ := F.cellAt x c h; rw [ho]; rfl
  have sz : s.heap.get? s.heap.objs.size = none := get_size _
  refine ⟨⟨S.g.keeps keep _, ?_, ?_⟩, ?_, ?_, keep⟩
  · refine ⟨hkind, F.glob, F.bui, ⟨_, (Heap.Ns.new s.heap (.type "dict")).keeps (pushCells_keeps _ _)⟩, S.g.noneB sz, fun x h => ?_, fun x c h => ?_, fun x y c hx hy => ?_, fun p hp => ?_, fun p hp x c h => ?_⟩
    · have : (x, NameKind.cell) ∈ scope.names ∨ (x, NameKind.free) ∈ scope.names := by
        rw [kind] at h
        cases e : scope.names.lookup x with
        | none => rw [e] at h; rcases h with h | h <;> cases h
        | some k =>
          rw [e] at h
          have hm := mem_of_lookup e
          cases k <;> first | exact .inl hm | exact .inr hm | (rcases h with h | h <;> simp [reK] at h)
      rw [ecells, List.lookup_append]
      cases e : (cellsFrom (s.heap.objs.size + 1) scope.names []).lookup x with
      | some c => exact ⟨c, rfl⟩
      | none =>
        rcases this with h | h
        · obtain ⟨c, hc⟩ := cellsFrom_has scope.names (s.heap.objs.size + 1) x h
          exact absurd hc (lookup_none_of e c)
        · obtain ⟨c, hc⟩ := h2 x h
          obtain ⟨c', hc'⟩ := lookup_of_mem hc
          exact ⟨c', hc'⟩
    · rcases look x c h with q | ⟨_, q⟩
      · exact ⟨S.g.noneB (new x c q), none, (ok.empty x c q).1⟩
      · obtain ⟨a, v, hv⟩ := F.cellAt x c (h1 x c q).2
        exact ⟨a, v, hv.keeps keep⟩
    · rcases look x c hx with q | ⟨_, q⟩ <;> rcases look y c hy with r | ⟨_, r⟩
      · exact name_of_addr ok.apart q r
      · have a := new x c q
        have b := lieC y c (h1 y c r).2
        rw [a] at b; cases b
      · have a := new y c r
        have b := lieC x c (h1 x c q).2
        rw [a] at b; cases b
      · exact F.cinj x y c (h1 x c q).2 (h1 y c r).2
    · have a := S.g.lies ⟨p, hp, rfl⟩
      have b := S.g.two p hp
      exact ⟨fun e => (by rw [e] at a; rw [show (compEnv scope cl s.heap.objs.size env).locals = s.heap.objs.size from rfl, sz] at a; cases a),
        fun e => (by rw [e] at b; rw [show (compEnv scope cl s.heap.objs.size env).locals = s.heap.objs.size from rfl, sz] at b; cases b)⟩
    · rcases look x c h with q | ⟨_, q⟩
      · have n := new x c q
        have a := S.g.lies ⟨p, hp, rfl⟩
        have b := S.g.two p hp
        exact ⟨fun e => (by rw [e, n] at a; cases a), fun e => (by rw [e, n] at b; cases b)⟩
      · exact F.sepC p hp x c (h1 x c q).2
  · intro y v e
    obtain ⟨hf, hv⟩ := sees_lookup e
    obtain ⟨val, n, r⟩ := S.v y v hv
    refine ⟨val, ?_, r.mono (M := fun _ => False) (fun b o e _ => keep b o e) (fun _ h => h.elim) .refl (n := s.heap)⟩
    have hm := mem_of_lookup hf
    have hk := List.all_eq_true.mp hfree _ hm
    simp only [bne_self_eq_false, Bool.false_or, Bool.or_eq_true, beq_iff_eq] at hk
    rcases n with ⟨k1, _⟩ | ⟨k1, c, hc, hcell⟩
    · have : env.kindOf y = env.scope.names.lookup y := rfl
      rw [this] at k1
      rw [k1] at hk
      rcases hk with h | h <;> cases h
    · refine .inr ⟨?_, c, ?_, hcell.keeps keep⟩
      · rw [kind, hf]
        show some (reK env.scope y .free) = _ ∨ some (reK env.scope y .free) = _
        unfold reK
        split
        · exact .inl rfl
        · exact .inr rfl
      · rw [ecells, List.lookup_append]
        have e1 : (cellsFrom (s.heap.objs.size + 1) scope.names []).lookup y = none := by
          cases e1 : (cellsFrom (s.heap.objs.size + 1) scope.names []).lookup y with
          | none => rfl
          | some c' =>
            have := nodup_lookup hnd (cellsFrom_kind _ _ _ _ (mem_of_lookup e1))
            rw [hf] at this; cases this
        rw [e1]
        obtain ⟨c', hc'⟩ := h2 y hm
        obtain ⟨c'', hl⟩ := lookup_of_mem hc'
        have := (h1 y c'' (mem_of_lookup hl)).2
        rw [hc] at this; cases this
        exact hl
  · rintro b (rfl | ⟨x, hx, hk, hc⟩)
    · exact sz
    · rw [kind] at hk
      rcases hx with hx | hx
      · rw [hx] at hk; simp [reK] at hk
      · rcases look x b hc with q | ⟨q, _⟩
        · exact new x b q
        · obtain ⟨c, hc⟩ := cellsFrom_has scope.names (s.heap.objs.size + 1) x (mem_of_lookup hx)
          exact absurd hc (lookup_none_of q c)
  · intro x c h
    rcases look x c h with q | ⟨_, q⟩
    · exact .inl (new x c q)
    · exact .inr (h1 x c q).2

/-- where a comprehension stands -/
structure LoopAt (hB : Heap) (os : OsState) (C : Addr) (cenv : Env) (m0 : Loc) (s₁ : Shared) (ρ₁ : Rho) (D I : Addr) (src : AV) (i : Nat) (acc : List AV) (ρ : Rho) (σ : Sto) (s : Shared) : Prop where
  t : Step ρ₁ s₁ ρ s
  S : St hB os C cenv m0 ρ σ s
  d : ∃ vs : List Value, s.heap.PlainList D vs.toArray ∧ RelVs hB ρ s.heap acc vs
  it : ItAt ρ s.heap src i I
  sep : ∀ p ∈ ρ, (p.1 ≠ D ∧ p.2 ≠ D) ∧ (p.1 ≠ I ∧ p.2 ≠ I)

structure Apart (hB : Heap) (cenv : Env) (P : Str → Prop) (s₁ : Shared) (D I : Addr) : Prop where
  d1 : s₁.heap.get? D = none
  i1 : s₁.heap.get? I = none
  d0 : hB.get? D = none
  i0 : hB.get? I = none
  di : D ≠ I
  l : cenv.locals ≠ D ∧ cenv.locals ≠ I
  c : ∀ x c, cenv.cells.lookup x = some c → c ≠ D ∧ c ≠ I
  tg : ∀ b, tgtM cenv P b → s₁.heap.get? b = none

theorem LoopAt.go {cenv : Env} {m0 : Loc} {s₁ : Shared} {ρ₁ : Rho} {D I : Addr} {src : AV} {i : Nat} {acc : List AV} {P : Str → Prop} (L : LoopAt hB os C cenv m0 s₁ ρ₁ D I src i acc ρ σ s) (a : Apart hB cenv P s₁ D I)
    (x : StepS (tgtM cenv P) ρ s ρ' s') (S' : St hB os C cenv m0 ρ' σ' s') : LoopAt hB os C cenv m0 s₁ ρ₁ D I src i acc ρ' σ' s' := by
  have nD : ¬ (inρ ρ D ∨ tgtM cenv P D) := by
    rintro (⟨p, hp, q⟩ | q | ⟨y, _, _, q⟩)
    · exact (L.sep p hp).1.1 q
    · exact a.l.1 q.symm
    · exact (a.c y D q).1 rfl
  have nI : ¬ (inρ ρ I ∨ tgtM cenv P I) := by
    rintro (⟨p, hp, q⟩ | q | ⟨y, _, _, q⟩)
    · exact (L.sep p hp).2.1 q
    · exact a.l.2 q.symm
    · exact (a.c y I q).2 rfl
  have hm : ∀ b, inρ ρ b ∨ tgtM cenv P b → Mut s.heap b ∧ hB.get? b = none := fun b h => h.elim L.S.g.mut fun h => L.S.f.frMut h.fr
  obtain ⟨vs, ⟨k, hd⟩, rs⟩ := L.d
  obtain ⟨oI, _, hI, _⟩ := L.it.lies
  refine ⟨L.t.more x a.tg, S', ⟨vs, ⟨k, x.keep _ _ hd nD⟩, rs.mono x.keep hm x.grow⟩, L.it.keep (fun o e => x.keep _ _ e nI) x.grow, fun p hp => ?_⟩
  rcases x.grow.mem hp with q | q
  · exact L.sep p q
  · exact ⟨⟨fun e => (by rw [e, hd] at q; cases q.1), fun e => (by rw [e, hd] at q; cases q.2)⟩, ⟨fun e => (by rw [e, hI] at q; cases q.1), fun e => (by rw [e, hI] at q; cases q.2)⟩⟩

theorem ownN_free {scope : Scope} {x y : Str} (h : ownN scope x = true) (hy : scope.names.lookup y = some .free) : y ≠ x := fun q => by
  subst q
  unfold ownN at h
  rw [hy] at h
  exact absurd h (by decide)
theorem tgtIn_name {scope : Scope} {t : PySem.Expr} {x : Str} (ht : tgtIn scope t = true) (h : nameOf t = some x) : ownN scope x = true := by
  unfold tgtIn at ht
  rw [h] at ht
  exact ht
theorem pair_noname {t : PySem.Expr} {x y : Str} (h : pairOf t = some (x, y)) : nameOf t = none := by
  obtain ⟨_, p, q, k, r, rfl⟩ := pairOf_inv h
  rfl
theorem tgtIn_pair {scope : Scope} {t : PySem.Expr} {x y : Str} (ht : tgtIn scope t = true) (h : pairOf t = some (x, y)) : ownN scope x = true ∧ ownN scope y = true := by
  unfold tgtIn at ht
  rw [pair_noname h, h] at ht
  exact and2 ht
theorem bindT_keeps {scope : Scope} {t : PySem.Expr} {v : AV} {m0 m' : Loc} (e : bindT t v m0 = some m') (ht : tgtIn scope t = true) {y : Str} (hy : scope.names.lookup y = some .free) : m'.lookup y = m0.lookup y := by
  rcases bindT_inv e with ⟨x, hx, rfl⟩ | ⟨x, z, a, b, hx, rfl, rfl⟩
  · rw [lookup_setL, if_neg (ownN_free (tgtIn_name ht hx) hy)]
  · obtain ⟨h1, h2⟩ := tgtIn_pair ht hx
    rw [lookup_setL, if_neg (ownN_free h2 hy), lookup_setL, if_neg (ownN_free h1 hy)]

theorem St.forget {scope : Scope} {t : PySem.Expr} {v : AV} {m1 : Loc} (S : St hB os C env m' ρ σ s) (e : bindT t v (sees scope m1) = some m') (ht : tgtIn scope t = true) : St hB os C env (sees scope m1) ρ σ s :=
  ⟨S.g, S.f, fun y u h => S.v y u (by rw [bindT_keeps e ht (sees_lookup h).1]; exact h)⟩

theorem own_ok {scope : Scope} {cl : List (Str × Addr)} {L : Addr} {x : Str} (h : ownN scope x = true) : kOk (compEnv scope cl L env) x ∧ ownP scope x := by
  have kind : (compEnv scope cl L env).kindOf x = (scope.names.lookup x).map (reK env.scope x) := relabelS_lookup scope env.scope x
  rcases Bool.or_eq_true _ _ ▸ h with h | h
  · have h := beqs h
    refine ⟨.inl ?_, .inl h⟩
    rw [kind, h]; rfl
  · have h := beqs h
    refine ⟨.inr ?_, .inr h⟩
    rw [kind, h]; rfl
theorem tgt_ok {scope : Scope} {t : PySem.Expr} {cl : List (Str × Addr)} {L : Addr} (ht : tgtIn scope t = true) : tOk (compEnv scope cl L env) (ownP scope) t :=
  ⟨fun _ h => own_ok (tgtIn_name ht h), fun _ _ h => ⟨own_ok (tgtIn_pair ht h).1, own_ok (tgtIn_pair ht h).2⟩⟩
end

section
variable {X : Cx}

theorem PlainList.mut {h : Heap} {D : Addr} {vs : Array Value} (x : h.PlainList D vs) : Mut h D := by
  obtain ⟨k, hd⟩ := x
  intro o ho
  rw [hd] at ho; cases ho
  exact .inl ⟨by simp, by simp⟩

theorem bind_tup {t : PySem.Expr} {v : AV} {m m' : Loc} (e : bindT t v m = some m') : (∃ x p, t = .Name x p) ∨ ∃ es k p xs, (t = .Tuple es k p ∧ nameOf t = none) ∧ v = .tup xs := by
  rcases bindT_inv e with ⟨x, hx, rfl⟩ | ⟨x, z, a, b, hx, rfl, rfl⟩
  · obtain ⟨p, rfl⟩ := nameOf_inv hx
    exact .inl ⟨x, p, rfl⟩
  · obtain ⟨_, p, q, k, r, rfl⟩ := pairOf_inv hx
    exact .inr ⟨_, _, _, _, ⟨rfl, rfl⟩, rfl⟩

theorem Step.adopt {ρ₁ ρ : Rho} {s₁ s : Shared} {D : Addr} (x : Step ρ₁ s₁ ρ s) (h : s₁.heap.get? D = Option.none) : Step ρ₁ s₁ (ρ ++ [(D, D)]) s := by
  obtain ⟨⟨t, rfl, ht⟩, k, l⟩ := x
  refine ⟨⟨t ++ [(D, D)], by simp, fun p hp => ?_⟩, k, l⟩
  rcases List.mem_append.mp hp with q | q
  · exact ht p q
  · simp at q; subst q; exact ⟨h, h⟩

/-- before an item is bound -/
theorem go_ok {t : PySem.Expr} {src v : AV} {val : Value} {m m' : Loc} {σ₁ : Sto} {ρ : Rho} {I : Addr} {i : Nat} {A : Around} {s : Shared} {Q : Unit → Shared → Prop} {E : Value → Shared → Prop} (e : bindT t v m = some m') (hs : srcOk t src σ₁ = true)
    (r : RelV X.hB ρ s.heap v val) (hI : ItAt ρ s.heap src i I) (h : Q () s) : wpAny (model X.prog X.w) A (letOwnedTupleGo t (.ref I) val) Q E s := by
  rcases bind_tup e with ⟨x, p, rfl⟩ | ⟨es, k, p, xs, ⟨rfl, hn⟩, rfl⟩
  · exact wpAny_of_eq rfl h
  · cases src with
    | ref q =>
      obtain ⟨pp, _, hit⟩ := hI
      obtain ⟨_, _, _, _, rfl⟩ := r.tupE
      exact wpAny_letOwnedTupleGo_listiter hit h
    | str l => cases hs
    | rng a b c => cases hs
    | _ => cases hs

noncomputable def turnF (O : Oracle) (m0 : Loc) (t : PySem.Expr) (ifs : List PySem.Expr) (elt : PySem.Expr) : AV → Sto → Option (Option AV × Sto) := fun v σ2 => bind1 (bindT t v m0) fun m' =>
  bind2 (trs O m' ifs σ2) fun c σ3 => if c then bind2 (ev O m' elt σ3) fun y σ4 => some (some y, σ4) else some (none, σ3)
theorem turnF_spec {O : Oracle} {m0 : Loc} {t : PySem.Expr} {ifs : List PySem.Expr} {elt : PySem.Expr} {v : AV} {σ : Sto} {r : Option AV} {σ' : Sto} (e : turnF O m0 t ifs elt v σ = some (r, σ')) :
    ∃ m' c σ3, bindT t v m0 = some m' ∧ trs O m' ifs σ = some (c, σ3) ∧ (if c then bind2 (ev O m' elt σ3) fun y σ4 => some (some y, σ4) else some (none, σ3)) = some (r, σ') := by
  obtain ⟨m', h1, e1⟩ := bind1_inv e
  obtain ⟨c, σ3, h2, e2⟩ := bind2_inv e1
  exact ⟨m', c, σ3, h1, h2, e2⟩
theorem compN_inv {next : Nat → Sto → Option (Option AV)} {elt : AV → Sto → Option (Option AV × Sto)} {n i : Nat} {acc : List AV} {σ : Sto} {r : List AV × Sto} (e : compN next elt (n + 1) i acc σ = some r) :
    (next i σ = some none ∧ r = (acc, σ)) ∨ ∃ v y σ', next i σ = some (some v) ∧ elt v σ = some (y, σ') ∧ (y.isSome = true → sizeOk acc.length = true) ∧ compN next elt n (i + 1) (acc ++ y.toList) σ' = some r := by
  have e : (match next i σ with
    | none => none
    | some none => some (acc, σ)
    | some (some v) => match elt v σ with
      | some (some y, σ') => if sizeOk acc.length then compN next elt n (i + 1) (acc ++ [y]) σ' else none
      | some (none, σ') => compN next elt n (i + 1) acc σ'
      | none => none) = some r := e
  cases h : next i σ with
  | none => rw [h] at e; cases e
  | some u =>
    rw [h] at e
    cases u with
    | none => cases e; exact .inl ⟨rfl, rfl⟩
    | some v =>
      refine .inr ⟨v, ?_⟩
      dsimp only at e
      cases h2 : elt v σ with
      | none => rw [h2] at e; cases e
      | some p =>
        obtain ⟨y, σ'⟩ := p
        rw [h2] at e
        cases y with
        | none => exact ⟨none, σ', rfl, rfl, (fun h => by cases h), by simpa using e⟩
        | some y =>
          obtain ⟨hk, e⟩ := guard_inv e
          exact ⟨some y, σ', rfl, rfl, fun _ => hk, e⟩

section
variable {hB : Heap} {os : OsState} {C : Addr} {ρ ρ' : Rho} {σ σ' : Sto} {s s' : Shared}
/-- the iterator moves on -/
theorem LoopAt.side {cenv : Env} {m0 : Loc} {s₁ : Shared} {ρ₁ : Rho} {D I : Addr} {src : AV} {i : Nat} {acc : List AV} {P : Str → Prop} (la : LoopAt hB os C cenv m0 s₁ ρ₁ D I src i acc ρ σ s) (ap : Apart hB cenv P s₁ D I) {h' : Heap} (hx : Heap.ExtBut I s.heap h') (tk : Nat)
    {src' : AV} {i' : Nat} (hit : ItAt ρ h' src' i' I) : LoopAt hB os C cenv m0 s₁ ρ₁ D I src' i' acc ρ σ { s with heap := h', toks := tk } ∧ ∀ {v val}, RelV hB ρ s.heap v val → RelV hB ρ h' v val := by
  have k : KeepH (· = I) s.heap h' := fun b o e n => hx b o n e
  have hm : ∀ b, b = I → Mut s.heap b ∧ hB.get? b = none := fun b e => by
    subst e
    refine ⟨fun o ho => ?_, ap.i0⟩
    obtain ⟨o', fs, h1, h2, h3, h4⟩ := la.it.lies
    rw [h1] at ho; cases ho
    exact .inl ⟨h3, h4⟩
  have S' := la.S.side k hm (fun p hp => (la.sep p hp).2) ap.l.2 (fun x c h => (ap.c x c h).2) tk
  obtain ⟨vs, ⟨kk, hd⟩, rs⟩ := la.d
  exact ⟨⟨la.t.more' (s' := { s with toks := tk }) k S'.g fun b e => e ▸ ap.i1, S', ⟨vs, ⟨kk, k _ _ hd ap.di⟩, rs.mono k hm (n := s.heap) .refl⟩, hit, la.sep⟩, fun r => r.mono k hm (n := s.heap) .refl⟩
/-- the iterator's end -/
theorem LoopAt.endOf {cenv : Env} {m0 : Loc} {s₁ : Shared} {ρ₁ : Rho} {D I : Addr} {src : AV} {i : Nat} {acc : List AV} {P : Str → Prop} (la : LoopAt hB os C cenv m0 s₁ ρ₁ D I src i acc ρ σ s) (ap : Apart hB cenv P s₁ D I) {h' : Heap} (hx : Heap.ExtBut I s.heap h') (tk : Nat) :
    St hB os C cenv m0 ρ σ { s with heap := h', toks := tk } ∧ Step ρ₁ s₁ ρ { s with heap := h', toks := tk } ∧ ∃ vs : List Value, h'.PlainList D vs.toArray ∧ RelVs hB ρ h' acc vs := by
  have k : KeepH (· = I) s.heap h' := fun b o e n => hx b o n e
  have hm : ∀ b, b = I → Mut s.heap b ∧ hB.get? b = none := fun b e => by
    subst e
    refine ⟨fun o ho => ?_, ap.i0⟩
    obtain ⟨o', fs, h1, h2, h3, h4⟩ := la.it.lies
    rw [h1] at ho; cases ho
    exact .inl ⟨h3, h4⟩
  have S' := la.S.side k hm (fun p hp => (la.sep p hp).2) ap.l.2 (fun x c h => (ap.c x c h).2) tk
  obtain ⟨vs, ⟨kk, hd⟩, rs⟩ := la.d
  exact ⟨S', la.t.more' (s' := { s with toks := tk }) k S'.g fun b e => e ▸ ap.i1, vs, ⟨kk, k _ _ hd ap.di⟩, rs.mono k hm (n := s.heap) .refl⟩
/-- an item is laid behind the others -/
theorem LoopAt.app {cenv : Env} {m0 : Loc} {s₁ : Shared} {ρ₁ : Rho} {D I : Addr} {src : AV} {i : Nat} {acc : List AV} {P : Str → Prop} (la : LoopAt hB os C cenv m0 s₁ ρ₁ D I src i acc ρ σ s) (ap : Apart hB cenv P s₁ D I) {y : AV} {yv : Value} (r : RelV hB ρ s.heap y yv)
    {prog : Program} {w : World} {A : Around} {Q : Value → Shared → Prop} (hk : sizeOk acc.length = true) (K : ∀ s', LoopAt hB os C cenv m0 s₁ ρ₁ D I src i (acc ++ [y]) ρ σ s' → ∀ u, Q u s') : wpAny (model prog w) A (call (.builtin "list.append") [.ref D, yv]) Q Fls s := by
  have hk' := sizeOk_le hk
  obtain ⟨vs, hl, rs⟩ := la.d
  have hlen := rs.length
  refine wpAny_list_append_plain hl (fun h6 hl6 hs6 => ?_) (by simp [sizeLine_eq']; omega)
  have k6 : KeepH (· = D) s.heap h6 := fun b o e n => (hs6.2 b n).trans e
  have hm6 : ∀ b, b = D → Mut s.heap b ∧ hB.get? b = none := fun b e => by subst e; exact ⟨PlainList.mut hl, ap.d0⟩
  have S6 := la.S.side k6 hm6 (fun p hp => (la.sep p hp).1) ap.l.1 (fun x c h => (ap.c x c h).1) s.toks
  exact K _ ⟨la.t.more' (s' := s) k6 S6.g (fun b e => e ▸ ap.d1), S6, ⟨vs ++ [yv], by simpa using hl6, (rs.mono k6 hm6 (n := s.heap) .refl).append (.cons (r.mono k6 hm6 (n := s.heap) .refl) .nil)⟩,
    la.it.keep (fun o e => k6 _ _ e fun q => ap.di q.symm) (.refl (n := s.heap)), la.sep⟩ _
end

/-- a turn -/
theorem comp_turn {elt t : PySem.Expr} {ifs : List PySem.Expr} {scope : Scope} (hf : ∀ e ∈ ifs, SndT X e) (he : SndE X elt) {m : Loc} {env : Env} {cl : List (Str × Addr)} {L : Addr} {A : Around} (hA : AOk X.d A)
    (ht : tgtIn scope t = true) (okf : okEs X.kn (relabelS scope env.scope) ifs = true) (oke : okE X.kn (relabelS scope env.scope) elt = true) {src : AV} {σ₁ : Sto} (hsrc : srcOk t src σ₁ = true)
    {s₁ : Shared} {ρ₁ : Rho} {D I : Addr} (ap : Apart X.hB (compEnv scope cl L env) (ownP scope) s₁ D I) {i : Nat} {acc : List AV} {ρ : Rho} {σ σ4 : Sto} {s : Shared} {v : AV} {y : Option AV} {val : Value}
    (la : LoopAt X.hB X.os X.N.acc (compEnv scope cl L env) (sees scope m) s₁ ρ₁ D I src i acc ρ σ s) (rv : RelV X.hB ρ s.heap v val) (hF : turnF X.O (sees scope m) t ifs elt v σ = some (y, σ4)) (hk : y.isSome = true → sizeOk acc.length = true)
    {P : Shared → Prop} (K : ∀ ρ s, LoopAt X.hB X.os X.N.acc (compEnv scope cl L env) (sees scope m) s₁ ρ₁ D I src i (acc ++ y.toList) ρ σ4 s → P s) :
    wpAny (model X.prog X.w) A (letOwnedTupleGo t (.ref I) val) (fun _ s₁' => wpAny (model X.prog X.w) A (assign t (compEnv scope cl L env) val) (fun _ s₂ =>
          wpAny (model X.prog X.w) A (forIn ifs true fun c r => if r = true then do let ok ← isTrue c (compEnv scope cl L env) (eval c (compEnv scope cl L env)); pure (ForInStep.yield ok) else pure (ForInStep.yield r)) (fun ok s₃ =>
            if ok = true then wpAny (model X.prog X.w) A (eval elt (compEnv scope cl L env)) (fun x s₄ =>
              wpAny (model X.prog X.w) A (call (.builtin "list.append") [.ref D, x]) (fun _ s₅ => P s₅) Fls s₄) Fls s₃
            else P s₃) Fls s₂) Fls s₁') Fls s := by
  obtain ⟨m', c, σ3, hb, h3, hF⟩ := turnF_spec hF
  refine go_ok hb hsrc rv la.it ?_
  refine assign_ok hb hA.handled la.S rv (tgt_ok ht) fun _ s3 x3 S3 => ?_
  have la3 := la.go ap x3 (S3.forget hb ht)
  refine snd_tests hf m' σ c σ3 A _ ρ s3 _ okf h3 hA S3 fun s4 ρ4 T4 G4 => ?_
  have S4 := S3.step T4 G4
  have la4 := la3.go ap (T4.toS S3.f) (S4.forget hb ht)
  cases c with
  | false =>
    rw [if_neg Bool.false_ne_true] at hF
    cases hF
    rw [if_neg Bool.false_ne_true]
    refine K ρ4 s4 ?_
    rw [show acc ++ (none : Option AV).toList = acc from List.append_nil acc]
    exact la4
  | true =>
    rw [if_pos rfl] at hF
    obtain ⟨y', σ5, h4, hF⟩ := bind2_inv hF
    cases hF
    rw [if_pos rfl]
    refine he m' σ3 y' _ A _ ρ4 s4 _ oke h4 hA S4 fun yv s5 ρ5 T5 G5 r5 => ?_
    have la5 := la4.go ap (T5.toS S4.f) ((S4.step T5 G5).forget hb ht)
    exact la5.app ap r5 (hk rfl) fun s6 la6 _ => K ρ5 s6 la6

/-- where a comprehension's loop stands -/
inductive CompI (X : Cx) (scope : Scope) (cl : List (Str × Addr)) (L : Addr) (env : Env) (m : Loc) (t : PySem.Expr) (ifs : List PySem.Expr) (elt : PySem.Expr) (s₁ : Shared) (ρ₁ : Rho) (D I : Addr) (src : AV) (q : List AV × Sto) (n : Nat) (s : Shared) : Prop
  | mk (i : Nat) (acc : List AV) (ρ : Rho) (σ : Sto) (e : compN (nextOf src) (turnF X.O (sees scope m) t ifs elt) n i acc σ = some q) (la : LoopAt X.hB X.os X.N.acc (compEnv scope cl L env) (sees scope m) s₁ ρ₁ D I src i acc ρ σ s)
theorem comp_next {elt t : PySem.Expr} {ifs : List PySem.Expr} {scope : Scope} (hf : ∀ e ∈ ifs, SndT X e) (he : SndE X elt) {m : Loc} {env : Env} {cl : List (Str × Addr)} {L : Addr} {A : Around} (hA : AOk X.d A)
    (ht : tgtIn scope t = true) (okf : okEs X.kn (relabelS scope env.scope) ifs = true) (oke : okE X.kn (relabelS scope env.scope) elt = true) {src : AV} {σ₁ : Sto} (hsrc : srcOk t src σ₁ = true)
    {s₁ : Shared} {ρ₁ : Rho} {D I : Addr} (ap : Apart X.hB (compEnv scope cl L env) (ownP scope) s₁ D I) {R : Shared → Prop} {ys : List AV} {σ' : Sto}
    (hR : ∀ ρ s, (∃ vs : List Value, s.heap.PlainList D vs.toArray ∧ RelVs X.hB ρ s.heap ys vs) → Step ρ₁ s₁ ρ s → St X.hB X.os X.N.acc (compEnv scope cl L env) (sees scope m) ρ σ' s → (∀ p ∈ ρ, p.1 ≠ D ∧ p.2 ≠ D) → R s)
    {n : Nat} {s : Shared} (h : CompI X scope cl L env m t ifs elt s₁ ρ₁ D I src (ys, σ') n s) {P : Option Value → Shared → Prop} (K0 : ∀ s2, R s2 → P none s2)
    (K1 : ∀ v s2, wpAny (model X.prog X.w) A (letOwnedTupleGo t (.ref I) v) (fun _ s₁' => wpAny (model X.prog X.w) A (assign t (compEnv scope cl L env) v) (fun _ s₂ =>
          wpAny (model X.prog X.w) A (forIn ifs true fun c r => if r = true then do let ok ← isTrue c (compEnv scope cl L env) (eval c (compEnv scope cl L env)); pure (ForInStep.yield ok) else pure (ForInStep.yield r)) (fun ok s₃ =>
            if ok = true then wpAny (model X.prog X.w) A (eval elt (compEnv scope cl L env)) (fun x s₄ =>
              wpAny (model X.prog X.w) A (call (.builtin "list.append") [.ref D, x]) (fun _ s₅ => ∃ k, k < n ∧ CompI X scope cl L env m t ifs elt s₁ ρ₁ D I src (ys, σ') k s₅) Fls s₄) Fls s₃
            else ∃ k, k < n ∧ CompI X scope cl L env m t ifs elt s₁ ρ₁ D I src (ys, σ') k s₃) Fls s₂) Fls s₁') Fls s2 → P (some v) s2) : wpAny (model X.prog X.w) A (pyNext (.ref I)) P Fls s := by
  obtain ⟨i, acc, ρ, σ, ec, la⟩ := h
  cases n with
  | zero => cases ec
  | succ n =>
    rcases compN_inv ec with ⟨hn, hy⟩ | ⟨v, y, σ4, hn, hF, hk, ec⟩
    · refine next_ok hn hA.handled la.S.g la.it fun h' tk hx => K0 _ ?_
      obtain ⟨S', T', hd⟩ := la.endOf ap hx tk
      have hy := Prod.mk.inj hy
      exact hR ρ _ (hy.1 ▸ hd) T' (hy.2 ▸ S') (fun p hp => (la.sep p hp).1)
    · refine next_ok hn hA.handled la.S.g la.it fun h' tk hx val rv hit => K1 _ _ ?_
      obtain ⟨la', rel⟩ := la.side ap hx tk hit
      exact comp_turn hf he hA ht okf oke hsrc ap la' (rel rv) hF hk fun ρ s la => ⟨n, Nat.lt_succ_self n, i + 1, _, ρ, σ4, ec, la⟩
theorem comp_walk {elt t iter : PySem.Expr} {ifs : List PySem.Expr} {scope : Scope} {p : Pos} (hf : ∀ e ∈ ifs, SndT X e) (he : SndE X elt) {m : Loc} {env : Env} {cl : List (Str × Addr)} {L : Addr} {A : Around} (hA : AOk X.d A)
    (ht : tgtIn scope t = true) (okf : okEs X.kn (relabelS scope env.scope) ifs = true) (oke : okE X.kn (relabelS scope env.scope) elt = true) {src : AV} {σ₁ : Sto} (hsrc : srcOk t src σ₁ = true)
    {s₁ : Shared} {ρ₁ : Rho} {D I : Addr} (ap : Apart X.hB (compEnv scope cl L env) (ownP scope) s₁ D I) {R : Result → Shared → Prop} {ys : List AV} {σ' : Sto}
    (hR : ∀ ρ s, (∃ vs : List Value, s.heap.PlainList D vs.toArray ∧ RelVs X.hB ρ s.heap ys vs) → Step ρ₁ s₁ ρ s → St X.hB X.os X.N.acc (compEnv scope cl L env) (sees scope m) ρ σ' s → (∀ p ∈ ρ, p.1 ≠ D ∧ p.2 ≠ D) → R (.ok .next) s)
    (n i : Nat) (acc : List AV) (ρ : Rho) (σ : Sto) (s : Shared) (ec : compN (nextOf src) (turnF X.O (sees scope m) t ifs elt) n i acc σ = some (ys, σ')) (la : LoopAt X.hB X.os X.N.acc (compEnv scope cl L env) (sees scope m) s₁ ρ₁ D I src i acc ρ σ s) :
    codeAny (model X.prog X.w) A (.compLoop (.ListComp elt [⟨t, iter, ifs, 0⟩] scope p) 0 (.ref I) (.ref D) (compEnv scope cl L env)) R s :=
  comp_loop (CompI X scope cl L env m t ifs elt s₁ ρ₁ D I src (ys, σ')) (fun n s h => comp_next hf he hA ht okf oke hsrc ap (R := fun s => R (.ok .next) s) hR h (fun _ h => h) fun v s2 h => h) n ⟨i, acc, ρ, σ, ec, la⟩

theorem iter_again {src : AV} {i : Nat} {I : Addr} {A : Around} {ρ : Rho} {s : Shared} {Q : Value → Shared → Prop} {E : Value → Shared → Prop} (hI : ItAt ρ s.heap src i I) (h : Q (.ref I) s) : wpAny (model X.prog X.w) A (pyIter (.ref I)) Q E s := by
  cases src with
  | ref q => obtain ⟨p, _, hit⟩ := hI; exact wpAny_pyIter_listiter hit h
  | str l =>
    obtain ⟨t, hit⟩ := hI
    unfold strIterType at hit
    split at hit
    · exact wpAny_pyIter_striter_ascii hit h
    · exact wpAny_pyIter_striter_wide hit h
  | rng a b c => exact wpAny_pyIter_rangeiter hI.2 h
  | _ => exact hI.elim

/-- what the end of a comprehension gives -/
noncomputable def CompEnd (X : Cx) (A : Around) (env : Env) (m : Loc) (ρ : Rho) (s : Shared) (σ1 : Sto) (ys : List AV) (σ2 : Sto) (use : Option (Value → Sem Unit)) (Q : Value → Shared → Prop) : Prop :=
  ∀ ρ1 s1 D L ρ2 s2 mm, Step ρ s ρ1 s1 → St X.hB X.os X.N.acc env m ρ1 σ1 s1 → Step ρ1 s1 (ρ2 ++ [(D, D)]) s2 → StG X.hB X.os X.N.acc (ρ2 ++ [(D, D)]) (σ2 ++ [.list ys]) s2 → s2.heap.Ns L mm → s1.heap.get? L = none → X.hB.get? L = none →
    (∀ p ∈ ρ2 ++ [(D, D)], p.1 ≠ L ∧ p.2 ≠ L) → ρ2.length = σ2.length → compPost (model X.prog X.w) A Fls use Q (.ref D) L (.ok .next) s2

theorem comp_core {elt t iter : PySem.Expr} {ifs : List PySem.Expr} {scope : Scope} {p pos : Pos} (hi : SndE X iter) (hf : ∀ e ∈ ifs, SndT X e) (he : SndE X elt) {use : Option (Value → Sem Unit)} {Q : Value → Shared → Prop}
    {m : Loc} {σ σ1 σ2 : Sto} {src : AV} {ys : List AV} {A : Around} {env : Env} {ρ : Rho} {s : Shared} (cp : compB scope env.scope = true) (ht : tgtIn scope t = true) (oki : okE X.kn env.scope iter = true)
    (okf : okEs X.kn (relabelS scope env.scope) ifs = true) (oke : okE X.kn (relabelS scope env.scope) elt = true) (hA : AOk X.d A) (S : St X.hB X.os X.N.acc env m ρ σ s) (e1 : ev X.O m iter σ = some (src, σ1)) (hsrc : srcOk t src σ1 = true)
    (ec : compN (nextOf src) (turnF X.O (sees scope m) t ifs elt) (fuelOf src σ1) 0 [] σ1 = some (ys, σ2)) (hQ : CompEnd X A env m ρ s σ1 ys σ2 use Q) :
    wpAny (model X.prog X.w) A (comprehension (.ListComp elt [⟨t, iter, ifs, 0⟩] scope p) scope env pos (newList []) false (eval iter env) use) Q Fls s := by
  have cp' := cp
  simp only [compB, Bool.and_eq_true, beq_iff_eq, decide_eq_true_eq] at cp'
  obtain ⟨⟨⟨hkind, hloc⟩, hfree⟩, hnd⟩ := cp'
  obtain ⟨cl, hcl, h1, h2⟩ := closureFor_ok (env := env) (scope := scope) fun x hx hk => by
    have := List.all_eq_true.mp hfree x hx
    rw [hk] at this
    simp only [bne_self_eq_false, Bool.false_or, Bool.or_eq_true, beq_iff_eq] at this
    exact S.f.cells x.1 this
  refine wpAny_comprehension_free (cl := cl) rfl (okE_noSet oki env) hcl hkind (fun x hx hk => ?_) ?_
  · have := List.all_eq_true.mp hloc x hx
    rw [hk] at this
    simpa using this
  · refine hi m σ src σ1 A env ρ s _ oki e1 hA S fun xv s1 ρ1 T1 G1 r1 => ?_
    have S1 := S.step T1 G1
    refine iter_ok hsrc G1 r1 fun ha I ka nI hit => ?_
    have Sa : St X.hB X.os X.N.acc env m ρ1 σ1 { s1 with heap := ha } := S1.step (Step.keeps G1 ka s1.toks) (G1.keeps ka s1.toks)
    refine wpAny_newObj_type ?_
    generalize hb : ha.push { cls := .type "list", data := .seq ([] : List Value).toArray } = hb'
    have kb : ∀ b o, ha.get? b = some o → hb'.get? b = some o := fun b o e => hb ▸ Heap.get?_push_of_some _ e
    have Sb : St X.hB X.os X.N.acc env m ρ1 σ1 { s1 with heap := hb' } := Sa.step (Step.keeps Sa.g kb s1.toks) (Sa.g.keeps kb s1.toks)
    refine newEnv_comp ?_
    obtain ⟨Sc, htg, hcells, kc⟩ := comp_frame Sb cp h1 h2
    have hI : (ha.get? I).isSome = true := by obtain ⟨o, _, ho, _⟩ := hit.lies; rw [ho]; rfl
    have nD : ha.get? ha.objs.size = none := get_size _
    have hD : hb'.get? ha.objs.size = some { cls := .type "list", data := .seq ([] : List Value).toArray } := by rw [← hb]; exact Heap.get?_push_size _ rfl
    have n1 : ∀ b, ha.get? b = none → s1.heap.get? b = none := fun b h => by
      cases e : s1.heap.get? b with
      | none => rfl
      | some o => rw [ka b o e] at h; cases h
    have n2 : ∀ b, hb'.get? b = none → ha.get? b = none := fun b h => by
      cases e : ha.get? b with
      | none => rfl
      | some o => rw [kb b o e] at h; cases h
    have nL : hb'.get? hb'.objs.size = none := get_size _
    have ap : Apart X.hB (compEnv scope cl hb'.objs.size env) (ownP scope) s1 ha.objs.size I := by
      refine ⟨n1 _ nD, nI, G1.noneB (n1 _ nD), G1.noneB nI, fun e => ?_, ⟨fun e => ?_, fun e => ?_⟩, fun x c h => ⟨fun e => ?_, fun e => ?_⟩, fun b h => n1 b (n2 b (htg b h))⟩
      · rw [← e, nD] at hI; cases hI
      · change hb'.objs.size = _ at e
        rw [← e, nL] at hD; cases hD
      · change hb'.objs.size = _ at e
        obtain ⟨o, ho⟩ := Option.isSome_iff_exists.mp hI
        have := kb _ _ ho
        rw [← e, nL] at this; cases this
      · rcases hcells x c h with q | q
        · change hb'.get? c = none at q
          rw [e, hD] at q; cases q
        · obtain ⟨_, u, o, ho, _⟩ := S1.f.cellAt x c q
          rw [e, n1 _ nD] at ho; cases ho
      · rcases hcells x c h with q | q
        · change hb'.get? c = none at q
          have q := n2 _ q
          rw [e] at q
          rw [q] at hI; cases hI
        · obtain ⟨_, u, o, ho, _⟩ := S1.f.cellAt x c q
          rw [e, nI] at ho; cases ho
    have la : LoopAt X.hB X.os X.N.acc (compEnv scope cl hb'.objs.size env) (sees scope m) s1 ρ1 ha.objs.size I src 0 [] ρ1 σ1 { s1 with heap := pushCells (hb'.push { cls := .type "dict", data := .dict #[] }) scope.names } := by
      refine ⟨Step.keeps G1 (fun b o e => kc b o (kb b o (ka b o e))) s1.toks, Sc, ⟨[], ⟨_, kc _ _ hD⟩, .nil⟩, (hit.keep (fun o e => kb _ o e) (.refl (n := s1.heap))).keep (fun o e => kc _ o e) (.refl (n := s1.heap)), fun p hp => ?_⟩
      have a := G1.lies ⟨p, hp, rfl⟩
      have b := G1.two p hp
      have n := n1 _ nD
      exact ⟨⟨fun e => (by rw [e, n] at a; cases a), fun e => (by rw [e, n] at b; cases b)⟩, ⟨fun e => (by rw [e, nI] at a; cases a), fun e => (by rw [e, nI] at b; cases b)⟩⟩
    show codeAny _ _ (.compStart _ 0 (.ref I) (.ref ha.objs.size) (compEnv scope cl hb'.objs.size env)) _ _
    have fin : codeAny (model X.prog X.w) A (.compLoop (.ListComp elt [⟨t, iter, ifs, 0⟩] scope p) 0 (.ref I) (.ref ha.objs.size) (compEnv scope cl hb'.objs.size env))
        (compPost (model X.prog X.w) A Fls use Q (.ref ha.objs.size) hb'.objs.size) { s1 with heap := pushCells (hb'.push { cls := .type "dict", data := .dict #[] }) scope.names } := by
      refine comp_walk hf he hA ht okf oke hsrc ap (fun ρ2 s2 hd T2 S2 sep => ?_) _ 0 [] ρ1 σ1 _ ec la
      obtain ⟨mm, hns⟩ := S2.f.ns
      obtain ⟨vs, hd, rs⟩ := hd
      refine hQ ρ1 s1 ha.objs.size hb'.objs.size ρ2 s2 mm T1 S1 (T2.adopt ap.d1) (S2.g.adopt hd rs ap.d0 sep) hns (n1 _ (n2 _ nL)) (G1.noneB (n1 _ (n2 _ nL))) (fun p hp => ?_) S2.g.len
      rcases List.mem_append.mp hp with q | q
      · exact S2.f.sepL p q
      · simp at q; subst q
        exact ⟨ap.l.1.symm, ap.l.1.symm⟩
    refine codeAny_compStart_list fin ?_
    exact iter_again la.it fin

theorem comp_parts {O : Oracle} {m : Loc} {t iter elt : PySem.Expr} {ifs : List PySem.Expr} {is : Int} {scope : Scope} {p : Pos} {σ σ' : Sto} {v : AV} (e : ev O m (.ListComp elt [⟨t, iter, ifs, is⟩] scope p) σ = some (v, σ')) :
    is = 0 ∧ ∃ src σ1 ys σ2, ev O m iter σ = some (src, σ1) ∧ srcOk t src σ1 = true ∧ compN (nextOf src) (turnF O (sees scope m) t ifs elt) (fuelOf src σ1) 0 [] σ1 = some (ys, σ2) ∧ v = .ref σ2.length ∧ σ' = σ2 ++ [.list ys] := by
  have e : (if is != 0 then none else bind2 (ev O m iter σ) fun src σ1 => if srcOk t src σ1 then bind2 (compN (nextOf src) (turnF O (sees scope m) t ifs elt) (fuelOf src σ1) 0 [] σ1) fun ys σ2 => some (AV.ref σ2.length, σ2 ++ [Cell.list ys]) else none) = some (v, σ') := e
  by_cases h0 : is = 0
  · subst h0
    rw [if_neg (by decide)] at e
    obtain ⟨src, σ1, h1, e1⟩ := bind2_inv e
    obtain ⟨h2, e2⟩ := guard_inv e1
    obtain ⟨ys, σ2, h3, e3⟩ := bind2_inv e2
    cases e3
    exact ⟨rfl, src, σ1, ys, σ2, h1, h2, h3, rfl, rfl⟩
  · rw [if_pos (bne_iff_ne.mpr h0)] at e; cases e
theorem and5 {a b c d e : Bool} (h : (a && b && c && d && e) = true) : a = true ∧ b = true ∧ c = true ∧ d = true ∧ e = true :=
  ⟨(and3 (and2 (and2 h).1).1).1, (and3 (and2 (and2 h).1).1).2.1, (and3 (and2 (and2 h).1).1).2.2, (and2 (and2 h).1).2, (and2 h).2⟩

theorem snd_comp {elt t iter : PySem.Expr} {ifs : List PySem.Expr} {is : Int} {scope : Scope} {p : Pos} (hi : SndE X iter) (hf : ∀ e ∈ ifs, SndT X e) (he : SndE X elt) : SndE X (.ListComp elt [⟨t, iter, ifs, is⟩] scope p) := by
  intro m σ v σ' A env ρ s Q ok e hA S K
  obtain ⟨cp, ht, oki, okf, oke⟩ := and5 ok
  obtain ⟨rfl, src, σ1, ys, σ2, e1, hsrc, ec, rfl, rfl⟩ := comp_parts e
  rw [eval_ListComp]
  refine comp_core hi hf he cp ht oki okf oke hA S e1 hsrc ec ?_
  intro ρ1 s1 D L ρ2 s2 mm T1 S1 T2 G2 hns nL nB sepL hlen
  refine ⟨mm, hns, fun h' hs => ?_⟩
  have k : KeepH (· = L) s2.heap h' := fun b o e n => (hs.2 b n).trans e
  have hm : ∀ b, b = L → Mut s2.heap b ∧ X.hB.get? b = none := fun b e => by subst e; exact ⟨Ns.mut hns, nB⟩
  have G3 := G2.side k hm sepL s2.toks
  refine K _ _ _ (T1.trans (T2.more' (s' := s2) k G3 fun b e => e ▸ nL)) G3 ?_
  have : (ρ2 ++ [(D, D)])[σ2.length]? = some (D, D) := by
    rw [← hlen]; simp
  exact .ref (p := (D, D)) this
end
end Mine
end

section
open PySem PySem.W PyProof.Rows PySem.Calls PySem.SeqAt
set_option maxRecDepth 100000
set_option linter.unusedSimpArgs false
namespace Mine
section
variable {X : Cx}

theorem noE {e : PySem.Expr} (h : ∀ sc, okE X.kn sc e = false) : SndE X e ∧ SndT X e := by
  refine ⟨fun m σ v σ' A env ρ s Q ok => ?_, fun m σ v σ' A env ρ s Q ok => ?_⟩
  · rw [h] at ok; cases ok
  · rw [h] at ok; cases ok

theorem ev_sound (W : X.Ok) : ∀ (n : Nat) (e : PySem.Expr), sizeOf e < n → SndE X e ∧ SndT X e
  | 0, e, h => absurd h (Nat.not_lt_zero _)
  | n + 1, e, h => by
    have ih : ∀ e', sizeOf e' < sizeOf e → SndE X e' ∧ SndT X e' := fun e' h' => ev_sound W n e' (by omega)
    have ihl : ∀ (es : List PySem.Expr), sizeOf es < sizeOf e → ∀ e' ∈ es, SndE X e' ∧ SndT X e' := fun es h' e' he => ih e' (Nat.lt_trans (List.sizeOf_lt_of_mem he) h')
    have val : ∀ {e' : PySem.Expr}, SndE X e' → (∀ env whole, isTrue e' env whole = (do let v ← whole; standAt e'.pos; holding [v] (truthy v))) → (∀ O m σ whole, tr O m e' σ whole = byV whole) → SndE X e' ∧ SndT X e' :=
      fun a b c => ⟨a, snt_value a b c⟩
    cases e with
    | Constant c k p =>
      exact val snd_const (fun _ _ => rfl) (fun _ _ _ _ => rfl)
    | Name x p =>
      exact val snd_name (fun _ _ => rfl) (fun _ _ _ _ => rfl)
    | BoolOp op vs p =>
      have := ihl vs (by simp <;> omega)
      refine ⟨?_, snt_bool fun e he => (this e he).2⟩
      intro m σ v σ' A env ρ s Q ok e hA S K
      rw [arm_eval_BoolOp]
      exact snd_bool (fun e he => (this e he).1) m σ v σ' A env ρ s Q ok e hA S K
    | BinOp l op r p =>
      exact val (snd_bin (ih l (by simp <;> omega)).1 (ih r (by simp <;> omega)).1) (fun _ _ => rfl) (fun _ _ _ _ => rfl)
    | UnaryOp op x p =>
      have hx := ih x (by simp <;> omega)
      cases op with
      | Not => exact ⟨snd_neg hx.1, snt_not hx.2⟩
      | _ => exact val (snd_neg hx.1) (fun _ _ => rfl) (fun _ _ _ _ => rfl)
    | List es p =>
      exact val (snd_list fun e he => (ihl es (by simp <;> omega) e he).1) (fun _ _ => rfl) (fun _ _ _ _ => rfl)
    | Tuple es k p =>
      exact val (snd_tuple fun e he => (ihl es (by simp <;> omega) e he).1) (fun _ _ => rfl) (fun _ _ _ _ => rfl)
    | ListComp elt gens scope p =>
      rcases gens with _ | ⟨⟨t, iter, ifs, is⟩, _ | ⟨g2, gs⟩⟩
      · exact noE fun sc => rfl
      · exact val (snd_comp (ih iter (by simp <;> omega)).1 (fun e he => (ihl ifs (by simp <;> omega) e he).2) (ih elt (by simp <;> omega)).1) (fun _ _ => rfl) (fun _ _ _ _ => rfl)
      · exact noE fun sc => rfl
    | Compare l ops rs p =>
      have hl := ih l (by simp <;> omega)
      have hr := ihl rs (by simp <;> omega)
      have hx : ∀ f x q, l = .Call f [x] [] q → SndE X x := fun f x q e => by subst e; exact (ih x (by simp <;> omega)).1
      have hy : ∀ r ∈ rs, ∀ f x q, r = .Call f [x] [] q → SndE X x := fun r hr f x q e => by
        have a := List.sizeOf_lt_of_mem hr
        refine (ih x ?_).1
        subst e
        simp at a ⊢
        omega
      exact ⟨snd_cmp W hl.1 (fun r h => (hr r h).1) hx hy, snt_cmp W hl.1 (fun r h => (hr r h).1) hx hy⟩
    | Call f args ks p =>
      have ha := ihl args (by simp <;> omega)
      cases ks with
      | cons k ks => exact noE fun sc => rfl
      | nil =>
        have tv : ∀ O m σ whole, tr O m (.Call f args [] p) σ whole = byV whole := fun _ _ _ _ => rfl
        have iv : ∀ env whole, isTrue (.Call f args [] p) env whole = (do let v ← whole; standAt (PySem.Expr.Call f args [] p).pos; holding [v] (truthy v)) := fun _ _ => rfl
        cases f with
        | Name g np => exact val (snd_call W fun e he => (ha e he).1) iv tv
        | Attribute o name apos => exact val (snd_mth W (ih o (by simp <;> omega)).1 fun e he => (ha e he).1) iv tv
        | _ => exact noE fun sc => rfl
    | Subscript v i p =>
      have hv := (ih v (by simp <;> omega)).1
      refine val ?_ (fun _ _ => rfl) (fun _ _ _ _ => rfl)
      by_cases hs : isSl i = true
      · obtain ⟨lo, hi, st, q, rfl⟩ := isSl_inv hs
        exact snd_slice hv (fun e h => by subst h; exact (ih e (by simp <;> omega)).1) (fun e h => by subst h; exact (ih e (by simp <;> omega)).1) (fun e h => by subst h; exact (ih e (by simp <;> omega)).1)
      · exact snd_sub (Bool.not_eq_true _ ▸ hs) hv (ih i (by simp <;> omega)).1
    | _ => exact noE fun sc => rfl
theorem sndE (W : X.Ok) (e : PySem.Expr) : SndE X e := (ev_sound W _ e (Nat.lt_succ_self _)).1
theorem sndT (W : X.Ok) (e : PySem.Expr) : SndT X e := (ev_sound W _ e (Nat.lt_succ_self _)).2
end
end Mine
end

section
open PySem PySem.W PyProof.Rows PySem.Calls PySem.SeqAt
set_option maxRecDepth 100000
set_option linter.unusedSimpArgs false
namespace Mine

noncomputable def isComp : PySem.Expr → Bool
  | .ListComp .. => true
  | _ => false

mutual
noncomputable def okS (kn : Str → Bool) : Scope → PySem.Stmt → Bool
  | sc, .Assign ts e _ => match ts with
    | [t] => (nameOf t).isSome && tgtIn sc t && okE kn sc e
    | _ => false
  | sc, .Expr e _ => okE kn sc e && !isComp e
  | sc, .Return v _ => match v with
    | some e => okE kn sc e
    | none => false
  | sc, .If t b o _ => okE kn sc t && okSs kn sc b && okSs kn sc o
  | sc, .While t b _ _ => okE kn sc t && okSs kn sc b
  | sc, .For t iter b _ _ => tgtIn sc t && okE kn sc iter && okSs kn sc b
  | _, .Break _ => true
  | _, _ => false
noncomputable def okSs (kn : Str → Bool) : Scope → List PySem.Stmt → Bool
  | _, [] => true
  | sc, s :: r => okS kn sc s && okSs kn sc r
end

inductive FlowR (n₀ : Heap) (ρ : Rho) (h : Heap) : AFlow → Flow → Prop
  | next : FlowR n₀ ρ h .next .next
  | brk : FlowR n₀ ρ h .brk .brk
  | ret {v : AV} {val : Value} : RelV n₀ ρ h v val → FlowR n₀ ρ h (.ret v) (.ret val)
theorem FlowR.nextE {n₀ : Heap} {ρ : Rho} {h : Heap} {f : Flow} (r : FlowR n₀ ρ h .next f) : f = .next := by cases r; rfl
theorem FlowR.brkE {n₀ : Heap} {ρ : Rho} {h : Heap} {f : Flow} (r : FlowR n₀ ρ h .brk f) : f = .brk := by cases r; rfl
theorem FlowR.retE {n₀ : Heap} {ρ : Rho} {h : Heap} {v : AV} {f : Flow} (r : FlowR n₀ ρ h (.ret v) f) : ∃ val, RelV n₀ ρ h v val ∧ f = .ret val := by
  cases r with
  | ret r => exact ⟨_, r, rfl⟩

/-- what is told behind a statement -/
noncomputable def KontS (X : Cx) (env : Env) (ρ : Rho) (s : Shared) (fl : AFlow) (m' : Loc) (σ' : Sto) (Q : Flow → Shared → Prop) : Prop :=
  ∀ f s' ρ', StepS (frM env) ρ s ρ' s' → St X.hB X.os X.N.acc env m' ρ' σ' s' → FlowR X.hB ρ' s'.heap fl f → Q f s'
noncomputable def SndS (X : Cx) (st : PySem.Stmt) : Prop :=
  ∀ m σ fl m' σ' A env ρ s Q, okS X.kn env.scope st = true → ex X.O m st σ = some (fl, m', σ') → AOk X.d A → St X.hB X.os X.N.acc env m ρ σ s → KontS X env ρ s fl m' σ' Q →
    wpAny (model X.prog X.w) A (exec st env) Q Fls s
noncomputable def SndSs (X : Cx) (ss : List PySem.Stmt) : Prop :=
  ∀ m σ fl m' σ' A env ρ s Q, okSs X.kn env.scope ss = true → exs X.O m ss σ = some (fl, m', σ') → AOk X.d A → St X.hB X.os X.N.acc env m ρ σ s → KontS X env ρ s fl m' σ' Q →
    wpAny (model X.prog X.w) A (execs ss env) Q Fls s

section
variable {X : Cx}

theorem KontS.step {env : Env} {ρ ρ1 : Rho} {s s1 : Shared} {fl : AFlow} {m' : Loc} {σ' : Sto} {Q : Flow → Shared → Prop} (K : KontS X env ρ s fl m' σ' Q) (x : StepS (frM env) ρ s ρ1 s1) : KontS X env ρ1 s1 fl m' σ' Q :=
  fun f s2 ρ2 T S r => K f s2 ρ2 (x.trans T) S r

theorem kOk_of {env : Env} {x : Str} (h : ownN env.scope x = true) : env.kindOf x = some .local ∨ env.kindOf x = some .cell := by
  rcases Bool.or_eq_true _ _ ▸ h with h | h
  · exact .inl (beqs h)
  · exact .inr (beqs h)
theorem tOk_of {env : Env} {t : PySem.Expr} (h : tgtIn env.scope t = true) : tOk env (fun _ => True) t :=
  ⟨fun _ e => ⟨kOk_of (tgtIn_name h e), trivial⟩, fun _ _ e => ⟨⟨kOk_of (tgtIn_pair h e).1, trivial⟩, kOk_of (tgtIn_pair h e).2, trivial⟩⟩

theorem isComp_inv {e : PySem.Expr} (h : isComp e = true) : ∃ elt gens scope p, e = .ListComp elt gens scope p := by
  refine Classical.byContradiction fun hn => ?_
  cases e with
  | ListComp elt gens scope p => exact hn ⟨_, _, _, _, rfl⟩
  | _ => exact ff h
theorem swaps_is {kn : Str → Bool} {env : Env} {e : PySem.Expr} {x : Str} {p : Pos} {line : Nat} (ok : okE kn env.scope e = true) : ∃ b, swapsWith e (some (.Name x p)) line env = pure b ∧ (b = true → isComp e = true) := by
  by_cases h : isComp e = true
  · obtain ⟨_, _, _, _, rfl⟩ := isComp_inv h
    exact ⟨_, rfl, fun _ => rfl⟩
  · refine ⟨false, ?_, fun h => by cases h⟩
    cases e <;> first | rfl | cases ok | exact absurd rfl h
theorem swaps_none {kn : Str → Bool} {env : Env} {e : PySem.Expr} {line : Nat} (ok : okE kn env.scope e = true) (h : isComp e = false) : swapsWith e none line env = pure false := by
  cases e <;> first | rfl | cases ok | cases h

theorem StepS.fr {P : Str → Prop} {env : Env} {ρ ρ' : Rho} {s s' : Shared} {hB : Heap} (x : StepS (tgtM env P) ρ s ρ' s') (F : FmOk hB env ρ' s'.heap) : StepS (frM env) ρ s ρ' s' :=
  x.weak (fun _ h => h.fr) fun _ h => F.frLies h

/-- a comprehension whose list is bound at once -/
theorem sns_comp {x : Str} {p' p : Pos} {elt : PySem.Expr} {gens : List Comprehension} {scope : Scope} {pos : Pos} (W : X.Ok) {m : Loc} {σ σ' : Sto} {v : AV} {A : Around} {env : Env} {ρ : Rho} {s : Shared} {Q : Flow → Shared → Prop}
    (hk : env.kindOf x = some .local ∨ env.kindOf x = some .cell) (ok : okE X.kn env.scope (.ListComp elt gens scope pos) = true) (e : ev X.O m (.ListComp elt gens scope pos) σ = some (v, σ')) (hA : AOk X.d A) (S : St X.hB X.os X.N.acc env m ρ σ s)
    (K : KontS X env ρ s .next (setL m x v) σ' Q) (hb : swapsWith (.ListComp elt gens scope pos) (some (.Name x p')) p.line env = pure true) : wpAny (model X.prog X.w) A (exec (.Assign [.Name x p'] (.ListComp elt gens scope pos) p) env) Q Fls s := by
  rw [exec_Assign_Name_used _ _ _ _ hb]
  rcases gens with _ | ⟨⟨t, iter, ifs, is⟩, _ | ⟨g2, gs⟩⟩
  · cases ok
  · obtain ⟨cp, ht, oki, okf, oke⟩ := and5 ok
    obtain ⟨rfl, src, σ1, ys, σ2, e2, hsrc, ec, rfl, rfl⟩ := comp_parts e
    refine wpAny_bind (wpAny_standAt (wpAny_bind ?_))
    rw [arm_evalThenUse_ListComp]
    refine wpAny_bind (Q := fun _ s' => wpAny (model X.prog X.w) A (pure Flow.next) Q Fls s') ?_
    refine comp_core (sndE W iter) (fun e _ => sndT W e) (sndE W elt) cp ht oki okf oke hA S e2 hsrc ec ?_
    intro ρ1 s1 D L ρ2 s2 mm T1 S1 T2 G2 hns nL nB sepL hlen
    have S2 := S1.step T2 G2
    have hr : RelV X.hB (ρ2 ++ [(D, D)]) s2.heap (.ref σ2.length) (.ref D) := by
      have : (ρ2 ++ [(D, D)])[σ2.length]? = some (D, D) := by
        rw [← hlen]; simp
      exact .ref (p := (D, D)) this
    refine wpAny_assign_Name (store_ok S2 hr hk fun _ s3 x3 S3 => ?_)
    have lL : env.locals ≠ L := fun e => by
      obtain ⟨mm1, o, es, ep, ho, _⟩ := S1.f.ns
      rw [e, nL] at ho; cases ho
    have cL : ∀ x c, env.cells.lookup x = some c → c ≠ L := fun x c hc e => by
      obtain ⟨_, u, o, ho, _⟩ := S1.f.cellAt x c hc
      rw [e, nL] at ho; cases ho
    have hn3 : s3.heap.Ns L mm := Ns.keepAt hns fun o e => x3.keep _ _ e fun h => by
      rcases h with ⟨q, hq, z⟩ | h | ⟨y, _, _, h⟩
      · exact (sepL q hq).1 z
      · exact lL h.symm
      · exact cL y L h rfl
    refine ⟨mm, hn3, fun h' hs => ?_⟩
    have k : KeepH (· = L) s3.heap h' := fun b o e n => (hs.2 b n).trans e
    have hm : ∀ b, b = L → Mut s3.heap b ∧ X.hB.get? b = none := fun b e => by subst e; exact ⟨Ns.mut hn3, nB⟩
    have S4 := S3.side k hm sepL lL cL s3.toks
    have a : StepS (frM env) ρ s (ρ2 ++ [(D, D)]) s3 := ((T1.trans T2).toS S.f).trans (x3.fr S3.f)
    refine wpAny_pure (wpAny_pure (K _ _ _ ⟨a.grow, fun b o e n => ?_, fun b h => ?_⟩ S4 .next))
    · refine k b o (a.keep b o e n) fun q => ?_
      subst q
      have e1 := T1.keep b o e fun z => n (.inl z)
      rw [nL] at e1; cases e1
    · rcases h with ⟨q, hq, rfl⟩ | h
      · obtain ⟨t', ht', _⟩ := a.grow
        exact S4.g.lies ⟨q, by rw [ht']; exact List.mem_append_left _ hq, rfl⟩
      · exact S4.f.frLies h
  · cases ok
theorem sns_assign {ts : List PySem.Expr} {p : Pos} {e : PySem.Expr} (W : X.Ok) : SndS X (.Assign ts e p) := by
  intro m σ fl m' σ' A env ρ s Q ok h hA S K
  rcases ts with _ | ⟨t, _ | ⟨_, _⟩⟩
  · cases ok
  · obtain ⟨_, ok1, ok2⟩ := and3 ok
    obtain ⟨x, hx, h1⟩ := bind1_inv h
    obtain ⟨v, σ1, e1, h2⟩ := bind2_inv h1
    cases h2
    have hk := kOk_of (tgtIn_name ok1 hx)
    obtain ⟨p', rfl⟩ := nameOf_inv hx
    obtain ⟨b, hb, hc⟩ := swaps_is (x := x) (p := p') (line := p.line) ok2
    cases b with
    | false =>
      refine wpAny_Assign_Name (sndE W e m σ v σ' A env ρ s _ ok2 e1 hA S fun val s1 ρ1 T1 G1 r1 => ?_) hb
      exact store_ok (S.step T1 G1) r1 hk fun _ s2 x2 S2 => K _ s2 ρ1 ((T1.toS S.f).trans (x2.fr S2.f)) S2 .next
    | true =>
      obtain ⟨elt, gens, scope, pos, rfl⟩ := isComp_inv (hc rfl)
      exact sns_comp W hk ok2 e1 hA S K hb
  · cases ok
end
end Mine
end

section
open PySem PySem.W PyProof.Rows PySem.Calls PySem.SeqAt
set_option maxRecDepth 100000
set_option linter.unusedSimpArgs false
namespace Mine
/-- what a turn's flow makes of a loop -/
noncomputable def loopEnd (go : Option (AFlow × Loc × Sto)) (m : Loc) (σ : Sto) : AFlow → Option (AFlow × Loc × Sto)
  | .next => go
  | .brk => some (.next, m, σ)
  | .ret r => some (.ret r, m, σ)
theorem loop_inv {go : Loc → Sto → Option (AFlow × Loc × Sto)} {o : Option (AFlow × Loc × Sto)} {r : AFlow × Loc × Sto} (e : (match o with
      | some (.next, m', σ'') => go m' σ''
      | some (.brk, m', σ'') => some (.next, m', σ'')
      | some (.ret r, m', σ'') => some (.ret r, m', σ'')
      | none => none) = some r) : ∃ fl m' σ', o = some (fl, m', σ') ∧ loopEnd (go m' σ') m' σ' fl = some r := by
  cases o with
  | none => cases e
  | some p =>
    obtain ⟨fl, m', σ'⟩ := p
    refine ⟨fl, m', σ', rfl, ?_⟩
    cases fl <;> exact e
theorem whileN_inv {test : Loc → Sto → Option (Bool × Sto)} {body : Loc → Sto → Option (AFlow × Loc × Sto)} {n : Nat} {m : Loc} {σ : Sto} {r : AFlow × Loc × Sto} (e : whileN test body (n + 1) m σ = some r) :
    ∃ c σ1, test m σ = some (c, σ1) ∧ if c then ∃ fl m' σ', body m σ1 = some (fl, m', σ') ∧ loopEnd (whileN test body n m' σ') m' σ' fl = some r else r = (.next, m, σ1) := by
  rw [whileN_eq] at e
  cases h : test m σ with
  | none => rw [h] at e; cases e
  | some p =>
    obtain ⟨c, σ1⟩ := p
    rw [h] at e
    refine ⟨c, σ1, rfl, ?_⟩
    cases c with
    | false => cases e; exact rfl
    | true => exact loop_inv (go := whileN test body n) e
theorem forN_inv {next : Nat → Sto → Option (Option AV)} {body : AV → Loc → Sto → Option (AFlow × Loc × Sto)} {n i : Nat} {m : Loc} {σ : Sto} {r : AFlow × Loc × Sto} (e : forN next body (n + 1) i m σ = some r) :
    (next i σ = some none ∧ r = (.next, m, σ)) ∨ ∃ v fl m' σ', next i σ = some (some v) ∧ body v m σ = some (fl, m', σ') ∧ loopEnd (forN next body n (i + 1) m' σ') m' σ' fl = some r := by
  rw [forN_eq] at e
  cases h : next i σ with
  | none => rw [h] at e; cases e
  | some u =>
    rw [h] at e
    cases u with
    | none => cases e; exact .inl ⟨rfl, rfl⟩
    | some v =>
      obtain ⟨fl, m', σ', h1, h2⟩ := loop_inv (go := forN next body n (i + 1)) e
      exact .inr ⟨v, fl, m', σ', rfl, h1, h2⟩
theorem exs_inv {O : Oracle} {m : Loc} {st : PySem.Stmt} {r : List PySem.Stmt} {σ : Sto} {q : AFlow × Loc × Sto} (e : exs O m (st :: r) σ = some q) : ∃ fl m' σ', ex O m st σ = some (fl, m', σ') ∧ (fl = .next → exs O m' r σ' = some q) ∧ (fl ≠ .next → q = (fl, m', σ')) := by
  have e : (match ex O m st σ with
    | some (.next, m', σ') => exs O m' r σ'
    | x => x) = some q := e
  cases h : ex O m st σ with
  | none => rw [h] at e; cases e
  | some p =>
    obtain ⟨fl, m', σ'⟩ := p
    rw [h] at e
    refine ⟨fl, m', σ', rfl, fun h => ?_, fun h => ?_⟩
    · subst h; exact e
    · cases fl with
      | next => exact absurd rfl h
      | brk => cases e; rfl
      | ret v => cases e; rfl

theorem up {α : Type} {M : Model} {A : Around} {c : Sem α} {Q : α → Shared → Prop} {E : Value → Shared → Prop} {s : Shared} (h : wpAny M A c Q Fls s) : wpAny M A c Q E s :=
  wpAny_mono h (fun _ _ x => x) fun _ _ f => f.elim
section
variable {X : Cx}

theorem sns_expr {e : PySem.Expr} {p : Pos} (W : X.Ok) : SndS X (.Expr e p) := by
  intro m σ fl m' σ' A env ρ s Q ok h hA S K
  obtain ⟨ok, hc⟩ := and2 ok
  obtain ⟨v, σ1, e1, h1⟩ := bind2_inv h
  cases h1
  exact wpAny_Expr_any (sndE W e m σ v σ' A env ρ s _ ok e1 hA S fun val s1 ρ1 T1 G1 r1 => K _ s1 ρ1 (T1.toS S.f) (S.step T1 G1) .next) (by unfold interactive; rw [S.f.kind]; rfl) (swaps_none ok (by simpa using hc))

theorem sns_return {v : Option PySem.Expr} {p : Pos} (W : X.Ok) : SndS X (.Return v p) := by
  intro m σ fl m' σ' A env ρ s Q ok h hA S K
  cases v with
  | none => cases ok
  | some e =>
    obtain ⟨v, σ1, e1, h1⟩ := bind2_inv h
    cases h1
    exact wpAny_Return_some (sndE W e m σ v σ' A env ρ s _ ok e1 hA S fun val s1 ρ1 T1 G1 r1 => K _ s1 ρ1 (T1.toS S.f) (S.step T1 G1) (.ret r1))

theorem sns_break {p : Pos} : SndS X (.Break p) := by
  intro m σ fl m' σ' A env ρ s Q ok h hA S K
  cases h
  exact wpAny_Break (K _ s ρ ((Step.refl S.g).toS S.f) S .brk)

theorem sns_if {t : PySem.Expr} {b o : List PySem.Stmt} {p : Pos} (W : X.Ok) (hb : SndSs X b) (ho : SndSs X o) : SndS X (.If t b o p) := by
  intro m σ fl m' σ' A env ρ s Q ok h hA S K
  obtain ⟨okt, okb, oko⟩ := and3 ok
  obtain ⟨c, σ1, h1, h2⟩ := bind2_inv h
  refine wpAny_If (sndT W t m σ c σ1 A env ρ s _ okt h1 hA S fun s1 ρ1 T1 G1 => ?_)
  cases c with
  | true => exact hb m σ1 fl m' σ' A env ρ1 s1 Q okb h2 hA (S.step T1 G1) (K.step (T1.toS S.f))
  | false => exact ho m σ1 fl m' σ' A env ρ1 s1 Q oko h2 hA (S.step T1 G1) (K.step (T1.toS S.f))

theorem sns_nil : SndSs X [] := by
  intro m σ fl m' σ' A env ρ s Q ok h hA S K
  cases h
  exact wpAny_execs_nil (K _ s ρ ((Step.refl S.g).toS S.f) S .next)
theorem sns_cons {st : PySem.Stmt} {r : List PySem.Stmt} (h1 : SndS X st) (h2 : SndSs X r) : SndSs X (st :: r) := by
  intro m σ fl m' σ' A env ρ s Q ok h hA S K
  have ok := and2 (a := okS X.kn env.scope st) ok
  obtain ⟨f1, m1, σ1, e1, hn, hs⟩ := exs_inv h
  refine wpAny_execs_cons (h1 m σ f1 m1 σ1 A env ρ s _ ok.1 e1 hA S fun f s1 ρ1 T1 S1 r1 => ?_)
  cases f1 with
  | next => rw [r1.nextE]; exact h2 m1 σ1 fl m' σ' A env ρ1 s1 Q ok.2 (hn rfl) hA S1 (K.step T1)
  | brk => cases hs (by intro h; cases h); rw [r1.brkE]; exact K _ s1 ρ1 T1 S1 .brk
  | ret v =>
    cases hs (by intro h; cases h)
    obtain ⟨val, r, rfl⟩ := r1.retE
    exact K _ s1 ρ1 T1 S1 (.ret r)


/-- the flow behind a turn of a loop -/
noncomputable def flowTo (P : Prop) (R : Flow → Prop) : Flow → Prop
  | .next | .cont => P
  | .brk => R .next
  | .ret v => R (.ret v)
theorem while_end {n₀ : Heap} {ρ : Rho} {h : Heap} {fl : AFlow} {f : Flow} {P : Prop} {R : Flow → Prop} (r : FlowR n₀ ρ h fl f) (h1 : fl = .next → P) (h2 : fl = .brk → R .next) (h3 : ∀ v val, fl = .ret v → RelV n₀ ρ h v val → R (.ret val)) :
    flowTo P R f := by
  cases fl with
  | next => rw [r.nextE]; exact h1 rfl
  | brk => rw [r.brkE]; exact h2 rfl
  | ret v =>
    obtain ⟨val, rv, rfl⟩ := r.retE
    exact h3 v val rfl rv
/-- where a while loop stands -/
inductive WhileAt (X : Cx) (t : PySem.Expr) (b : List PySem.Stmt) (env : Env) (ρ : Rho) (s : Shared) (q : AFlow × Loc × Sto) (n : Nat) (s' : Shared) : Prop
  | mk (m1 : Loc) (σ1 : Sto) (ρ1 : Rho) (e : whileN (fun m σ => tr X.O m t σ (ev X.O m t σ)) (fun m σ => exs X.O m b σ) n m1 σ1 = some q) (T : StepS (frM env) ρ s ρ1 s') (S : St X.hB X.os X.N.acc env m1 ρ1 σ1 s')
theorem while_turn {t : PySem.Expr} {b : List PySem.Stmt} (W : X.Ok) (hb : SndSs X b) {A : Around} {env : Env} {ρ : Rho} {s : Shared} {fl : AFlow} {m' : Loc} {σ' : Sto} (hA : AOk X.d A) (okt : okE X.kn env.scope t = true) (okb : okSs X.kn env.scope b = true)
    {R : Flow → Shared → Prop} (K : KontS X env ρ s fl m' σ' R) {n : Nat} {s1 : Shared} (h : WhileAt X t b env ρ s (fl, m', σ') n s1) {P : Bool → Shared → Prop}
    (K0 : ∀ s2, R .next s2 → P false s2) (K1 : ∀ s2, wpAny (model X.prog X.w) A (execs b env) (fun f s₃ => flowTo (∃ k, k < n ∧ WhileAt X t b env ρ s (fl, m', σ') k s₃) (fun f => R f s₃) f) Fls s2 → P true s2) : wpAny (model X.prog X.w) A (isTrue t env (eval t env)) P Fls s1 := by
  obtain ⟨m1, σ1, ρ1, e, T1, S1⟩ := h
  cases n with
  | zero => cases e
  | succ n =>
    obtain ⟨c, σ2, h1, h2⟩ := whileN_inv e
    refine sndT W t m1 σ1 c σ2 A env ρ1 s1 _ okt h1 hA S1 fun s2 ρ2 T2 G2 => ?_
    have S2 := S1.step T2 G2
    have T12 := T1.trans (T2.toS S1.f)
    cases c with
    | false =>
      cases h2
      exact K0 s2 (K _ s2 ρ2 T12 S2 .next)
    | true =>
      obtain ⟨f2, m2, σ3, h3, h4⟩ := h2
      refine K1 s2 (hb m1 σ2 f2 m2 σ3 A env ρ2 s2 _ okb h3 hA S2 fun f s3 ρ3 T3 S3 r3 => while_end (R := fun f => R f s3) r3 (fun q => ?_) (fun q => ?_) fun v val q rv => ?_)
      · subst q; exact ⟨n, Nat.lt_succ_self n, m2, σ3, ρ3, h4, T12.trans T3, S3⟩
      · subst q; cases h4; exact K _ s3 ρ3 (T12.trans T3) S3 .next
      · subst q; cases h4; exact K _ s3 ρ3 (T12.trans T3) S3 (.ret rv)
theorem sns_while {t : PySem.Expr} {b o : List PySem.Stmt} {p : Pos} (W : X.Ok) (hb : SndSs X b) : SndS X (.While t b o p) := by
  intro m σ fl m' σ' A env ρ s Q ok h hA S K
  obtain ⟨okt, okb⟩ := and2 ok
  obtain ⟨ho, h⟩ := guard_inv h
  cases o with
  | cons _ _ => cases ho
  | nil =>
    exact wpAny_While (codeAny_whileLoop (WhileAt X t b env ρ s (fl, m', σ')) (fun n s1 h => up (while_turn W hb hA okt okb K h (fun s2 h => wpAny_execs_nil h) fun s2 h => up h)) 100 ⟨m, σ, ρ, h, (Step.refl S.g).toS S.f, S⟩)

/-- where a loop over a source stands -/
structure ForAt (X : Cx) (env : Env) (ρ₁ : Rho) (s₁ : Shared) (src : AV) (I : Addr) (i : Nat) (m : Loc) (ρ : Rho) (σ : Sto) (s : Shared) : Prop where
  t : StepS (frM env) ρ₁ s₁ ρ s
  S : St X.hB X.os X.N.acc env m ρ σ s
  it : ItAt ρ s.heap src i I
  sep : ∀ p ∈ ρ, p.1 ≠ I ∧ p.2 ≠ I
structure NewAt (X : Cx) (env : Env) (s₁ : Shared) (I : Addr) : Prop where
  n : s₁.heap.get? I = none
  i0 : X.hB.get? I = none
  l : env.locals ≠ I
  c : ∀ x c, env.cells.lookup x = some c → c ≠ I
theorem ForAt.side {env : Env} {ρ₁ ρ : Rho} {s₁ s : Shared} {src : AV} {I : Addr} {i : Nat} {m : Loc} {σ : Sto} (F : ForAt X env ρ₁ s₁ src I i m ρ σ s) (a : NewAt X env s₁ I) {h' : Heap} (hx : Heap.ExtBut I s.heap h') (tk : Nat) :
    StepS (frM env) ρ₁ s₁ ρ { s with heap := h', toks := tk } ∧ St X.hB X.os X.N.acc env m ρ σ { s with heap := h', toks := tk } ∧ ∀ {v val}, RelV X.hB ρ s.heap v val → RelV X.hB ρ h' v val := by
  have k : KeepH (· = I) s.heap h' := fun b o e n => hx b o n e
  have hm : ∀ b, b = I → Mut s.heap b ∧ X.hB.get? b = none := fun b e => by
    subst e
    refine ⟨fun o ho => ?_, a.i0⟩
    obtain ⟨o', fs, h1, h2, h3, h4⟩ := F.it.lies
    rw [h1] at ho; cases ho
    exact .inl ⟨h3, h4⟩
  have S3 := F.S.side k hm F.sep a.l a.c tk
  refine ⟨⟨F.t.grow, fun b o e n => k b o (F.t.keep b o e n) fun z => (by rw [z, a.n] at e; cases e), fun b h => ?_⟩, S3, fun r => r.mono k hm (n := s.heap) .refl⟩
  rcases h with ⟨q, hq, rfl⟩ | h
  · obtain ⟨t', ht', _⟩ := F.t.grow
    exact S3.g.lies ⟨q, by rw [ht']; exact List.mem_append_left _ hq, rfl⟩
  · exact S3.f.frLies h
theorem ForAt.go {env : Env} {ρ₁ ρ ρ' : Rho} {s₁ s s' : Shared} {src : AV} {I : Addr} {i : Nat} {m m' : Loc} {σ σ' : Sto} (F : ForAt X env ρ₁ s₁ src I i m ρ σ s) (a : NewAt X env s₁ I) (x : StepS (frM env) ρ s ρ' s') (S' : St X.hB X.os X.N.acc env m' ρ' σ' s') :
    ForAt X env ρ₁ s₁ src I i m' ρ' σ' s' := by
  refine ⟨F.t.trans x, S', F.it.keep (fun o e => x.keep _ _ e fun z => ?_) x.grow, fun p hp => ?_⟩
  · rcases z with ⟨q, hq, z⟩ | z | ⟨y, _, _, z⟩
    · exact (F.sep q hq).1 z
    · exact a.l z.symm
    · exact a.c y I z rfl
  · obtain ⟨oI, _, hI, _⟩ := F.it.lies
    rcases x.grow.mem hp with q | q
    · exact F.sep p q
    · exact ⟨fun e => (by rw [e, hI] at q; cases q.1), fun e => (by rw [e, hI] at q; cases q.2)⟩

/-- where a for loop stands -/
inductive ForI (X : Cx) (t : PySem.Expr) (b : List PySem.Stmt) (env : Env) (ρ₁ : Rho) (s₁ : Shared) (src : AV) (I : Addr) (q : AFlow × Loc × Sto) (n : Nat) (s : Shared) : Prop
  | mk (i : Nat) (m : Loc) (ρ : Rho) (σ : Sto) (e : forN (nextOf src) (fun v m σ => bind1 (bindT t v m) fun m' => exs X.O m' b σ) n i m σ = some q) (F : ForAt X env ρ₁ s₁ src I i m ρ σ s)
theorem for_turn {t : PySem.Expr} {b : List PySem.Stmt} (hb : SndSs X b) {fl : AFlow} {m' : Loc} {σ' : Sto} {A : Around} {env : Env} {ρ₁ : Rho} {s₁ : Shared} {src : AV} {σ₁ : Sto} {I : Addr} (hA : AOk X.d A) (ht : tgtIn env.scope t = true) (okb : okSs X.kn env.scope b = true)
    (hsrc : srcOk t src σ₁ = true) (a : NewAt X env s₁ I) {R : Flow → Shared → Prop} (K : KontS X env ρ₁ s₁ fl m' σ' R) {n : Nat} {s : Shared} (h : ForI X t b env ρ₁ s₁ src I (fl, m', σ') n s) {P : Option Value → Shared → Prop}
    (K0 : ∀ s2, R .next s2 → P none s2) (K1 : ∀ val s2, (∀ {E : Value → Shared → Prop}, wpAny (model X.prog X.w) A (letOwnedTupleGo t (.ref I) val) (fun _ s₁' => wpAny (model X.prog X.w) A (assign t env val) (fun _ s₂ => wpAny (model X.prog X.w) A (execs b env) (fun f s₃ => flowTo (∃ k, k < n ∧ ForI X t b env ρ₁ s₁ src I (fl, m', σ') k s₃) (fun f => R f s₃) f) E s₂) E s₁') E s2) → P (some val) s2) : wpAny (model X.prog X.w) A (pyNext (.ref I)) P Fls s := by
  obtain ⟨i, m, ρ, σ, e, F⟩ := h
  cases n with
  | zero => cases e
  | succ n =>
    rcases forN_inv e with ⟨hn, hy⟩ | ⟨v, f3, m3, σ3, hn, hF, e⟩
    · cases hy
      refine next_ok hn hA.handled F.S.g F.it fun h' tk hx => ?_
      obtain ⟨T', S', _⟩ := F.side a hx tk
      exact K0 _ (K _ _ ρ T' S' .next)
    · obtain ⟨mb, hb', hF⟩ := bind1_inv hF
      refine next_ok hn hA.handled F.S.g F.it fun h' tk hx val rv hit => K1 _ _ fun {E} => ?_
      obtain ⟨T', S', rel⟩ := F.side a hx tk
      refine go_ok hb' hsrc (rel rv) hit (up (assign_ok hb' hA.handled S' (rel rv) (tOk_of ht) fun _ s4 x4 S4 => ?_))
      refine up (hb mb σ f3 m3 σ3 A env ρ s4 _ okb hF hA S4 fun f s5 ρ5 T5 S5 r5 => ?_)
      have F5 : ForAt X env ρ₁ s₁ src I (i + 1) m3 ρ5 σ3 s5 := ForAt.go (s := { s with heap := h', toks := tk }) ⟨T', S', hit, F.sep⟩ a (StepS.trans x4 T5) S5
      refine while_end (R := fun f => R f s5) r5 (fun q => ?_) (fun q => ?_) fun v val q rv => ?_
      · subst q; exact ⟨n, Nat.lt_succ_self n, i + 1, m3, ρ5, σ3, e, F5⟩
      · subst q; cases e; exact K _ s5 ρ5 F5.t S5 .next
      · subst q; cases e; exact K _ s5 ρ5 F5.t S5 (.ret rv)
theorem for_walk {t : PySem.Expr} {b : List PySem.Stmt} (hb : SndSs X b) {fl : AFlow} {m' : Loc} {σ' : Sto} {A : Around} {env : Env} {ρ₁ : Rho} {s₁ : Shared} {R : Result → Shared → Prop} {src : AV} {σ₁ : Sto} {I : Addr} (hA : AOk X.d A) (ht : tgtIn env.scope t = true) (okb : okSs X.kn env.scope b = true)
    (hsrc : srcOk t src σ₁ = true) (a : NewAt X env s₁ I) (K : KontS X env ρ₁ s₁ fl m' σ' fun f s' => R (.ok f) s') (n : Nat) {i : Nat} {m : Loc} {ρ : Rho} {σ : Sto} {s : Shared} (e : forN (nextOf src) (fun v m σ => bind1 (bindT t v m) fun m' => exs X.O m' b σ) n i m σ = some (fl, m', σ')) (F : ForAt X env ρ₁ s₁ src I i m ρ σ s) :
    codeAny (model X.prog X.w) A (.forLoop t (.ref I) b [] env) R s :=
  codeAny_forLoop_any (ForI X t b env ρ₁ s₁ src I (fl, m', σ')) (fun n s h => up (for_turn hb hA ht okb hsrc a (R := fun f s => R (.ok f) s) K h (fun s2 h => wpAny_execs_nil h) fun val s2 h => h)) n ⟨i, m, ρ, σ, e, F⟩

theorem sns_for {t iter : PySem.Expr} {b o : List PySem.Stmt} {p : Pos} (W : X.Ok) (hb : SndSs X b) : SndS X (.For t iter b o p) := by
  intro m σ fl m' σ' A env ρ s Q ok h hA S K
  obtain ⟨ht, oki, okb⟩ := and3 ok
  obtain ⟨ho, h⟩ := guard_inv h
  cases o with
  | cons _ _ => cases ho
  | nil =>
    obtain ⟨src, σ1, e1, h1⟩ := bind2_inv h
    obtain ⟨hsrc, h2⟩ := guard_inv h1
    refine wpAny_For (sndE W iter m σ src σ1 A env ρ s _ oki e1 hA S fun xv s1 ρ1 T1 G1 r1 => ?_) (okE_noSet oki env)
    have S1 := S.step T1 G1
    refine iter_ok hsrc G1 r1 fun ha I ka nI hit => ?_
    have a : NewAt X env s1 I := by
      refine ⟨nI, G1.noneB nI, fun e => ?_, fun x c hc e => ?_⟩
      · obtain ⟨mm1, o, es, ep, ho, _⟩ := S1.f.ns
        rw [e, nI] at ho; cases ho
      · obtain ⟨_, u, o, ho, _⟩ := S1.f.cellAt x c hc
        rw [e, nI] at ho; cases ho
    have F : ForAt X env ρ1 s1 src I 0 m ρ1 σ1 { s1 with heap := ha } := by
      refine ⟨(Step.keeps G1 ka s1.toks).toS S1.f, S1.step (Step.keeps G1 ka s1.toks) (G1.keeps ka s1.toks), hit, fun p hp => ?_⟩
      have a := G1.lies ⟨p, hp, rfl⟩
      have b := G1.two p hp
      exact ⟨fun e => (by rw [e, nI] at a; cases a), fun e => (by rw [e, nI] at b; cases b)⟩
    exact for_walk hb hA ht okb hsrc a (K.step (T1.toS S.f)) _ h2 F

theorem ex_sound (W : X.Ok) : ∀ (n : Nat), (∀ st : PySem.Stmt, sizeOf st < n → SndS X st)
  | 0 => fun st h => absurd h (Nat.not_lt_zero _)
  | n + 1 => fun st h => by
    have ihl : ∀ (ss : List PySem.Stmt), sizeOf ss < sizeOf st → SndSs X ss := by
      intro ss
      induction ss with
      | nil => intro _; exact sns_nil
      | cons a r ih =>
        intro h'
        simp at h'
        exact sns_cons (ex_sound W n a (by omega)) (ih (by omega))
    have no : (∀ sc, okS X.kn sc st = false) → SndS X st := fun h => by
      intro m σ fl m' σ' A env ρ s Q ok
      rw [h] at ok; cases ok
    cases st with
    | Assign ts e p => exact sns_assign W
    | Expr e p => exact sns_expr W
    | Return v p => exact sns_return W
    | Break p => exact sns_break
    | If t b o p => exact sns_if W (ihl b (by simp <;> omega)) (ihl o (by simp <;> omega))
    | While t b o p => exact sns_while W (ihl b (by simp <;> omega))
    | For t iter b o p => exact sns_for W (ihl b (by simp <;> omega))
    | _ => exact no fun _ => rfl
theorem sndSs (W : X.Ok) : ∀ ss : List PySem.Stmt, SndSs X ss
  | [] => sns_nil
  | a :: r => sns_cons (ex_sound W _ a (Nat.lt_succ_self _)) (sndSs W r)
end
end Mine
end

section
open PySem PySem.W PyProof.Rows PySem.Calls PySem.SeqAt
set_option maxRecDepth 100000
set_option linter.unusedSimpArgs false
namespace Mine

/-- a def that lies at the start -/
structure FnAt (hB : Heap) (a : Addr) (fn : Fn) (o : Obj) (fd : FuncData) : Prop where
  at_ : hB.get? a = some o
  data : o.data = .func fd
  body : fd.body = .stmts fn.body
  clo : fd.closure = []
  glob : fd.globals = mainGlobals
  bui : fd.builtins = builtinsNs
  kind : fd.scope.kind = .function
  co : fd.scope.isCoroutine = false
  gen : fd.scope.isGenerator = false
  code : hB.CodeRec fd.code fd.qualname
  bind : ∀ vals : List Value, vals.length = fn.params.length → bindArgs fd ⟨vals, []⟩ = pure (fn.params.zip vals)
  nodup : fn.params.Nodup
  noFree : ∀ x ∈ fd.scope.names, x.2 ≠ .free
  names : (fd.scope.names.map (·.1)).Nodup
  par : ∀ x ∈ fn.params, fd.scope.names.lookup x = some .local ∨ fd.scope.names.lookup x = some .cell

theorem zip_lookup {n₀ : Heap} {ρ : Rho} {h : Heap} : ∀ {ps : List Str} {vs : List AV} {vals : List Value} {x : Str} {v : AV}, RelVs n₀ ρ h vs vals → ps.Nodup → (ps.zip vs).lookup x = some v → x ∈ ps ∧ ∃ val, (x, val) ∈ ps.zip vals ∧ RelV n₀ ρ h v val
  | [], _, _, x, v, _, _, e => by simp at e
  | p :: ps, [], _, x, v, _, _, e => by simp at e
  | p :: ps, w :: vs, _, x, v, .cons r rs, hn, e => by
    rw [List.zip_cons_cons, List.lookup_cons] at e
    cases hb : x == p with
    | true =>
      rw [hb] at e; cases e
      rw [beq_iff_eq.mp hb]
      exact ⟨List.mem_cons_self, _, List.mem_cons_self, r⟩
    | false =>
      rw [hb] at e
      obtain ⟨a, val, b, c⟩ := zip_lookup rs (List.nodup_cons.mp hn).2 e
      exact ⟨List.mem_cons_of_mem _ a, val, List.mem_cons_of_mem _ b, c⟩

theorem bindL_at (k : Str → Option NameKind) : ∀ (l : List (Str × Value)) (m : Str → Option Value) (x : Str) (v : Value), (l.map (·.1)).Nodup → (x, v) ∈ l → k x = some .local → bindL k l m x = some v
  | [], m, x, v, _, h, _ => by cases h
  | (n, w) :: r, m, x, v, hn, h, hk => by
    rw [List.map_cons, List.nodup_cons] at hn
    have skip : ∀ (r : List (Str × Value)) (m : Str → Option Value), x ∉ r.map (·.1) → bindL k r m x = m x := by
      intro r
      induction r with
      | nil => intro m _; rfl
      | cons p r ih =>
        intro m hx
        obtain ⟨n, w⟩ := p
        rw [List.map_cons, List.mem_cons, not_or] at hx
        unfold bindL
        rw [ih _ hx.2]
        split
        · exact if_neg hx.1
        · rfl
    unfold bindL
    rcases List.mem_cons.mp h with e | e
    · cases e
      rw [if_pos hk, skip r _ hn.1, if_pos rfl]
    · exact bindL_at k r _ x v hn.2 e hk
theorem bindC_at (k : Str → Option NameKind) : ∀ (l : List (Str × Value)) (m : Str → Option Value) (x : Str) (v : Value), (l.map (·.1)).Nodup → (x, v) ∈ l → k x ≠ some .local → bindC k l m x = some v
  | [], m, x, v, _, h, _ => by cases h
  | (n, w) :: r, m, x, v, hn, h, hk => by
    rw [List.map_cons, List.nodup_cons] at hn
    have skip : ∀ (r : List (Str × Value)) (m : Str → Option Value), x ∉ r.map (·.1) → bindC k r m x = m x := by
      intro r
      induction r with
      | nil => intro m _; rfl
      | cons p r ih =>
        intro m hx
        obtain ⟨n, w⟩ := p
        rw [List.map_cons, List.mem_cons, not_or] at hx
        unfold bindC
        rw [ih _ hx.2]
        split
        · rfl
        · exact if_neg hx.1
    unfold bindC
    rcases List.mem_cons.mp h with e | e
    · cases e
      rw [if_neg hk, skip r _ hn.1, if_pos rfl]
    · exact bindC_at k r _ x v hn.2 e hk

theorem AOk.deeper {d : Nat} {A : Around} (h : AOk (d + 1) A) (env : Env) : AOk d (A.deeper env) := by
  obtain ⟨a, b, c⟩ := h
  refine ⟨a, ?_, ?_⟩
  · show A.depth + 1 + d ≤ 900
    omega
  · show A.units + 3 + 40 * d + 40 ≤ 9000
    omega

theorem zip_fst {α β : Type} : ∀ (a : List α) (b : List β), a.length = b.length → (a.zip b).map (·.1) = a
  | [], [], _ => rfl
  | x :: a, y :: b, h => by simp at h; simp [zip_fst a b h]

section
variable {X : Cx}

/-- into a def of the text -/
theorem call_enter {fn : Fn} {a : Addr} {o : Obj} {fd : FuncData} (F : FnAt X.hB a fn o fd) (hlim : X.hB.NoLimit) {vs : List AV} {σ σ' : Sto} {v : AV} {A : Around} {ρ : Rho} {s : Shared} {vals : List Value} (hl : fn.params.length = vs.length)
    (hA : AOk (X.d + 1) A) (G : StG X.hB X.os X.N.acc ρ σ s) (R : RelVs X.hB ρ s.heap vs vals)
    {Q : Value → Shared → Prop} (K : KontG X.hB X.os X.N.acc ρ s v σ' Q)
    (h : ∀ env s₁ Q', env.scope = fd.scope → St X.hB X.os X.N.acc env (fn.params.zip vs) ρ σ s₁ → (∀ fl m', (match fl with | .ret u => u = v | .next => v = .none | .brk => False) → KontS X env ρ s₁ fl m' σ' Q') → wpAny (model X.prog X.w) (A.deeper env) (execs fn.body env) Q' Fls s₁) :
    wpAny (model X.prog X.w) A (call (.ref a) vals) Q Fls s := by
  have hlv := R.length
  have hnz : ((fn.params.zip vals).map (·.1)).Nodup := by rw [zip_fst _ _ (by omega)]; exact F.nodup
  have memp : ∀ x ∈ fn.params.zip vals, x.1 ∈ fn.params := fun x hx => (List.of_mem_zip hx).1
  refine wpAny_call (codeAny_call_cells hA.room (G.base _ _ F.at_) F.data ?_ (F.code.keeps G.base) F.body (F.bind vals (by omega)) F.clo (fun x hx => ?_) (fun s₁ I => ?_) F.co F.gen F.kind)
  · obtain ⟨mc, h1, h2⟩ := hlim
    exact ⟨mc, h1.keeps G.base, h2⟩
  · rcases F.par x.1 (memp x hx) with h | h
    · exact .inl h
    · refine .inr ⟨h, ?_⟩
      obtain ⟨c, hc⟩ := cellsFrom_has fd.scope.names (s.heap.objs.size + 1) x.1 (mem_of_lookup h)
      obtain ⟨c', hc'⟩ := lookup_of_mem hc
      rw [hc']; rfl
  · generalize hE : callEnvC fd s.heap.objs.size a = env at I ⊢
    have hsc : env.scope = fd.scope := by subst hE; rfl
    have hloc : env.locals = s.heap.objs.size := by subst hE; rfl
    have hcl : env.cells = cellsFrom (s.heap.objs.size + 1) fd.scope.names [] := by subst hE; rfl
    have hki : ∀ x, env.kindOf x = fd.scope.names.lookup x := fun x => by subst hE; rfl
    have sz : s.heap.get? s.heap.objs.size = none := get_size _
    have newC : ∀ x c, env.cells.lookup x = some c → s.heap.get? c = none := fun x c h => by
      have h1 := I.above x c (mem_of_lookup h)
      rw [hloc] at h1
      cases e : s.heap.get? c with
      | none => rfl
      | some o => exact absurd (Nat.lt_trans h1 (Heap.lt_size e)) (Nat.lt_irrefl _)
    obtain ⟨h', tk, rfl⟩ := I.toInCall.same
    have keep : ∀ b o, s.heap.get? b = some o → h'.get? b = some o := I.toInCall.keep
    have G1 := G.keeps keep tk
    have T1 := Step.keeps G keep tk
    have S1 : St X.hB X.os X.N.acc env (fn.params.zip vs) ρ σ { s with heap := h', toks := tk } := by
      refine ⟨G1, ⟨hsc ▸ F.kind, (by subst hE; exact F.glob), (by subst hE; exact F.bui), ⟨_, I.toInCall.ns⟩, G.noneB (hloc ▸ sz), fun x h => ?_, fun x c h => ⟨G.noneB (newC x c h), _, I.cell x c h⟩,
        fun x y c hx hy => name_of_addr I.apart (mem_of_lookup hx) (mem_of_lookup hy), fun p hp => ?_, fun p hp x c h => ?_⟩, fun x u hx => ?_⟩
      · rw [hki] at h
        rcases h with h | h
        · rw [hcl]
          obtain ⟨c, hc⟩ := cellsFrom_has fd.scope.names (s.heap.objs.size + 1) x (mem_of_lookup h)
          exact lookup_of_mem hc
        · exact absurd rfl (F.noFree _ (mem_of_lookup h))
      · have q1 := G.lies ⟨p, hp, rfl⟩
        have q2 := G.two p hp
        exact ⟨fun e => (by rw [e, hloc, sz] at q1; cases q1), fun e => (by rw [e, hloc, sz] at q2; cases q2)⟩
      · have q1 := G.lies ⟨p, hp, rfl⟩
        have q2 := G.two p hp
        have n := newC x c h
        exact ⟨fun e => (by rw [e, n] at q1; cases q1), fun e => (by rw [e, n] at q2; cases q2)⟩
      · obtain ⟨hm, val, hv, r⟩ := zip_lookup R F.nodup hx
        refine ⟨val, ?_, T1.rel G r⟩
        rcases F.par x hm with h | h
        · exact .inl ⟨(hki x).trans h, _, I.toInCall.ns, bindL_at _ _ _ x val hnz hv ((hki x).trans h)⟩
        · obtain ⟨c, hc⟩ := cellsFrom_has fd.scope.names (s.heap.objs.size + 1) x (mem_of_lookup h)
          obtain ⟨c', hc'⟩ := lookup_of_mem hc
          rw [← hcl] at hc'
          have := I.cell x c' hc'
          rw [bindC_at _ _ _ x val hnz hv (by rw [hki, h]; simp)] at this
          exact .inr ⟨.inl ((hki x).trans h), c', hc', this⟩
    refine wpAny_mono (h env _ (fun f s' => ∃ val, (f = .ret val ∨ (f = .next ∧ val = .none)) ∧ Q val s') hsc S1 fun fl m' hv f s' ρ' T S r => ?_) (fun f s' ⟨val, hf, hq⟩ => ?_) fun _ _ f => f.elim
    · have T' : Step ρ s ρ' s' := T1.more T (fun b hb => by
        rcases hb with rfl | ⟨x, _, _, h⟩
        · rw [hloc]; exact sz
        · exact newC x b h)
      cases fl with
      | brk => exact hv.elim
      | next => subst hv; exact ⟨.none, .inr ⟨r.nextE, rfl⟩, K _ s' ρ' T' S.g .none⟩
      | ret u =>
        subst hv
        obtain ⟨val, r2, rfl⟩ := r.retE
        exact ⟨val, .inl rfl, K _ s' ρ' T' S.g r2⟩
    · rcases hf with rfl | ⟨rfl, rfl⟩ <;> exact hq

/-- a call of a def of the text -/
theorem callFn_inv {O : Oracle} {fn : Fn} {vs : List AV} {σ σ' : Sto} {v : AV} (e : callFn O fn vs σ = some (v, σ')) : fn.params.length = vs.length ∧ ∃ fl m', exs O (fn.params.zip vs) fn.body σ = some (fl, m', σ') ∧ match fl with | .ret u => u = v | .next => v = .none | .brk => False := by
  unfold callFn at e
  obtain ⟨hl, e⟩ := guard_inv e
  refine ⟨hl, ?_⟩
  cases hx : exs O (fn.params.zip vs) fn.body σ with
  | none => rw [hx] at e; exact nn e
  | some q =>
    obtain ⟨fl, m', σ1⟩ := q
    rw [hx] at e
    cases fl with
    | brk => exact nn e
    | next => replace e : some (AV.none, σ1) = some (v, σ') := e; cases e; exact ⟨.next, m', rfl, rfl⟩
    | ret u => replace e : some (u, σ1) = some (v, σ') := e; cases e; exact ⟨.ret v, m', rfl, rfl⟩
theorem call_fn (W : X.Ok) {fn : Fn} {a : Addr} {o : Obj} {fd : FuncData} (F : FnAt X.hB a fn o fd) (ok : okSs X.kn fd.scope fn.body = true) (hlim : X.hB.NoLimit) {vs : List AV} {σ σ' : Sto} {v : AV} (e : callFn X.O fn vs σ = some (v, σ')) {A : Around} {ρ : Rho} {s : Shared} {vals : List Value} (hA : AOk (X.d + 1) A)
    (G : StG X.hB X.os X.N.acc ρ σ s) (R : RelVs X.hB ρ s.heap vs vals) : wpAny (model X.prog X.w) A (call (.ref a) vals) (PostV X.hB X.os X.N.acc ρ s v σ') Fls s := by
  obtain ⟨hl, fl, m', hx, hv⟩ := callFn_inv e
  exact call_enter F hlim hl hA G R PostV.kont fun env s₁ Q' hsc S1 K' => sndSs W fn.body _ σ fl m' σ' (A.deeper env) env ρ _ _ (hsc ▸ ok) hx (hA.deeper env) S1 (K' fl m' hv)

/-- the rarer calls, at the machine -/
noncomputable def POk (prog : Program) (w : World) (hB : Heap) (os : OsState) (N : Nm) (d : Nat) (pr : Oracle) : Prop :=
  ∀ f vs σ v σ', pr f vs σ = some (v, σ') → ∀ (A : Around) (ρ : Rho) (s : Shared) (vals : List Value), AOk d A → StG hB os N.acc ρ σ s → RelVs hB ρ s.heap vs vals →
    wpAny (model prog w) A (call (N.val f) vals) (PostV hB os N.acc ρ s v σ') Fls s

/-- what a program's text needs, all in all -/
structure Text (prog : Program) (w : World) (hB : Heap) (os : OsState) (N : Nm) (qn : Addr) (kn : Str → Bool) (pr : Oracle) (fns : Str → Option Fn) (d : Nat) : Prop where
  wld : Wld prog w hB N qn kn
  q : QOk prog w hB os N qn d
  prim : POk prog w hB os N d pr
  lim : hB.NoLimit
  fn : ∀ f fn, fns f = some fn → N.val f = .ref (N.fn f) ∧ ∃ o fd, FnAt hB (N.fn f) fn o fd ∧ okSs kn fd.scope fn.body = true
  noq : fns qname = none
  noqp : ∀ vs σ, pr qname vs σ = none

theorem QOk.mono {prog : Program} {w : World} {hB : Heap} {os : OsState} {N : Nm} {qn : Addr} {d d' : Nat} (h : QOk prog w hB os N qn d) (l : d ≤ d') : QOk prog w hB os N qn d' :=
  fun op a b c e A ρ σ s t hA G => h op a b c e A ρ σ s t (hA.mono l) G

noncomputable def cxAt (prog : Program) (w : World) (hB : Heap) (os : OsState) (N : Nm) (qn : Addr) (kn : Str → Bool) (pr : Oracle) (fns : Str → Option Fn) (d n : Nat) : Cx := ⟨prog, w, hB, os, N, qn, n + d, calls pr fns n, kn⟩

theorem calls_ok {prog : Program} {w : World} {hB : Heap} {os : OsState} {N : Nm} {qn : Addr} {kn : Str → Bool} {pr : Oracle} {fns : Str → Option Fn} {d : Nat} (T : Text prog w hB os N qn kn pr fns d) : ∀ n, (cxAt prog w hB os N qn kn pr fns d n).Ok
  | 0 => ⟨fun f vs σ v σ' e A ρ s vals hA G R => T.prim f vs σ v σ' e A ρ s vals (hA.mono (by show d ≤ 0 + d; omega)) G R, T.q.mono (by show d ≤ 0 + d; omega), T.wld, T.noqp⟩
  | n + 1 => by
    have ih := calls_ok T n
    refine ⟨fun f vs σ v σ' e A ρ s vals hA G R => ?_, T.q.mono (by show d ≤ n + 1 + d; omega), T.wld, fun vs σ => ?_⟩
    · change calls pr fns (n + 1) f vs σ = some (v, σ') at e
      rw [calls_eq] at e
      dsimp only at e
      cases hf : fns f with
      | none =>
        rw [hf] at e
        exact T.prim f vs σ v σ' e A ρ s vals (hA.mono (by show d ≤ n + 1 + d; omega)) G R
      | some fn =>
        rw [hf] at e
        obtain ⟨hv, o, fd, F, ok⟩ := T.fn f fn hf
        show wpAny _ A (call (N.val f) vals) _ _ s
        rw [hv]
        exact call_fn ih F ok T.lim e (hA.mono (by show n + d + 1 ≤ n + 1 + d; omega)) G R
    · show calls pr fns (n + 1) qname vs σ = none
      rw [calls_eq]
      dsimp only
      rw [T.noq]
      exact T.noqp vs σ
end
end Mine
end

section
open PySem PySem.W PyProof.Rows PySem.Calls PySem.SeqAt
set_option maxRecDepth 100000
set_option linter.unusedSimpArgs false
namespace Mine

section
variable {prog : Program} {w : World} {hB : Heap} {K : Frag} {mg mb : Str → Option Value}

theorem looks_global {g : Str} {v : Value} (Tg : hB.Ns mainGlobals mg) (e : mg g = some v) (env : Env) (he : env.globals = mainGlobals) : Looks (model prog w) hB (loadGlobal env g) v :=
  fun _ _ _ _ k q => loadGlobal_global (he ▸ Tg.keeps k) e q
theorem looks_builtin {g : Str} {v : Value} (Tg : hB.Ns mainGlobals mg) (Tb : hB.Ns builtinsNs mb) (e : mg g = none) (e2 : mb g = some v) (env : Env) (he : env.globals = mainGlobals) (hb : env.builtins = builtinsNs) : Looks (model prog w) hB (loadGlobal env g) v :=
  fun _ _ _ _ k q => loadGlobal_builtin (he ▸ Tg.keeps k) e (hb ▸ Tb.keeps k) e2 q

theorem kp_of {f : Value} (X : K.In hB) (e : keepIn K f = true) : ∃ k, (k = Keeper.frame ∨ k = Keeper.machine ∨ k = Keeper.boundFrame) ∧ Looks (model prog w) hB (keeperOf f) k := by
  obtain ⟨k, a, b⟩ := looks_keep (M := model prog w) e X
  exact ⟨k, a.elim .inl (fun e => .inr (.inl e)), b⟩

end

/-- how an accumulator's names are looked up -/
structure GaK (K : Frag) (C : Addr) : Prop where
  ga : findIn K (.ref C) "__getattribute__" = some (some (.builtin "list.__getattribute__"))
  no : findIn K (.ref C) "__getattr__" = some none
theorem ga_canon : (Manifest.canonical "list.__getattribute__" != "object.__getattribute__") = false := by decide +kernel

section
variable {prog : Program} {w : World} {A : Around} {E : Value → Shared → Prop} {s : Shared} {K : Frag}

/-- a method found at such an object -/
theorem method_at {m : Value} {ty : String} {x C : Addr} {ox : Obj} {od : Option Obj} {name : Str} {pl : Sem Bool} {Q : Value × List Value → Shared → Prop} (X : K.In s.heap) (I : InstAt s.heap x ox C od) (GK : GaK K C)
    (hf : findIn K (.ref C) name = some (some m)) (ht : typeIn K m = some (.type ty)) (hty : ty = "function" ∨ ty = "method_descriptor") (hs : shadowIn od name = some false) (h : Q (m, [.ref x]) s) :
    wpAny (model prog w) A (getMethod (.ref x) name pl) Q E s := by
  unfold getMethod specialOf
  refine wpAny_bind (wpAny_bind (I.type.here ((looks_findIn X GK.ga).here ?_)))
  dsimp only
  rw [ga_canon, if_neg (by decide)]
  refine wpAny_bind (wpAny_bind (I.type.here ((looks_findIn X GK.no).here ?_)))
  refine wpAny_bind (wpAny_bind (I.type.here ((looks_findIn X hf).here (wpAny_bind ((looks_typeIn X ht).here ?_)))))
  rw [if_neg (by rcases hty with rfl | rfl <;> decide +kernel)]
  refine wpAny_bind (wpAny_loadPart I.at_ ?_)
  have hd := I.dict
  cases e : ox.dict with
  | none => exact wpAny_bind (wpAny_rule (wpAny_pure h))
  | some dx =>
    cases od with
    | none => rw [e] at hd; exact hd.elim
    | some o =>
      rw [e] at hd
      obtain ⟨r, h1, h2⟩ := Option.map_eq_some_iff.mp hs
      refine wpAny_bind (wpAny_bind (wpAny_loadPart hd ?_))
      rw [nsLook_of h1]
      refine wpAny_pure ?_
      rw [h2]
      exact wpAny_bind (wpAny_rule (wpAny_pure h))
end

theorem AccAt.inst {C : Addr} {h : Heap} {a d : Addr} {size : Int} {vs : Array Value} (at_ : AccAt C h a d size vs) : ∃ n od, InstAt h a ⟨.ref C, some d, .seq vs n, #[]⟩ C (some od) ∧ h.get? a = some ⟨.ref C, some d, .seq vs n, #[]⟩ ∧
    (∀ name, name ≠ Str.ofString "_initial_size" → shadowIn (some od) name = some false) := by
  obtain ⟨⟨n, ha⟩, hs, kk, t, j, hd⟩ := at_
  refine ⟨n, _, ⟨ha, rfl, rfl, hd⟩, ha, fun name hn => ?_⟩
  have hb : (Value.str (Str.ofString "_initial_size") kk).isStr name = false := by
    show (Str.ofString "_initial_size" == name) = false
    exact beq_eq_false_iff_ne.mpr (Ne.symm hn)
  simp [shadowIn, lookIn, hb, DictEntry.refKey]

section
variable {prog : Program} {w : World} {hB : Heap} {K : Frag}
/-- a method of an accumulator -/
theorem meth_of {C : Addr} {name : Str} {f : Addr} (X : K.In hB) (GK : GaK K C) (hf : findIn K (.ref C) name = some (some (.ref f))) (ht : typeIn K (.ref f) = some (.type "function")) (hn : name ≠ Str.ofString "_initial_size")
    {h : Heap} {a dd : Addr} {size : Int} {vs : Array Value} (k : ∀ b o, hB.get? b = some o → h.get? b = some o) (at_ : AccAt C h a dd size vs) (pl : Sem Bool) : Looks (model prog w) h (getMethod (.ref a) name pl) (.ref f, [.ref a]) := by
  intro A Q E s k' q
  have at' : AccAt C s.heap a dd size vs := by
    obtain ⟨⟨n, ha⟩, hs, kk, t, j, hd⟩ := at_
    exact ⟨⟨n, k' _ _ ha⟩, hs, kk, t, j, k' _ _ hd⟩
  obtain ⟨n, od, I, _, hsh⟩ := at'.inst
  exact method_at ((X.keeps k).keeps k') I GK hf ht (.inl rfl) (hsh _ hn) q
end
end Mine
end

section
open PySem PySem.W PyProof.Rows PySem.Calls PySem.SeqAt
set_option maxRecDepth 100000
set_option linter.unusedSimpArgs false
namespace Mine

section
variable {prog : Program} {w : World} {A : Around} {E : Value → Shared → Prop} {s : Shared} {a : Addr} {cl : Value} {dd : Option Addr} {vs : Array Value} {n : Nat} {sl : Array (Option Value)}

theorem b_append {x : Value} {Q : Fin → Shared → Prop} (ha : s.heap.get? a = some ⟨cl, dd, .seq vs n, sl⟩)
    (hq : Q (.done (.ret .none)) { s with heap := s.heap.update a (Obj.mapSeq (·.push x)) }) (hsz : vs.size ≤ sizeLine) :
    wpAny (model prog w) A (Builtin.«list.append» ⟨[.ref a, x], []⟩) Q E s := by
  show wpAny _ _ (updateSeq a (·.push x) >>= fun _ => ret .none) _ _ s
  refine wpAny_bind ?_
  exact wpAny_updateSeq ha rfl (wpAny_pure hq)

theorem b_len {Q : Fin → Shared → Prop} (ha : s.heap.get? a = some ⟨cl, dd, .seq vs n, sl⟩)
    (hq : Q (.done (.ret (.int vs.size s.toks))) { s with toks := s.toks + 1 }) :
    wpAny (model prog w) A (Builtin.«list.__len__» ⟨[.ref a], []⟩) Q E s := by
  show wpAny _ _ (seqSize a >>= fun k => retInt k) _ _ s
  unfold seqSize
  refine wpAny_bind (wpAny_bind (wpAny_loadPart ha (wpAny_pure ?_)))
  unfold retInt
  exact wpAny_bind (wpAny_mkInt (wpAny_pure hq))

theorem b_pop {x : Value} {Q : Fin → Shared → Prop} (ha : s.heap.get? a = some ⟨cl, dd, .seq vs n, sl⟩) (hx : vs.toList.getLast? = some x)
    (hq : Q (.done (.ret x)) { s with heap := s.heap.update a (Obj.mapSeq (fun ys => ys.eraseIdxIfInBounds (vs.size - 1))) }) (hsz : vs.size ≤ sizeLine) :
    wpAny (model prog w) A (Builtin.«list.pop» ⟨[.ref a], []⟩) Q E s := by
  have hne : vs.isEmpty = false := by
    cases h : vs.isEmpty with
    | false => rfl
    | true =>
      rw [Array.isEmpty_iff] at h
      rw [h] at hx; cases hx
  have hpos : 0 < vs.size := by
    rw [Array.isEmpty_eq_false_iff] at hne
    exact Array.size_pos_iff.mpr hne
  have hi : (seqIndex? (-1) vs.size).bind (fun k => vs[k]?.map (k, ·)) = some (vs.size - 1, x) := by
    have e0 : seqIndex? (-1) vs.size = some (vs.size - 1) := by
      have e1 : ((-1 : Int) + (vs.size : Int)).toNat = vs.size - 1 := by omega
      have c : (decide (0 ≤ (-1 : Int) + (vs.size : Int)) && decide ((-1 : Int) + (vs.size : Int) < (vs.size : Int))) = true := by
        rw [Bool.and_eq_true, decide_eq_true_eq, decide_eq_true_eq]; omega
      unfold seqIndex?
      rw [if_pos (show (-1 : Int) < 0 by decide)]
      show (if (decide (0 ≤ (-1 : Int) + (vs.size : Int)) && decide ((-1 : Int) + (vs.size : Int) < (vs.size : Int))) = true then some ((-1 : Int) + (vs.size : Int)).toNat else none) = _
      rw [if_pos c, e1]
    rw [e0, Option.bind_some]
    have e2 : vs[vs.size - 1]? = some x := by
      rw [List.getLast?_eq_getElem?] at hx
      simpa using hx
    rw [e2]; rfl
  show wpAny _ _ (Builtin.List.listItems (.ref a) >>= _) _ _ s
  refine wpAny_bind (wpAny_listItems ha rfl ?_)
  simp only [hne, Bool.false_eq_true, if_false]
  refine wpAny_bind (wpAny_pure ?_)
  rw [hi]
  show wpAny _ _ (updateSeq a (fun ys => ys.eraseIdxIfInBounds (vs.size - 1)) >>= fun _ => ret x) _ _ s
  refine wpAny_bind ?_
  refine wpAny_updateSeq ha rfl (wpAny_pure hq) hsz ?_
  unfold Array.eraseIdxIfInBounds
  split
  · rw [Array.size_eraseIdx]; omega
  · omega
end

section
variable {prog : Program} {w : World} {A : Around} {E : Value → Shared → Prop} {s : Shared}

/-- a built-in method of an object whose class stands below the built-in's -/
theorem call_meth {id owner nm : String} {b : Builtin} {self : Value} {rest : List Value} {Q : Value → Shared → Prop} (hk : builtinKind id = some .method ∨ builtinKind id = some .slot) (hs : splitId id = some (owner, nm)) (hp : plainId id = true) (hb : entryFor table id = some b)
    (hi : Looks (model prog w) s.heap (isInstance self (.type owner)) true) (ha : argsOk id ⟨self :: rest, []⟩)
    (hc : wpAny (model prog w) A.in1 (b ⟨self :: rest, []⟩) (fun fin s' => ∃ v, fin = .done (.ret v) ∧ Q v s') E s) :
    wpAny (model prog w) A (call (.builtin id) (self :: rest)) Q E s := by
  refine wpAny_call (codeAny_call_builtin hp hb ?_)
  have hfin := wpAny_mono hc (Q' := fun fin s' => match fin with
      | .done f => (match (Except.ok f : Result) with | .ok (.ret v) => Q v s' | .ok _ => False | .error e => E e s')
      | .again c' => c'.quiet = true ∧ codeAny (model prog w) A c' (fun r s' => match r with | .ok (.ret v) => Q v s' | .ok _ => False | .error e => E e s') s')
    (fun fin s' h' => by obtain ⟨v, rfl, hv⟩ := h'; exact hv) fun _ _ h' => h'
  rcases hk with hk | hk <;>
  · simp only [checkBuiltinCall, hk, hs]
    refine wpAny_bind (hi.here ?_)
    simp only [Bool.not_true, Bool.false_eq_true, if_false]
    cases hsig : Manifest.signature? id with
    | none => exact wpAny_pure hfin
    | some sig =>
      simp only [argsOk, hsig] at ha
      have h2 : Bind.checkArgs id sig ⟨self :: rest, []⟩ = pure () := ha
      show wpAny _ A.in1 (Bind.checkArgs id sig ⟨self :: rest, []⟩) _ _ s
      rw [h2]; exact wpAny_pure hfin

variable {K : Frag} {h : Heap}
theorem inst_sub {x C : Addr} {ox : Obj} {od : Option Obj} {base : Value} {r : Bool} (X : K.In h) (I : InstAt h x ox C od) (e : subIn K (.ref C) base = some r) : Looks (model prog w) h (isInstance (.ref x) base) r :=
  I.type.andThen (looks_subIn X e)

end
end Mine
end

section
open PySem PySem.W PyProof.Rows PySem.Calls PySem.SeqAt
set_option maxRecDepth 100000
set_option linter.unusedSimpArgs false
namespace Mine

theorem mapSeq_at (cl : Value) (dd : Option Addr) (vs : Array Value) (n : Nat) (sl : Array (Option Value)) (f : Array Value → Array Value) : ∃ n', Obj.mapSeq f ⟨cl, dd, .seq vs n, sl⟩ = ⟨cl, dd, .seq (f vs) n', sl⟩ := ⟨_, rfl⟩

section
variable {X : Cx} {K : Frag}

/-- an accumulator's items turn -/
theorem acc_turn {ρ : Rho} {σ : Sto} {s : Shared} (G : StG X.hB X.os X.N.acc ρ σ s) {r : Nat} {p : Addr × Addr} {size : Int} {xs ys : List AV} {us ws : List Value} (hp : ρ[r]? = some p) (hc : σ[r]? = some (.acc size xs)) {f : Array Value → Array Value}
    (at_ : AccAt X.N.acc s.heap p.1 p.2 size us.toArray) (hf : f us.toArray = ws.toArray) (rs : RelVs X.hB ρ s.heap ys ws) (t : Nat) :
    StG X.hB X.os X.N.acc ρ (σ.set r (.acc size ys)) { s with heap := s.heap.update p.1 (Obj.mapSeq f), toks := t } ∧ Step ρ s ρ { s with heap := s.heap.update p.1 (Obj.mapSeq f), toks := t } := by
  obtain ⟨⟨n, ha⟩, hs, kk, tt, j, hd⟩ := at_
  obtain ⟨n', hn⟩ := mapSeq_at (.ref X.N.acc) (some p.2) us.toArray n #[] f
  have sb : Heap.SameBut p.1 s.heap (s.heap.update p.1 (Obj.mapSeq f)) := Heap.SameBut.update ..
  have hin : inρ ρ p.1 := ⟨p, List.mem_of_getElem? hp, rfl⟩
  have kp : KeepH (· = p.1) s.heap (s.heap.update p.1 (Obj.mapSeq f)) := fun b o e n => (sb.2 b n).trans e
  have hm : ∀ b, b = p.1 → Mut s.heap b ∧ X.hB.get? b = none := fun b e => by subst e; exact G.mut hin
  refine G.turn hp hc (c' := .acc size ys) sb ⟨ws, ⟨⟨n', ?_⟩, hs, kk, tt, j, kp _ _ hd (G.noDict hin hp hc)⟩, rs.mono kp hm (n := s.heap) .refl⟩ t
  rw [Heap.get?_update_self _ ha (by rw [hn]; rfl), hn, hf]

theorem push_ok (KX : K.In X.hB) (GK : GaK K X.N.acc) (hls : subIn K (.ref X.N.acc) (.type "list") = some true) (hap : findIn K (.ref X.N.acc) "append" = some (some (.builtin "list.append"))) (hlim : X.hB.NoLimit) {sn fw st : Str} {p1 p2 p3 p4 p5 p6 p7 : Pos} {k : Nat} {o : Obj} {fd : FuncData}
    (F : FnAt X.hB X.N.push ⟨[sn, fw, st], [.Expr (.Call (.Attribute (.Name sn p1) "append" p2) [.Tuple [.Name fw p3, .Name st p4] k p5] [] p6) p7]⟩ o fd)
    (ok : okE X.kn fd.scope (.Call (.Attribute (.Name sn p1) "append" p2) [.Tuple [.Name fw p3, .Name st p4] k p5] [] p6) = true) (hn : sn ≠ fw ∧ sn ≠ st ∧ fw ≠ st)
    {A : Around} {ρ : Rho} {σ : Sto} {s : Shared} {r : Nat} {size : Int} {xs : List AV} {a b : AV} {vals : List Value} (hA : AOk (X.d + 1) A) (G : StG X.hB X.os X.N.acc ρ σ s) (R : RelVs X.hB ρ s.heap [.ref r, a, b] vals)
    (hc : σ[r]? = some (.acc size xs)) (hsz : sizeOk xs.length = true) :
    wpAny (model X.prog X.w) A (call (.ref X.N.push) vals) (PostV X.hB X.os X.N.acc ρ s .none (σ.set r (.acc size (xs ++ [.tup [a, b]])))) Fls s := by
  have hsz' := sizeOk_le hsz
  refine call_enter F hlim rfl hA G R PostV.kont fun env s₁ Q' hsc S1 K' => ?_
  have hA' := hA.deeper env
  rw [← hsc] at ok
  obtain ⟨ok, ok2'⟩ := and2 (b := okEs X.kn env.scope [.Tuple [.Name fw p3, .Name st p4] k p5]) ok
  obtain ⟨ok, ok1⟩ := and2 ok
  obtain ⟨_, hline, _⟩ := and3 ok
  have l1 : (([sn, fw, st].zip [AV.ref r, a, b] : Loc)).lookup sn = some (.ref r) := by simp []
  have l2 : (([sn, fw, st].zip [AV.ref r, a, b] : Loc)).lookup fw = some a := by
    have : (fw == sn) = false := by simpa using (fun e => hn.1 e.symm)
    simp [List.lookup, this]
  have l3 : (([sn, fw, st].zip [AV.ref r, a, b] : Loc)).lookup st = some b := by
    have q1 : (st == sn) = false := by simpa using (fun e => hn.2.1 e.symm)
    have q2 : (st == fw) = false := by simpa using (fun e => hn.2.2 e.symm)
    simp [List.lookup, q1, q2]
  generalize ([sn, fw, st].zip [AV.ref r, a, b] : Loc) = m at S1 l1 l2 l3
  have nm : ∀ {x : Str} {p : Pos} {u : AV}, m.lookup x = some u → ev X.O m (.Name x p) σ = some (u, σ) := fun {x p u} e => by
    show (bind1 (m.lookup x) fun v => some (v, σ)) = _
    rw [e]; rfl
  have ev2 : ev X.O m (.Tuple [.Name fw p3, .Name st p4] k p5) σ = some (.tup [a, b], σ) := by
    show (bind2 (evs X.O m [.Name fw p3, .Name st p4] σ) fun vs σ1 => if sizeOk vs.length then some (AV.tup vs, σ1) else none) = _
    have : evs X.O m [.Name fw p3, .Name st p4] σ = some ([a, b], σ) := by
      show (bind2 (ev X.O m (.Name fw p3) σ) fun v σ1 => bind2 (evs X.O m [.Name st p4] σ1) fun vs σ2 => some (v :: vs, σ2)) = _
      rw [nm l2]
      show (bind2 (evs X.O m [.Name st p4] σ) fun vs σ2 => some (a :: vs, σ2)) = _
      rw [evs_one (nm l3)]; rfl
    rw [this]; rfl
  refine wpAny_execs_cons (wpAny_Expr_any ?_ (by unfold interactive; rw [S1.f.kind]; rfl) rfl)
  rw [arm_eval_Call, base_plain rfl]
  refine wpAny_bind (snd_name _ σ _ σ (A.deeper env) env ρ s₁ _ ok1 (nm l1) hA' S1 fun x s2 ρ2 T2 G2 r2 => wpAny_bind (wpAny_standAt ?_))
  have hform : methodCallForm (([PySem.Expr.Tuple [.Name fw p3, .Name st p4] k p5] : List PySem.Expr).length + ([] : List Keyword).length) (backTo p6 (starEach [.Tuple [.Name fw p3, .Name st p4] k p5] env)) (backToKw p6 (keywordEach [] env)) = true := by
    unfold methodCallForm; rfl
  have hpos : methodCallPos true (.Name sn p1) env p2 p6 = pure p6 := by unfold methodCallPos; simp [hline]
  unfold methodCall
  rw [hform]
  obtain ⟨p, hp, rfl⟩ := r2.refE
  obtain ⟨us, at_, rs⟩ := G2.cell _ _ _ hc hp
  obtain ⟨n, od, I, ha, hsh⟩ := at_.inst
  refine wpAny_bind (wpAny_holding (method_at (m := .builtin "list.append") (ty := "method_descriptor") (KX.keeps G2.base) I GK hap (show pureOf (fastBuiltinType "list.append") = _ by decide +kernel) (.inr rfl) (hsh _ (by decide)) ?_))
  refine wpAny_bind (wpAny_of_eq hpos ?_)
  refine callWith_all (X := X) kp_builtin ok2' (snd_each (fun e he => ?_) _ σ _ σ (A.deeper env) env ρ2 s2 p6 _ ok2' (evs_one ev2) hA' (S1.step T2 G2) fun ys s3 ρ3 T3 G3 rt => ?_)
  · rw [List.mem_singleton.mp he]
    exact snd_tuple fun e he => by
      rcases List.mem_cons.mp he with rfl | he
      · exact snd_name
      · rw [List.mem_singleton.mp he]; exact snd_name
  · obtain ⟨vt, rt1, rfl⟩ := rt.oneE
    refine ⟨G3.base, ?_⟩
    have hp3 := T3.grow.get hp
    obtain ⟨us3, at3, rs3⟩ := G3.cell _ _ _ hc hp3
    obtain ⟨n3, od3, I3, ha3, _⟩ := at3.inst
    have hlen := rs3.length
    have fin := acc_turn G3 hp3 hc (f := (·.push vt)) (ws := us3 ++ [vt]) (ys := xs ++ [.tup [a, b]]) at3 (by simp) (rs3.append (.cons rt1 .nil)) s3.toks
    refine call_meth (b := Builtin.«list.append») (nm := "append") (owner := "list") (.inl (by decide +kernel)) (by decide +kernel) (by decide +kernel) PySem.F.entry_list_append (inst_sub (KX.keeps G3.base) I3 hls) (PySem.args_list_append _ _) ?_
    have T := (T2.trans T3).trans fin.2
    exact b_append ha3 ⟨.none, rfl, wpAny_execs_nil (K' .next m rfl _ _ ρ3 (T.toS S1.f) (S1.step T fin.1) .next)⟩ (by simp [sizeLine_eq']; omega)
end
end Mine
end

section
open PySem PySem.W PyProof.Rows PySem.Calls PySem.SeqAt
set_option maxRecDepth 100000
set_option linter.unusedSimpArgs false
namespace Mine

namespace FS
theorem slot_wd : Slot "wrapper_descriptor" "__get__" "wrapper_descriptor.__get__" :=
  .of (owner := "wrapper_descriptor") (n := "__get__") (by rw [typeLookup_type, builtinLookup_eq_fast]; kernel_rfl) (by decide +kernel) (by decide +kernel) (by decide +kernel)
    (by first | exact .inl (by decide +kernel) | exact .inr (by decide +kernel)) (by rw [isSubtype_type]; kernel_rfl)
theorem slot_md : Slot "method_descriptor" "__get__" "method_descriptor.__get__" :=
  .of (owner := "method_descriptor") (n := "__get__") (by rw [typeLookup_type, builtinLookup_eq_fast]; kernel_rfl) (by decide +kernel) (by decide +kernel) (by decide +kernel)
    (by first | exact .inl (by decide +kernel) | exact .inr (by decide +kernel)) (by rw [isSubtype_type]; kernel_rfl)
theorem entry_wd : entryFor table "wrapper_descriptor.__get__" = some Builtin.«wrapper_descriptor.__get__» := entryFor_of_tree (by kernel_rfl)
theorem entry_md : entryFor table "method_descriptor.__get__" = some Builtin.«method_descriptor.__get__» := entryFor_of_tree (by kernel_rfl)
theorem args_wd (a b c : Value) : argsOk "wrapper_descriptor.__get__" ⟨[a, b, c], []⟩ := by unfold argsOk; kernel_rfl
theorem args_md (a b c : Value) : argsOk "method_descriptor.__get__" ⟨[a, b, c], []⟩ := by unfold argsOk; kernel_rfl
theorem type_len : typeOf (.builtin "list.__len__") = pure (.type "wrapper_descriptor") := by show builtinType _ = _; rw [builtinType_eq_fast]; kernel_rfl
theorem type_init : typeOf (.builtin "list.__init__") = pure (.type "wrapper_descriptor") := by show builtinType _ = _; rw [builtinType_eq_fast]; kernel_rfl
theorem type_pop : typeOf (.builtin "list.pop") = pure (.type "method_descriptor") := by show builtinType _ = _; rw [builtinType_eq_fast]; kernel_rfl
theorem entry_len : entryFor table "list.__len__" = some Builtin.«list.__len__» := entryFor_of_tree (by kernel_rfl)
theorem entry_pop : entryFor table "list.pop" = some Builtin.«list.pop» := entryFor_of_tree (by kernel_rfl)
theorem entry_init : entryFor table "list.__init__" = some Builtin.«list.__init__» := entryFor_of_tree (by kernel_rfl)
end FS

/-- a built-in bound to an object -/
noncomputable abbrev boundObj (bt : String) (id : String) (x : Addr) : Obj := { cls := .type bt, data := .fields #[.builtin id, .ref x] }

section
variable {prog : Program} {w : World} {M : Model} {A : Around} {E : Value → Shared → Prop} {s : Shared}

theorem wd_len {x C : Addr} {P : Fin → Shared → Prop} (hi : Looks M s.heap (isInstance (.ref x) (.type "list")) true) (h : P (.done (.ret (.ref s.heap.objs.size))) { s with heap := s.heap.push (boundObj "method-wrapper" "list.__len__" x) }) :
    wpAny M A (Builtin.«wrapper_descriptor.__get__» ⟨[.builtin "list.__len__", .ref x, .ref C], []⟩) P E s := by
  unfold Builtin.«wrapper_descriptor.__get__»
  refine wpAny_bind (wpAny_of_eq (a := (.builtin "list.__len__", some (.ref x), some (.ref C))) (by first | rfl | kernel_rfl) ?_)
  show wpAny _ _ ((isInstance (.ref x) (.type "list") >>= _) >>= _) _ _ _
  refine wpAny_bind (wpAny_bind (hi.here ?_))
  exact wpAny_pure (wpAny_bind (wpAny_newObj_type (wpAny_pure h)))
theorem wd_init {x C : Addr} {P : Fin → Shared → Prop} (hi : Looks M s.heap (isInstance (.ref x) (.type "list")) true) (h : P (.done (.ret (.ref s.heap.objs.size))) { s with heap := s.heap.push (boundObj "method-wrapper" "list.__init__" x) }) :
    wpAny M A (Builtin.«wrapper_descriptor.__get__» ⟨[.builtin "list.__init__", .ref x, .ref C], []⟩) P E s := by
  unfold Builtin.«wrapper_descriptor.__get__»
  refine wpAny_bind (wpAny_of_eq (a := (.builtin "list.__init__", some (.ref x), some (.ref C))) (by first | rfl | kernel_rfl) ?_)
  show wpAny _ _ ((isInstance (.ref x) (.type "list") >>= _) >>= _) _ _ _
  refine wpAny_bind (wpAny_bind (hi.here ?_))
  exact wpAny_pure (wpAny_bind (wpAny_newObj_type (wpAny_pure h)))
theorem md_pop {x C : Addr} {P : Fin → Shared → Prop} (hi : Looks M s.heap (isInstance (.ref x) (.type "list")) true) (h : P (.done (.ret (.ref s.heap.objs.size))) { s with heap := s.heap.push (boundObj "builtin_function_or_method" "list.pop" x) }) :
    wpAny M A (Builtin.«method_descriptor.__get__» ⟨[.builtin "list.pop", .ref x, .ref C], []⟩) P E s := by
  unfold Builtin.«method_descriptor.__get__»
  refine wpAny_bind (wpAny_of_eq (a := (.builtin "list.pop", some (.ref x), some (.ref C))) (by first | rfl | kernel_rfl) ?_)
  dsimp only
  refine KFB.if_not (by decide +kernel) ?_
  show wpAny _ _ ((isInstance (.ref x) (.type "list") >>= _) >>= _) _ _ _
  refine wpAny_bind (wpAny_bind (hi.here ?_))
  exact wpAny_pure (wpAny_bind (wpAny_newObj_type (wpAny_pure h)))
end

section
variable {prog : Program} {w : World} {A : Around} {E : Value → Shared → Prop} {h : Heap} {g : Array GenState} {d : Drawn} {t : Nat} {os : OsState}

theorem sup_ga {so D x C : Addr} {l₀ l : List Value} {K : Frag} {name : Str} {tk : Tok} {id ty gid bt : String} {b : Builtin} {Q : Fin → Shared → Prop}
    (hso : h.get? so = some { cls := .type "super", dict := none, data := .fields #[.ref D, .ref x, .ref C], slots := #[] }) (hno : Looks (model prog w) h (opaqueClassAbove (.ref C)) none)
    (hC : Looks (model prog w) h (mroOf (.ref C)) l₀) (hl : (l₀.dropWhile (· != .ref D)).drop 1 = l) (X : K.In h)
    (hf : alongIn K name l = some (some (.builtin id))) (hty : typeOf (.builtin id) = pure (.type ty)) (sl : Slot ty "__get__" gid) (en : entryFor table gid = some b) (ao : argsOk gid ⟨[.builtin id, .ref x, .ref C], []⟩)
    (hb : ∀ (A' : Around) (P : Fin → Shared → Prop) (E' : Value → Shared → Prop), P (.done (.ret (.ref h.objs.size))) ⟨h.push (boundObj bt id x), g, d, t, os⟩ → wpAny (model prog w) A' (b ⟨[.builtin id, .ref x, .ref C], []⟩) P E' ⟨h, g, d, t, os⟩)
    (hxC : x ≠ C) (hn : (name == ("__class__" : Str)) = false) (hq : Q (.done (.ret (.ref h.objs.size))) ⟨h.push (boundObj bt id x), g, d, t, os⟩) :
    wpAny (model prog w) A (Builtin.«super.__getattribute__» ⟨[.ref so, .str name tk], []⟩) Q E ⟨h, g, d, t, os⟩ := by
  have hlk := sl.lookup
  have hTf : (⟨h, g, d, t, os⟩ : Shared).TypeIs (.builtin id) ty := hty
  have hne : (Value.ref x == Value.ref C) = false := by simp [hxC]
  have hdt : ({ cls := .type "super", dict := none, data := .fields #[.ref D, .ref x, .ref C], slots := #[] } : Obj).data = .fields #[.ref D, .ref x, .ref C] := rfl
  have f0 : (#[.ref D, .ref x, .ref C] : Array Value)[0]? = some (.ref D) := rfl
  have f1 : (#[.ref D, .ref x, .ref C] : Array Value)[1]? = some (.ref x) := rfl
  have f2 : (#[.ref D, .ref x, .ref C] : Array Value)[2]? = some (.ref C) := rfl
  unfold Builtin.«super.__getattribute__»
  repeat (first
    | (with_reducible refine wpAny_field hso hdt f0 ?_) | (with_reducible refine wpAny_field hso hdt f1 ?_) | (with_reducible refine wpAny_field hso hdt f2 ?_)
    | (with_reducible refine ks_wpAny_notOpaque hno ?_)
    | (with_reducible refine Looks.at hC ?_; rw [hl])
    | (refine ks_forIn_along X (fun _ _ => rfl) rfl ?_ hf)
    | (with_reducible refine wpAny_of_eq hty ?_)
    | (with_reducible refine wpAny_call_entry sl hTf en ?_ ao)
    | (refine hb _ _ _ ?_)
    | (with_reducible refine ⟨_, rfl, ?_⟩)
    | (simp only [hn, hne, Bool.or_false, Bool.false_eq_true, if_false])
    | wp_step
    | dsimp only)
  all_goals exact hq

theorem sup_method {so D x C : Addr} {l₀ l : List Value} {K : Frag} {name : Str} {pl : Sem Bool} {id ty gid bt : String} {b : Builtin} {Q : Value × List Value → Shared → Prop}
    (hso : h.get? so = some { cls := .type "super", dict := none, data := .fields #[.ref D, .ref x, .ref C], slots := #[] }) (hno : Looks (model prog w) h (opaqueClassAbove (.ref C)) none)
    (hC : Looks (model prog w) h (mroOf (.ref C)) l₀) (hl : (l₀.dropWhile (· != .ref D)).drop 1 = l) (X : K.In h)
    (hf : alongIn K name l = some (some (.builtin id))) (hty : typeOf (.builtin id) = pure (.type ty)) (sl : Slot ty "__get__" gid) (en : entryFor table gid = some b) (ao : argsOk gid ⟨[.builtin id, .ref x, .ref C], []⟩)
    (hb : ∀ (A' : Around) (P : Fin → Shared → Prop) (E' : Value → Shared → Prop), P (.done (.ret (.ref h.objs.size))) ⟨h.push (boundObj bt id x), g, d, t + 1, os⟩ → wpAny (model prog w) A' (b ⟨[.builtin id, .ref x, .ref C], []⟩) P E' ⟨h, g, d, t + 1, os⟩)
    (hxC : x ≠ C) (hn : (name == ("__class__" : Str)) = false) (hq : Q (.ref h.objs.size, []) ⟨h.push (boundObj bt id x), g, d, t + 1, os⟩) :
    wpAny (model prog w) A (getMethod (.ref so) name pl) Q E ⟨h, g, d, t, os⟩ := by
  have hlk := F.ks_slot_super_ga.lookup
  have hcan := F.ks_canon_super_ga
  have hT : ∀ t', (⟨h, g, d, t', os⟩ : Shared).TypeIs (.ref so) "super" := fun _ => ⟨_, hso, rfl⟩
  unfold getMethod
  refine wpAny_bind (wpAny_specialOf (hT _) hlk ?_)
  show wpAny _ _ (if (Manifest.canonical "super.__getattribute__" != "object.__getattribute__") = true then _ else _) _ _ _
  rw [if_pos hcan]
  unfold getAttr getAttrBy
  refine wpAny_bind (wpAny_bind (wpAny_mkText (wpAny_holding (wpAny_bind (wpAny_typeOf (hT _) (wpAny_bind (wpAny_of_eq hlk ?_)))))))
  show wpAny _ _ (getAttrByItsOwn (.ref so) (.str name t) (.type "super") (.builtin "super.__getattribute__") true false) _ _ _
  unfold getAttrByItsOwn hookBefore callGetattribute boundAndCalled
  refine wpAny_bind (wpAny_of_eq (show (if onTheHeap (.type "super") then typeLookup (.type "super") "__getattr__" else pure none) = pure none from rfl) ?_)
  refine wpAny_bind (wpAny_attempt (wpAny_holding ?_))
  show wpAny _ _ (bindSpecial (.builtin "super.__getattribute__") (.ref so) >>= _) _ _ _
  refine wpAny_bind (wpAny_of_eq (F.ks_slot_super_ga.bind _) ?_)
  refine wpAny_mono (Q := fun v s' => v = .ref h.objs.size ∧ s' = ⟨h.push (boundObj bt id x), g, d, t + 1, os⟩) (E := fun _ _ => False)
    (wpAny_call_entry F.ks_slot_super_ga (hT _) F.ks_entry_super_ga (sup_ga hso hno hC hl X hf hty sl en ao hb hxC hn ⟨_, rfl, rfl, rfl⟩) (F.ks_gaArgs_super _ _)) (fun v s' hv => ?_) fun _ _ z => z.elim
  obtain ⟨rfl, rfl⟩ := hv
  exact wpAny_pure (wpAny_pure hq)
end
end Mine
end

section
open PySem PySem.W PyProof.Rows PySem.Calls PySem.SeqAt
set_option maxRecDepth 100000
set_option linter.unusedSimpArgs false
namespace Mine

section
variable {prog : Program} {w : World} {M : Model} {A : Around} {E : Value → Shared → Prop} {s : Shared} {cl : Value} {dd : Option Addr} {vs : Array Value} {n : Nat} {sl : Array (Option Value)}

theorem len_check (x : Addr) : checkBoundCall "list.__len__" ⟨[.ref x], []⟩ = pure () := by first | kernel_rfl | rfl
theorem init_check (x : Addr) : checkBoundCall "list.__init__" ⟨[.ref x], []⟩ = pure () := by first | kernel_rfl | rfl

theorem call_len {q x : Addr} {Q : Value → Shared → Prop} (hq : s.heap.get? q = some (boundObj "method-wrapper" "list.__len__" x)) (hx : s.heap.get? x = some ⟨cl, dd, .seq vs n, sl⟩)
    (h : Q (.int vs.size s.toks) { s with toks := s.toks + 1 }) : wpAny (model prog w) A (call (.ref q) []) Q E s := by
  refine wpAny_call (codeAny_of_tree ?_)
  show wpAny _ A.in1 (load q >>= _) _ _ s
  refine wpAny_bind (wpAny_load hq ?_)
  dsimp only [boundObj]
  refine KFB.if_so (by decide) ?_
  refine KFB.if_so (by decide) ?_
  refine wpAny_bind (wpAny_of_eq (a := ()) (len_check x) ?_)
  refine wpAny_bind (wpAny_pure (wpAny_pure ?_))
  exact ⟨Code.quiet_builtin _ (by decide +kernel), codeAny_builtin FS.entry_len (b_len hx h)⟩

noncomputable def popSig : Manifest.Signature := (Manifest.signature? "list.pop").get (by decide +kernel)
theorem popSig_is : Manifest.signature? "list.pop" = some popSig := (Option.some_get _).symm

theorem pop_check {K : Frag} {x C : Addr} {ox : Obj} {od : Option Obj} {cd : ClassData} {Q : Unit → Shared → Prop} (X : K.In s.heap) (I : InstAt s.heap x ox C od) (hd : ∀ c, ox.data ≠ .cls c) (hm : subIn K (.ref C) (.type "module") = some false) (hc : clsIn K C = some cd)
    (ht : typeIn K (.ref C) = some (.type "type")) (ha : ∀ y : Addr, Bind.checkArgs "list.pop" { popSig with full := s!"{cd.qualname.toString}.{Bind.lastOf "list.pop"}" } ⟨[.ref y], []⟩ = pure ()) (hq : Q () s) :
    wpAny M A (checkBoundCall "list.pop" ⟨[.ref x], []⟩) Q E s := by
  have hk : builtinKind "list.pop" = some .method := by decide +kernel
  have hi : Looks M s.heap (isInstance (.ref x) (.type "module")) false := I.type.andThen (looks_subIn X hm)
  have hv : Manifest.varargsMethods.contains "list.pop" = false := by decide +kernel
  unfold checkBoundCall
  rw [popSig_is, hk]
  dsimp only
  refine KFB.if_not (by decide) ?_
  refine wpAny_bind (hi.here ?_)
  rw [hv]
  refine KFB.if_not rfl ?_
  obtain ⟨hh, g, d, t, os⟩ := s
  refine wpAny_bind (ks_wpAny_isType_inst I.at_ hd ?_)
  refine KFB.if_not rfl ?_
  refine wpAny_bind (I.type.here ?_)
  dsimp only
  refine wpAny_bind ((looks_clsIn X hc).here ?_)
  refine wpAny_bind ((looks_typeIn X ht).here ?_)
  refine KFB.if_so (by decide) ?_
  exact wpAny_of_eq (ha x) hq

theorem call_pop {K : Frag} {q x C : Addr} {od : Option Obj} {cd : ClassData} {y : Value} {Q : Value → Shared → Prop} (hq : s.heap.get? q = some (boundObj "builtin_function_or_method" "list.pop" x)) (X : K.In s.heap) (I : InstAt s.heap x ⟨.ref C, dd, .seq vs n, sl⟩ C od)
    (hm : subIn K (.ref C) (.type "module") = some false) (hc : clsIn K C = some cd)
    (ht : typeIn K (.ref C) = some (.type "type")) (ha : ∀ y : Addr, Bind.checkArgs "list.pop" { popSig with full := s!"{cd.qualname.toString}.{Bind.lastOf "list.pop"}" } ⟨[.ref y], []⟩ = pure ())
    (hy : vs.toList.getLast? = some y) (hsz : vs.size ≤ sizeLine) (h : Q y { s with heap := s.heap.update x (Obj.mapSeq (fun ys => ys.eraseIdxIfInBounds (vs.size - 1))) }) : wpAny (model prog w) A (call (.ref q) []) Q E s := by
  refine wpAny_call (codeAny_of_tree ?_)
  show wpAny _ A.in1 (load q >>= _) _ _ s
  refine wpAny_bind (wpAny_load hq ?_)
  dsimp only [boundObj]
  refine KFB.if_so (by decide) ?_
  refine KFB.if_so (by decide) ?_
  refine wpAny_bind (pop_check X I (by simp) hm hc ht ha ?_)
  refine wpAny_bind (wpAny_pure (wpAny_pure ?_))
  exact ⟨Code.quiet_builtin _ (by decide +kernel), codeAny_builtin FS.entry_pop (b_pop I.at_ hy h hsz)⟩

theorem call_init {q x : Addr} {Q : Value → Shared → Prop} (hq : s.heap.get? q = some (boundObj "method-wrapper" "list.__init__" x)) (hx : s.heap.get? x = some ⟨cl, dd, .seq #[] n, sl⟩)
    (h : ∀ n', Q .none { s with heap := s.heap.update x (Obj.mapSeq (fun _ => #[])), toks := n' }) : wpAny (model prog w) A (call (.ref q) []) Q E s := by
  refine wpAny_call (codeAny_of_tree ?_)
  show wpAny _ A.in1 (load q >>= _) _ _ s
  refine wpAny_bind (wpAny_load hq ?_)
  dsimp only [boundObj]
  refine KFB.if_so (by decide) ?_
  refine KFB.if_so (by decide) ?_
  refine wpAny_bind (wpAny_of_eq (a := ()) (init_check x) ?_)
  refine wpAny_bind (wpAny_pure (wpAny_pure ?_))
  refine ⟨Code.quiet_builtin _ (by decide +kernel), codeAny_builtin FS.entry_init ?_⟩
  show wpAny _ _ (Builtin.List.listItems (.ref x) >>= _) _ _ s
  refine wpAny_bind (wpAny_listItems hx rfl ?_)
  refine wpAny_bind ?_
  show wpAny _ _ (updateSeq x (fun _ => #[])) _ _ s
  refine wpAny_updateSeq hx rfl ?_ (by decide) (by decide)
  refine wpAny_bind (wpAny_letGo ?_)
  exact wpAny_pure (h s.toks)
end
end Mine
end

section
open PySem PySem.W PyProof.Rows PySem.Calls PySem.SeqAt
set_option maxRecDepth 100000
set_option linter.unusedSimpArgs false
namespace Mine

/-- a def of the class's own that names super -/
structure SupFn (prog : Program) (hB : Heap) (mg mb : Str → Option Value) (K : Frag) (f D : Addr) (ar : Arg) (fd : FuncData) : Prop where
  fn : ∃ oc od osl, K.lookup f = some ⟨oc, od, .func fd, osl⟩
  cell : ∃ cc, fd.closure = [(("__class__" : Str), cc)] ∧ ∃ ccl ccd csl, K.lookup cc = some ⟨ccl, ccd, .cell (some (.ref D)), csl⟩
  code : ∃ cda oc od vs sl file tf, fd.code = .ref cda ∧ K.lookup cda = some ⟨oc, od, .fields vs, sl⟩ ∧ vs[2]? = some (.str file tf) ∧ ((prog.main.file : Str) == file) = true
  rec_ : hB.CodeRec fd.code fd.qualname
  glob : fd.globals = mainGlobals
  bui : fd.builtins = builtinsNs
  kind : fd.scope.kind = .function
  noCell : ∀ x ∈ fd.scope.names, x.2 ≠ .cell
  co : fd.scope.isCoroutine = false
  gen : fd.scope.isGenerator = false
  sup : fd.scope.names.lookup ("super" : Str) = some .globalImplicit
  cls : fd.scope.names.lookup ("__class__" : Str) = some .free
  par : (fd.params.posonlyargs ++ fd.params.args).head? = some ar
  parK : fd.scope.names.lookup ar.arg = some .local
  top : (prog.main.scope.names.lookup ("super" : Str)).isSome = false
  Tg : hB.Ns mainGlobals mg
  Tb : hB.Ns builtinsNs mb
  mgS : mg "super" = none
  mbS : mb "super" = some (.type "super")

/-- what is asked of the accumulator's class -/
structure AccC (prog : Program) (w : World) (K : Frag) (C : Addr) (cd : ClassData) : Prop where
  cls : clsIn K C = some cd
  no : ∀ h, K.In h → Looks (model prog w) h (opaqueClassAbove (.ref C)) none
  list : subIn K (.ref C) (.type "list") = some true
  self : mroIn K C (.ref C) = some true
  len : alongIn K "__len__" ((cd.mro.dropWhile (· != .ref C)).drop 1) = some (some (.builtin "list.__len__"))
  init : alongIn K "__init__" ((cd.mro.dropWhile (· != .ref C)).drop 1) = some (some (.builtin "list.__init__"))
  pop : alongIn K "pop" ((cd.mro.dropWhile (· != .ref C)).drop 1) = some (some (.builtin "list.pop"))
  mod : subIn K (.ref C) (.type "module") = some false
  typ : typeIn K (.ref C) = some (.type "type")
  popA : ∀ y : Addr, Bind.checkArgs "list.pop" { popSig with full := s!"{cd.qualname.toString}.{Bind.lastOf "list.pop"}" } ⟨[.ref y], []⟩ = pure ()

/-- the heap goes on -/
noncomputable def Goes (s s' : Shared) : Prop := ∃ h' t, s' = { s with heap := h', toks := t } ∧ ∀ b o, s.heap.get? b = some o → h'.get? b = some o
theorem Goes.refl {s : Shared} : Goes s s := ⟨s.heap, s.toks, rfl, fun _ _ e => e⟩

section
variable {prog : Program} {w : World} {A : Around} {E : Value → Shared → Prop} {hB : Heap} {mg mb : Str → Option Value} {K : Frag} {f D C : Addr} {ar : Arg} {fd : FuncData} {cd : ClassData}

theorem inst_ne {h : Heap} {x : Addr} {ox : Obj} {od : Option Obj} (X : K.In h) (I : InstAt h x ox C od) (hc : clsIn K C = some cd) : x ≠ C := ks_ne X I hc

/-- into such a def -/
theorem sup_enter {R : Result → Shared → Prop} {body : List PySem.Stmt} {vals : List Value} {binds : List (Str × Value)} {s : Shared} (F : SupFn prog hB mg mb K f D ar fd) (X : K.In hB) (hlim : hB.NoLimit) (hbody : fd.body = .stmts body)
    (k : ∀ b o, hB.get? b = some o → s.heap.get? b = some o) (hroom : A.depth < recursionLimit) (hbind : BindsTo s fd ⟨vals, []⟩ binds) (hloc : ∀ x ∈ binds, fd.scope.names.lookup x.1 = some .local)
    (h : ∀ h₀, h₀.Ns s.heap.objs.size (fun x => binds.reverse.lookup x) → (∀ b o, s.heap.get? b = some o → h₀.get? b = some o) →
      _root_.PySem.wpAt (model prog w) (A.deeper (callEnv fd s.heap.objs.size f)) (.func body (callEnv fd s.heap.objs.size f)) (execs body (callEnv fd s.heap.objs.size f)) (fun f s' => R (.ok (.ret (match f with | .ret v => v | _ => .none))) s') Fls
        { s with heap := h₀, toks := s.toks + binds.length }) : codeAny (model prog w) A (.call (.ref f) ⟨vals, []⟩) R s := by
  obtain ⟨oc, od, osl, hf⟩ := F.fn
  refine ks_codeAny_call_defAt (binds := binds) hroom (k _ _ (X _ _ hf)) rfl ?_ (F.rec_.keeps k) hbody hbind F.noCell hloc (fun h₀ hn hk => ?_) F.co F.gen F.kind
  · obtain ⟨mc, h1, h2⟩ := hlim; exact ⟨mc, h1.keeps k, h2⟩
  · exact ks_wpAt_mono (h h₀ hn hk) (fun _ _ q => q) fun _ _ q => q.elim

/-- super() -/
theorem sup_base {L : Addr} {x : Addr} {m : Str → Option Value} {body : List PySem.Stmt} {p0 p1 : Pos} {attr : Str} {whole : Sem Value} {s : Shared} {ox : Obj} {od : Option Obj} {Q : Value → Shared → Prop} (F : SupFn prog hB mg mb K f D ar fd) (AC : AccC prog w K D cd) (X : K.In hB)
    (k : ∀ b o, hB.get? b = some o → s.heap.get? b = some o) (hn : s.heap.Ns L m) (hm : m ar.arg = some (.ref x)) (I : InstAt s.heap x ox D od) (hnc : ∀ c, ox.data ≠ .cls c) (hat : (attr == ("__class__" : Str)) = false)
    (h : ∀ h', h'.get? s.heap.objs.size = some { cls := .type "super", dict := none, data := .fields #[.ref D, .ref x, .ref D], slots := #[] } → (∀ b o, s.heap.get? b = some o → h'.get? b = some o) → Q (.ref s.heap.objs.size) { s with heap := h' }) :
    _root_.PySem.wpAt (model prog w) A (.func body (callEnv fd L f)) (attributeBase (.Call (.Name "super" p0) [] [] p1) attr (callEnv fd L f) whole) Q E s := by
  obtain ⟨oc, odf, osl, hf⟩ := F.fn
  obtain ⟨cc, hcl, ccl, ccd, csl, hcc⟩ := F.cell
  obtain ⟨cda, oc', odc, vs, sl', file, tf, hcode, hcda, hvs, hfile⟩ := F.code
  have Xs : K.In s.heap := X.keeps k
  obtain ⟨hh, g, d, t, os⟩ := s
  obtain ⟨oD, hD1, hD2⟩ : ∃ oD, hh.get? D = some oD ∧ oD.data = .cls cd := by
    have hD := AC.cls
    unfold clsIn at hD
    split at hD
    · rename_i c d cd' sl ho
      cases hD
      exact ⟨_, Xs _ _ ho, rfl⟩
    · cases hD
  refine ks_wpAt_super_base (env := callEnv fd L f) F.sup F.cls hat rfl (Xs _ _ hf) rfl F.par hcode (Xs _ _ hcda) rfl hvs hfile F.top ?_
  refine ks_loadName_global F.kind F.sup (loadGlobal_builtin (env := callEnv fd L f) (mg := mg) (mb := mb) ?_ F.mgS ?_ F.mbS ⟨rfl, ?_⟩)
  · show hh.Ns fd.globals mg
    rw [F.glob]; exact F.Tg.keeps k
  · show hh.Ns fd.builtins mb
    rw [F.bui]; exact F.Tb.keeps k
  refine wpAny_loadName_free (c := cc) F.kind F.cls ?_ ⟨_, Xs _ _ hcc, rfl⟩ ?_
  · show fd.closure.lookup _ = _
    rw [hcl]; rfl
  refine wpAny_loadName_local F.kind F.parK hn hm ?_
  refine ks_wpAny_isType_cls hD1 hD2 ⟨rfl, ?_⟩
  refine ks_wpAny_call_super hD1 hD2 I.at_ I.cls hnc (looks_mroIn Xs AC.self) (fun h' e k' => ?_)
  exact h h' e k'

/-- a method's call without arguments -/
theorem at_method {c : Code} {env : Env} {o : PySem.Expr} {name : Str} {apos pos : Pos} {s : Shared} {Q : Value → Shared → Prop} (hline : (apos.endLine == pos.line) = true)
    (h : _root_.PySem.wpAt (model prog w) A c (attributeBase o name env (eval o env)) (fun ov s₁ => ∀ pl : Sem Bool, wpAny (model prog w) A (getMethod ov name pl) (fun fx s₂ => wpAny (model prog w) A (callWith pos fx.1 fx.2 [] []) Q E s₂) E s₁) E s) :
    _root_.PySem.wpAt (model prog w) A c (eval (.Call (.Attribute o name apos) [] [] pos) env) Q E s := by
  rw [arm_eval_Call]
  have hpos : methodCallPos true o env apos pos = pure pos := by unfold methodCallPos; simp [hline]
  refine _root_.PySem.wpAt_bind (ks_wpAt_mono h (fun ov s₁ h₁ => _root_.PySem.wpAt_of_wpAny (wpAny_bind (wpAny_standAt ?_))) fun _ _ x => x)
  show wpAny _ A (methodCall o name apos pos env ov 0 [] []) Q E s₁
  unfold methodCall
  rw [show methodCallForm 0 [] [] = true from rfl]
  refine wpAny_bind (wpAny_holding (wpAny_mono (h₁ _) (fun fx s₂ h₂ => ?_) fun _ _ x => x))
  exact wpAny_bind (wpAny_of_eq hpos h₂)

/-- a bound built-in is called -/
theorem callWith_bound {pos : Pos} {q x : Addr} {bt id : String} {s : Shared} {Q : Value → Shared → Prop} (hbt : bt = "method-wrapper" ∨ bt = "builtin_function_or_method") (hq : s.heap.get? q = some (boundObj bt id x)) (h : wpAny (model prog w) A (call (.ref q) []) Q E s) :
    wpAny (model prog w) A (callWith pos (.ref q) [] [] []) Q E s := by
  refine callWith_of (P := fun h => h.get? q = some (boundObj bt id x)) rfl (fun h hp => ⟨.machine, .inr (.inl rfl), ?_⟩) (evalArgs_nil3 ⟨hq, h⟩)
  refine (Looks.ld (part := none) hp).andThen (.of_pure ?_)
  rcases hbt with rfl | rfl <;> rfl

theorem pc_ok {s : Shared} {a dd : Addr} {size : Int} {vs : Array Value} {p0 p1 p2 p3 p4 : Pos} (F : SupFn prog hB mg mb K f D ar fd) (AC : AccC prog w K D cd) (X : K.In hB) (hlim : hB.NoLimit)
    (hbody : fd.body = .stmts [.Return (some (.Call (.Attribute (.Call (.Name "super" p0) [] [] p1) "__len__" p2) [] [] p3)) p4]) (hline : (p2.endLine == p3.line) = true)
    (hbind : ∀ v : Value, bindArgs fd ⟨[v], []⟩ = pure [(ar.arg, v)]) (k : ∀ b o, hB.get? b = some o → s.heap.get? b = some o) (hroom : A.depth < recursionLimit) (at_ : AccAt D s.heap a dd size vs) :
    wpAny (model prog w) A (call (.ref f) [.ref a]) (fun v s' => Goes s s' ∧ ∃ t, v = .int vs.size t) Fls s := by
  refine wpAny_call (sup_enter F X hlim hbody k hroom (.of_eq (hbind _)) (fun x hx => by cases List.mem_singleton.mp hx; exact F.parK) fun h₀ hn hk => ?_)
  refine ks_wpAt_execs_cons (ks_wpAt_Return_some (at_method hline ?_))
  obtain ⟨n, od, I, ha, _⟩ := at_.inst
  have I0 : W.InstAt h₀ a ⟨.ref D, some dd, .seq vs n, #[]⟩ D (some od) := ⟨hk _ _ I.at_, I.cls, I.no, hk _ _ I.dict⟩
  refine sup_base F AC X (fun b o e => hk b o (k b o e)) hn (by simp) I0 (by simp) (by decide) fun h1 hso hk1 pl => ?_
  have I1 : W.InstAt h1 a ⟨.ref D, some dd, .seq vs n, #[]⟩ D (some od) := ⟨hk1 _ _ I0.at_, I.cls, I.no, hk1 _ _ I0.dict⟩
  have X1 : K.In h1 := X.keeps fun b o e => hk1 b o (hk b o (k b o e))
  have hcls : Looks (model prog w) h1 (mroOf (.ref D)) cd.mro := (looks_clsIn X1 AC.cls).andThen .now
  refine sup_method hso (AC.no _ X1) hcls rfl X1 AC.len FS.type_len FS.slot_wd FS.entry_wd (FS.args_wd _ _ _) (bt := "method-wrapper") (fun A' P E' hp => wd_len (s := ⟨h1, _, _, _, _⟩) (inst_sub X1 I1 AC.list) hp) (inst_ne X1 I1 AC.cls) (by decide) ?_
  refine callWith_bound (bt := "method-wrapper") (id := "list.__len__") (x := a) (.inl rfl) (Heap.get?_push_size _ rfl) ?_
  refine call_len (Heap.get?_push_size _ rfl) (Heap.get?_push_of_some _ I1.at_) ?_
  exact ⟨⟨_, _, rfl, fun b o e => Heap.get?_push_of_some _ (hk1 b o (hk b o e))⟩, _, rfl⟩
end
end Mine
end

section
open PySem PySem.W PyProof.Rows PySem.Calls PySem.SeqAt
set_option maxRecDepth 100000
set_option linter.unusedSimpArgs false
namespace Mine

section
variable {prog : Program} {w : World} {A : Around} {E : Value → Shared → Prop}
theorem any_method {env : Env} {o : PySem.Expr} {name : Str} {apos pos : Pos} {s : Shared} {Q : Value → Shared → Prop} (hline : (apos.endLine == pos.line) = true) (hc : isCall o = false)
    (h : wpAny (model prog w) A (eval o env) (fun ov s₁ => ∀ pl : Sem Bool, wpAny (model prog w) A (getMethod ov name pl) (fun fx s₂ => wpAny (model prog w) A (callWith pos fx.1 fx.2 [] []) Q E s₂) E s₁) E s) :
    wpAny (model prog w) A (eval (.Call (.Attribute o name apos) [] [] pos) env) Q E s := by
  rw [arm_eval_Call, base_plain hc]
  have hpos : methodCallPos true o env apos pos = pure pos := by unfold methodCallPos; simp [hline]
  refine wpAny_bind (wpAny_mono h (fun ov s₁ h₁ => wpAny_bind (wpAny_standAt ?_)) fun _ _ x => x)
  show wpAny _ A (methodCall o name apos pos env ov 0 [] []) Q E s₁
  unfold methodCall
  rw [show methodCallForm 0 [] [] = true from rfl]
  refine wpAny_bind (wpAny_holding (wpAny_mono (h₁ _) (fun fx s₂ h₂ => ?_) fun _ _ x => x))
  exact wpAny_bind (wpAny_of_eq hpos h₂)
end

theorem Goes.step {hB : Heap} {os : OsState} {C : Addr} {ρ : Rho} {σ : Sto} {s s' : Shared} (x : Goes s s') (G : StG hB os C ρ σ s) : StG hB os C ρ σ s' ∧ Step ρ s ρ s' := by
  obtain ⟨h', t, rfl, k⟩ := x
  exact ⟨G.keeps k t, Step.keeps G k t⟩

/-- the class's defs, the machine's side -/
structure AccFns (X : Cx) (mg mb : Str → Option Value) (K : Frag) (cd : ClassData) (arP : Arg) (fdP : FuncData) (p0 p1 p2 p3 p4 : Pos) : Prop where
  ins : K.In X.hB
  lim : X.hB.NoLimit
  cls : AccC X.prog X.w K X.N.acc cd
  pcF : SupFn X.prog X.hB mg mb K X.N.pc X.N.acc arP fdP
  pcBody : fdP.body = .stmts [.Return (some (.Call (.Attribute (.Call (.Name "super" p0) [] [] p1) "__len__" p2) [] [] p3)) p4]
  pcLine : (p2.endLine == p3.line) = true
  pcBind : ∀ v : Value, bindArgs fdP ⟨[v], []⟩ = pure [(arP.arg, v)]
  pcKeep : Kp X (.ref X.N.pc)
  pcGet : ∀ h a dd size vs, (∀ b o, X.hB.get? b = some o → h.get? b = some o) → AccAt X.N.acc h a dd size vs → ∀ pl, Looks (model X.prog X.w) h (getMethod (.ref a) "part_count" pl) (.ref X.N.pc, [.ref a])

section
variable {X : Cx} {mg mb : Str → Option Value} {K : Frag} {cd : ClassData} {ar arP : Arg} {fd fdP : FuncData} {p0 p1 p2 p3 p4 : Pos}

theorem partcount_ok (FF : AccFns X mg mb K cd arP fdP p0 p1 p2 p3 p4) {A : Around} {ρ : Rho} {σ : Sto} {s : Shared} {r : Nat} {size : Int} {xs : List AV} {vals : List Value} (hA : AOk (X.d + 1) A) (G : StG X.hB X.os X.N.acc ρ σ s) (R : RelVs X.hB ρ s.heap [.ref r] vals)
    (hc : σ[r]? = some (.acc size xs)) : wpAny (model X.prog X.w) A (call (.ref X.N.pc) vals) (PostV X.hB X.os X.N.acc ρ s (.int xs.length) σ) Fls s := by
  obtain ⟨v, rfl, r1⟩ := RelVs.one R
  obtain ⟨p, hp, rfl⟩ := r1.refE
  obtain ⟨us, at_, rs⟩ := G.cell _ _ _ hc hp
  refine wpAny_mono (pc_ok FF.pcF FF.cls FF.ins FF.lim FF.pcBody FF.pcLine FF.pcBind G.base hA.room at_) (fun v s' h => ?_) fun _ _ x => x
  obtain ⟨g, t, rfl⟩ := h
  obtain ⟨G', T'⟩ := g.step G
  have hl := rs.length
  have : ((us.toArray.size : Nat) : Int) = (xs.length : Int) := by simp [hl]
  rw [this]
  exact ⟨ρ, T', G', .int _ t⟩

theorem pop_tst {q1 q2 q3 q4 q5 : Pos} {k0 : Nat} {tst : PySem.Expr} (FF : AccFns X mg mb K cd arP fdP p0 p1 p2 p3 p4) (etst : tst = .Compare (.Call (.Attribute (.Name ar.arg q1) "part_count" q2) [] [] q3) [.Eq] [.Constant (.int 0) k0 q4] q5)
    (hl1 : (q2.endLine == q3.line) = true) (hdb : (ar.arg == ("__debug__" : Str)) = false) {A : Around} {ρ : Rho} {σ : Sto} {s : Shared} {r : Nat} {size : Int} {xs : List AV} {env : Env} {p : Addr × Addr} (hkind : env.scope.kind = .function) (hkp : env.kindOf ar.arg = some .local)
    (hn : s.heap.Ns env.locals (fun x => List.lookup x [(ar.arg, Value.ref p.1)].reverse)) (hA : AOk (X.d + 1) A) (G0 : StG X.hB X.os X.N.acc ρ σ s) (hp : ρ[r]? = some p) (hc : σ[r]? = some (.acc size xs)) {Q : Bool → Shared → Prop}
    (hQ : ∀ ρ1 s1, Step ρ s ρ1 s1 → StG X.hB X.os X.N.acc ρ1 σ s1 → Q (decide (xs.length = 0)) s1) : wpAny (model X.prog X.w) A (PySem.isTrue tst env (eval tst env)) Q Fls s := by
  subst etst
  refine wpAny_isTrue_Compare1 (any_method hl1 rfl ?_) rfl
  refine wpAny_Name (wpAny_loadName_local (v := .ref p.1) hkind hkp hn (by simp) ?_) hdb
  intro pl
  refine ((G0.cell _ _ _ hc hp).elim fun _ c => FF.pcGet _ _ _ _ _ G0.base c.1 pl).here ?_
  refine callWith_of (P := fun h => ∀ b o, X.hB.get? b = some o → h.get? b = some o) rfl (fun h hp => ?_) (evalArgs_nil3 ⟨G0.base, ?_⟩)
  · exact FF.pcKeep.elim fun k c => ⟨k, c.1, c.2.keeps hp⟩
  refine wpAny_mono (partcount_ok FF hA G0 (.cons (.ref hp) .nil) hc) (fun v s1 h1 => ?_) fun _ _ f => f.elim
  obtain ⟨ρ1, T1, G1, rv⟩ := h1
  refine wpAny_Constant_int ?_
  refine cmpop_ok (c := decide (xs.length = 0)) (a := .int xs.length) (b := .int 0) (op := .Eq) (ρ := ρ1) (σ := σ) ?_ (G1.toks (s1.toks + 1)) rv (.int 0 s1.toks) (show A.units + 1 < cLine by have := hA.line; omega) ?_
  · show some ((xs.length : Int) == 0) = some (decide (xs.length = 0))
    congr 1
    by_cases hz : xs.length = 0
    · simp [hz]
    · have : ((xs.length : Int) == 0) = false := by simp; intro hh; exact hz (by simp [hh])
      rw [this]; simp [hz]
  exact wpAny_truthy_bool (hQ ρ1 _ (T1.trans ((Step.refl G1).toks _)) (G1.toks _))

theorem pop_none {q6 q7 q8 q9 : Pos} {k1 k2 k3 : Nat} {es : Str} {st : PySem.Stmt} (est : st = .Return (some (.Tuple [.Constant (.str es) k1 q6, .Constant (.str es) k2 q7] k3 q8)) q9) (hes : es.cps = #[]) {A : Around} {ρ : Rho} {σ : Sto} {s : Shared} {env : Env} {c : Code} (G1 : StG X.hB X.os X.N.acc ρ σ s) {Q : Flow → Shared → Prop}
    (hQ : ∀ v s', PostV X.hB X.os X.N.acc ρ s emptyPair σ v s' → Q (.ret v) s') : PySem.wpAt (model X.prog X.w) A c (execs [st] env) Q Fls s := by
  subst est
  refine ks_wpAt_execs_cons (ks_wpAt_Return_some (_root_.PySem.wpAt_of_wpAny (wpAny_Tuple ?_)))
  refine wpAny_items_cons (wpAny_Constant_str ?_) rfl
  refine wpAny_items_cons (wpAny_Constant_str ?_) rfl
  refine wpAny_items_nil ⟨by rw [sizeLine_eq']; simp, ?_⟩
  refine hQ _ _ ?_
  have hs : ∀ t, RelV X.hB ρ s.heap (.str []) (.str es t) := fun t => by
    have : es = ⟨([] : List Nat).toArray⟩ := by cases es; simp at hes; rw [hes]
    rw [this]; exact .str [] t
  exact .laid ((Step.refl G1).toks (s.toks + 1 + 1)) (.tuple (G1.toks (s.toks + 1 + 1)) (.cons (hs _) (.cons (hs _) .nil)) _)

theorem pop_last {r0 r1 r2 r3 r4 : Pos} {st : PySem.Stmt} (FF : AccFns X mg mb K cd arP fdP p0 p1 p2 p3 p4) (F : SupFn X.prog X.hB mg mb K X.N.pop X.N.acc ar fd) (est : st = .Return (some (.Call (.Attribute (.Call (.Name "super" r0) [] [] r1) "pop" r2) [] [] r3)) r4) (hl2 : (r2.endLine == r3.line) = true)
    {A : Around} {body : List PySem.Stmt} {ρ1 : Rho} {σ : Sto} {s1 : Shared} {r : Nat} {size : Int} {xs : List AV} {x : AV} {p : Addr × Addr} {a : Addr} (G1 : StG X.hB X.os X.N.acc ρ1 σ s1) (hp : ρ1[r]? = some p) (hc : σ[r]? = some (.acc size xs)) (hsz' : xs.length ≤ 1000000) (hz : xs.length ≠ 0)
    (hn1 : s1.heap.Ns a (fun y => List.lookup y [(ar.arg, Value.ref p.1)].reverse)) (hx : xs.getLast? = some x) {Q : Flow → Shared → Prop} (hQ : ∀ v s', PostV X.hB X.os X.N.acc ρ1 s1 x (σ.set r (.acc size xs.dropLast)) v s' → Q (.ret v) s') :
    PySem.wpAt (model X.prog X.w) (A.deeper (callEnv fd a X.N.pop)) (.func body (callEnv fd a X.N.pop)) (execs [st] (callEnv fd a X.N.pop)) Q Fls s1 := by
  subst est
  refine ks_wpAt_execs_cons (ks_wpAt_Return_some (at_method hl2 ?_))
  obtain ⟨us1, at1, rs1⟩ := G1.cell _ _ _ hc hp
  obtain ⟨n1, od1, I1, ha1, _⟩ := at1.inst
  have hAtt : (("pop" : Str) == ("__class__" : Str)) = false := by decide
  refine sup_base (s := s1) F FF.cls FF.ins G1.base hn1 (by simp) I1 (by simp) hAtt fun h2 hso hk2 pl => ?_
  have I2 : W.InstAt h2 p.1 ⟨.ref X.N.acc, some p.2, .seq us1.toArray n1, #[]⟩ X.N.acc (some od1) := ⟨hk2 _ _ I1.at_, I1.cls, I1.no, hk2 _ _ I1.dict⟩
  have X2 : K.In h2 := FF.ins.keeps fun b o e => hk2 b o (G1.base b o e)
  have hcls : Looks (model X.prog X.w) h2 (mroOf (.ref X.N.acc)) cd.mro := (looks_clsIn X2 FF.cls.cls).andThen .now
  refine sup_method hso (FF.cls.no _ X2) hcls rfl X2 FF.cls.pop FS.type_pop FS.slot_md FS.entry_md (FS.args_md _ _ _) (bt := "builtin_function_or_method") (fun A' P E' hp => md_pop (s := ⟨h2, _, _, _, _⟩) (inst_sub X2 I2 FF.cls.list) hp) (inst_ne X2 I2 FF.cls.cls) hAtt ?_
  refine callWith_bound (bt := "builtin_function_or_method") (id := "list.pop") (x := p.1) (.inr rfl) (Heap.get?_push_size _ rfl) ?_
  generalize hh3 : h2.push (boundObj "builtin_function_or_method" "list.pop" p.1) = h3
  have hk3 : ∀ b o, h2.get? b = some o → h3.get? b = some o := fun b o e => hh3 ▸ Heap.get?_push_of_some _ e
  have I3 : W.InstAt h3 p.1 ⟨.ref X.N.acc, some p.2, .seq us1.toArray n1, #[]⟩ X.N.acc (some od1) := ⟨hk3 _ _ I2.at_, I2.cls, I2.no, hk3 _ _ I2.dict⟩
  have hlen1 := rs1.length
  have g3 : Goes s1 { s1 with heap := h3, toks := s1.toks + 1 } := ⟨h3, _, rfl, fun b o e => hk3 b o (hk2 b o e)⟩
  have gt3 := g3.step G1
  have hy : ∃ y, us1.getLast? = some y ∧ RelV X.hB ρ1 s1.heap x y := by
    rw [List.getLast?_eq_getElem?] at hx ⊢
    obtain ⟨y, a, b⟩ := rs1.get hx
    exact ⟨y, by rw [← hlen1]; exact a, b⟩
  refine hy.elim fun y yy => ?_
  refine call_pop (K := K) (C := X.N.acc) (cd := cd) (y := y) (hh3 ▸ Heap.get?_push_size _ rfl) (FF.ins.keeps fun b o e => hk3 b o (hk2 b o (G1.base b o e))) I3 FF.cls.mod FF.cls.cls FF.cls.typ FF.cls.popA (by simpa using yy.1) (by simp [sizeLine_eq']; omega) (hQ _ _ ?_)
  have rs3 : RelVs X.hB ρ1 h3 xs.dropLast us1.dropLast := by
    have a := (gt3.2.rels G1 rs1).take (xs.length - 1)
    rw [List.dropLast_eq_take, List.dropLast_eq_take, ← hlen1]
    exact a
  have at3 : AccAt X.N.acc h3 p.1 p.2 size us1.toArray := by
    obtain ⟨⟨nn, e1⟩, hs, kk, tt, j, e2⟩ := at1
    exact ⟨⟨nn, hk3 _ _ (hk2 _ _ e1)⟩, hs, kk, tt, j, hk3 _ _ (hk2 _ _ e2)⟩
  have turn := acc_turn gt3.1 hp hc (f := fun ys => ys.eraseIdxIfInBounds (us1.toArray.size - 1)) (ws := us1.dropLast) at3 (by
    have hpos : us1.length - 1 < us1.length := by omega
    unfold Array.eraseIdxIfInBounds
    rw [dif_pos (by simpa using hpos)]
    simp [List.eraseIdx_length_sub_one]) rs3 (s1.toks + 1)
  exact .laid gt3.2 ⟨ρ1, turn.2, turn.1, turn.2.rel gt3.1 (gt3.2.rel G1 yy.2)⟩

theorem pop_ok {q1 q2 q3 q4 q5 q6 q7 q8 q9 q10 r0 r1 r2 r3 r4 : Pos} {k0 k1 k2 k3 : Nat} {es : Str} (FF : AccFns X mg mb K cd arP fdP p0 p1 p2 p3 p4) (F : SupFn X.prog X.hB mg mb K X.N.pop X.N.acc ar fd)
    (hbody : fd.body = .stmts [.If (.Compare (.Call (.Attribute (.Name ar.arg q1) "part_count" q2) [] [] q3) [.Eq] [.Constant (.int 0) k0 q4] q5) [.Return (some (.Tuple [.Constant (.str es) k1 q6, .Constant (.str es) k2 q7] k3 q8)) q9] [] q10,
      .Return (some (.Call (.Attribute (.Call (.Name "super" r0) [] [] r1) "pop" r2) [] [] r3)) r4]) (hes : es.cps = #[]) (hl1 : (q2.endLine == q3.line) = true) (hl2 : (r2.endLine == r3.line) = true) (hdb : (ar.arg == ("__debug__" : Str)) = false)
    (hbind : ∀ v : Value, bindArgs fd ⟨[v], []⟩ = pure [(ar.arg, v)])
    {A : Around} {ρ : Rho} {σ : Sto} {s : Shared} {r : Nat} {size : Int} {xs : List AV} {vals : List Value} (hA : AOk (X.d + 2) A) (G : StG X.hB X.os X.N.acc ρ σ s) (R : RelVs X.hB ρ s.heap [.ref r] vals)
    (hc : σ[r]? = some (.acc size xs)) (hsz : sizeOk xs.length = true) {Q : Value → Shared → Prop}
    (hQ0 : xs = [] → ∀ v s', PostV X.hB X.os X.N.acc ρ s emptyPair σ v s' → Q v s')
    (hQ1 : ∀ x, xs.getLast? = some x → ∀ v s', PostV X.hB X.os X.N.acc ρ s x (σ.set r (.acc size xs.dropLast)) v s' → Q v s') :
    wpAny (model X.prog X.w) A (call (.ref X.N.pop) vals) Q Fls s := by
  have hsz' := sizeOk_le hsz
  obtain ⟨v, rfl, rr⟩ := RelVs.one R
  obtain ⟨p, hp, rfl⟩ := rr.refE
  generalize e1 : PySem.Expr.Compare _ _ _ _ = tst at hbody
  generalize e2 : PySem.Stmt.Return (some (PySem.Expr.Tuple _ _ _)) _ = st1 at hbody
  generalize e3 : PySem.Stmt.Return (some (PySem.Expr.Call _ _ _ _)) _ = st2 at hbody
  refine wpAny_call (sup_enter F FF.ins FF.lim hbody G.base hA.room (.of_eq (hbind _)) (fun x hx => by cases List.mem_singleton.mp hx; exact F.parK) fun h₀ hn hk => ?_)
  have g0 : Goes s { s with heap := h₀, toks := s.toks + 1 } := ⟨h₀, _, rfl, hk⟩
  have gt0 := g0.step G
  refine ks_wpAt_execs_cons (ks_wpAt_If (_root_.PySem.wpAt_of_wpAny (pop_tst (env := callEnv fd s.heap.objs.size X.N.pop) FF e1.symm hl1 hdb F.kind F.parK hn (hA.deeper _) gt0.1 hp hc fun ρ1 s1 T1 G1 => ?_)))
  have T01 := gt0.2.trans T1
  by_cases hz : xs.length = 0
  · rw [decide_eq_true hz]
    dsimp only
    rw [if_pos rfl]
    exact pop_none e2.symm hes G1 fun v s' z => hQ0 (List.length_eq_zero_iff.mp hz) _ _ (.laid T01 z)
  · rw [decide_eq_false hz]
    dsimp only
    rw [if_neg Bool.false_ne_true]
    have hne : xs ≠ [] := fun e => hz (by rw [e]; rfl)
    refine _root_.PySem.wpAt_of_wpAny (wpAny_execs_nil ?_)
    refine pop_last FF F e3.symm hl2 G1 (T1.grow.get hp) hc hsz' hz (Ns.keepAt hn fun o e => T1.keep _ _ e fun ⟨q, hq, z⟩ => ?_) (List.getLast?_eq_some_getLast hne) fun v s' z => hQ1 _ (List.getLast?_eq_some_getLast hne) _ _ (.laid T01 z)
    have a := G.lies ⟨q, hq, rfl⟩
    rw [z, get_size] at a; cases a
end
end Mine
end

section
open PySem PySem.W PyProof.Rows PySem.Calls PySem.SeqAt
set_option maxRecDepth 100000
set_option linter.unusedSimpArgs false
namespace Mine

noncomputable def newSigV : Manifest.Signature := (Manifest.signature? "list.__new__").get (by decide +kernel)
theorem newSigV_is : Manifest.signature? "list.__new__" = some newSigV := (Option.some_get _).symm
noncomputable abbrev listObj (C dx : Addr) : Obj := { cls := .ref C, dict := some dx, data := .seq #[] }

/-- what is asked of a class whose objects are lists -/
structure MakesL (M : Model) (h : Heap) (C : Addr) : Prop where
  obj : ∃ oc od cd sl, h.get? C = some ⟨oc, od, .cls cd, sl⟩ ∧ cd.abstract = false ∧ cd.hasDel = false ∧ cd.mro.isEmpty = false ∧ cd.hasDict = true
  made : Looks M h (Bind.madeBy (.ref C)) (some "list.__new__")
  base : Looks M h (Bind.staticBase (.ref C)) (.ref C)
  self : Looks M h (isSubtype (.ref C) (.ref C)) true
  list : Looks M h (isSubtype (.ref C) (.type "list")) true
  call : Looks M h (specialOf (.ref C) "__call__") (some (.builtin "type.__call__"))
  typ : Looks M h (isInstance (.ref C) (.type "type")) true
  isT : Looks M h (isType (.ref C)) true

theorem MakesL.keeps {M : Model} {h h' : Heap} {C : Addr} (x : MakesL M h C) (k : ∀ b o, h.get? b = some o → h'.get? b = some o) : MakesL M h' C := by
  obtain ⟨⟨oc, od, cd, sl, a, b⟩, h1, h2, h3, h4, h5, h6, h7⟩ := x
  exact ⟨⟨oc, od, cd, sl, k _ _ a, b⟩, h1.keeps k, h2.keeps k, h3.keeps k, h4.keeps k, h5.keeps k, h6.keeps k, h7.keeps k⟩

theorem new_kind : builtinKind "list.__new__" = some .builtinFn := by decide +kernel
theorem new_split : splitId "list.__new__" = some ("list", "__new__") := by decide +kernel
section
variable {prog : Program} {w : World} {A : Around} {K : Frag} {C : Addr} {R : Result → Shared → Prop} {h : Heap} {g : Array GenState} {d : Drawn} {t : Nat} {os : OsState}

theorem new_args (a : Value) : Bind.checkArgs "list.__new__" newSigV ⟨[.ref C, a], []⟩ = pure () := by kernel_rfl

theorem new_L {a : Value} (Y : MakesL (model prog w) h C) (hq : R (.ok (.ret (.ref (h.objs.size + 1)))) ⟨(h.push emptyDict).push (listObj C h.objs.size), g, d, t, os⟩) :
    codeAny (model prog w) A (.call (.builtin "list.__new__") ⟨[.ref C, a], []⟩) R ⟨h, g, d, t, os⟩ := by
  obtain ⟨⟨oc, od, cd, sl, hC, e1, e2, e4, e5⟩, made, base, self, list, call, typ, isT⟩ := Y
  refine codeAny_call_builtin_code (Code.quiet_builtin _ (by decide +kernel)) ?_
  unfold checkBuiltinCall
  rw [new_kind]
  dsimp only
  rw [new_split]
  dsimp only
  refine KFB.if_so (by decide) ?_
  refine wpAny_bind (isT.at ?_)
  refine KFB.if_not rfl ?_
  refine wpAny_bind (list.at ?_)
  refine KFB.if_not rfl ?_
  refine wpAny_bind (base.at ?_)
  refine wpAny_bind (made.at ?_)
  dsimp only
  refine KFB.if_not (by simp) ?_
  rw [newSigV_is]
  dsimp only
  rw [new_args]
  refine wpAny_pure ?_
  refine codeAny_builtin_stack F.entry_list_new rfl fun p st => ?_
  have hown := owner_list_new
  dsimp only
  rw [hown]
  refine wpAny_bind (isT.at ?_)
  refine KFB.if_not rfl ?_
  refine wpAny_bind (list.at ?_)
  refine KFB.if_not rfl ?_
  refine wpAny_bind (wpAny_pure ?_)
  refine KFB.if_not rfl ?_
  show wpAny _ _ ((alloc emptyDict >>= fun x => pure (Value.ref x)) >>= _) _ _ _
  refine wpAny_bind (wpAny_bind (wpAny_alloc (wpAny_pure ?_)))
  dsimp only
  refine wpAny_bind ?_
  show wpAny _ _ (newObjAsIs _ _ _) _ _ _
  unfold newObjAsIs classHasDel
  refine wpAny_bind (wpAny_alloc (wpAny_bind (wpAny_bind (wpAny_load (Heap.get?_push_of_some _ (Heap.get?_push_of_some _ hC)) (wpAny_pure ?_)))))
  rw [e2]
  refine wpAny_pure (wpAny_pure ?_)
  show R _ _
  rw [Heap.size_push]
  exact hq

theorem make_L {a : Value} {init : Value} (Y : MakesL (model prog w) h C) (hi : Looks (model prog w) h (typeLookup (.ref C) "__init__") (some init))
    (hb : ∀ self, Looks (model prog w) h (bindSpecial init self) (init, [self]))
    (hq : codeAny (model prog w) (A.under (.builtin "type.__call__" ⟨[.ref C, a], []⟩)) (.call init ⟨[.ref (h.objs.size + 1), a], []⟩) (InitBack (h.objs.size + 1) R) ⟨(h.push emptyDict).push (listObj C h.objs.size), g, d, t, os⟩) :
    codeAny (model prog w) A (.call (.ref C) ⟨[a], []⟩) R ⟨h, g, d, t, os⟩ := by
  have Y' := Y
  obtain ⟨⟨oc, od, cd, sl, hC, e1, e2, e4, e5⟩, made, base, self, list, call, typ, isT⟩ := Y
  refine codeAny_of_tree ?_
  show wpAny _ _ (callAny (.ref C) _) _ _ _
  refine nd_load hC ?_
  show wpAny _ _ (callAny.viaDunder (.ref C) _) _ _ _
  unfold callAny.viaDunder
  refine wpAny_bind (call.at ?_)
  dsimp only
  rw [tc_bind]
  refine wpAny_bind (wpAny_pure (wpAny_bind (wpAny_pure ?_)))
  refine wpAny_pure (a := Fin.again (.call (.builtin "type.__call__") ⟨[.ref C, a], []⟩)) (And.intro rfl ?_)
  refine codeAny_call_builtin_at (Code.quiet_builtin _ (by decide +kernel)) entry_typeCall (check_slot tc_kind tc_split typ (tc_args _ _ _) ?_)
  unfold Builtin.«type.__call__»
  have hm : Looks (model prog w) h (mroOf (.ref C)) cd.mro := ((Looks.ld (part := none) hC).andThen .now).andThen .now
  repeat (first | simp only [e4, Bool.false_eq_true, if_false] | with_reducible refine wpAny_call ?_ | lk)
  refine new_L Y' ?_
  have k : ∀ b o, h.get? b = some o → ((h.push emptyDict).push (listObj C h.objs.size)).get? b = some o := fun b o e => Heap.get?_push_of_some _ (Heap.get?_push_of_some _ e)
  have hx : ((h.push emptyDict).push (listObj C h.objs.size)).get? (h.objs.size + 1) = some (listObj C h.objs.size) := by heap_get
  have t1 : Looks (model prog w) ((h.push emptyDict).push (listObj C h.objs.size)) (typeOf (.ref (h.objs.size + 1))) (.ref C) := (Looks.ld hx).andThen .now
  have s1 := self.keeps k
  have i1 := hi.keeps k
  have b1 := (hb (.ref (h.objs.size + 1))).keeps k
  unfold isInstance callSpecial? specialOf
  repeat (first | with_reducible refine wpAny_call ?_ | lk)
  refine codeAny_mono hq fun r s' z => ?_
  rcases r with e | (v | _ | _ | _) <;> first | exact z | exact z.elim | skip
  obtain ⟨rfl, z⟩ := z
  exact wpAny_pure (wpAny_pure z)
end
end Mine
end

section
open PySem PySem.W PyProof.Rows PySem.Calls PySem.SeqAt
set_option maxRecDepth 100000
set_option linter.unusedSimpArgs false
namespace Mine

section
variable {prog : Program} {w : World} {A : Around} {E : Value → Shared → Prop} {K : Frag} {C x dx : Addr} {s : Shared} {cd : ClassData} {R : Result → Shared → Prop}

theorem set_first {ox : Obj} {name : Str} {v : Value} {Q : Unit → Shared → Prop} (X : K.In s.heap) (I : InstAt s.heap x ox C (some emptyDict)) (hd : ox.dict = some dx)
    (hs : findIn K (.ref C) "__setattr__" = some (some (.builtin "object.__setattr__"))) (hc : clsIn K C = some cd) (hr : ∀ self, refuseLoop self "__setattr__" cd.mro = pure ()) (hob : subIn K (.ref C) (.type "object") = some true)
    (ht : findIn K (.ref C) name = some none) (hh : cd.hasDict = true)
    (h : ∀ h', h'.get? dx = some ⟨.type "dict", none, .dict #[⟨PyData.keyHash w.params name, .str name (s.toks + 1), v⟩] 1, #[]⟩ → Heap.SameBut dx s.heap h' → Q () { s with heap := h', toks := s.toks + 2 }) :
    wpAny (model prog w) A (setAttr (.ref x) name v) Q E s := by
  refine set_plain X I hs ?_
  have SF := PySem.F.store_object
  have sub : Looks (model prog w) s.heap (isInstance (.ref x) (.type "object")) true := I.type.andThen (looks_subIn X hob)
  have tyx : Looks (model prog w) s.heap (typeOf (.ref x)) (.ref C) := I.type
  obtain ⟨hh', g, d, t, os⟩ := s
  refine codeAny_call_builtin SF.slot.plain SF.entry (@check_slot (model prog w) _ _ ⟨hh', g, d, t + 1, os⟩ "object.__setattr__" "object" "__setattr__" (.ref x) [.str name t, v] [] _ SF.kind SF.split sub (SF.args (.ref x) (.str name t) v) ?_)
  have hm : Looks (model prog w) hh' (mroOf (.ref C)) cd.mro := (looks_clsIn X hc).andThen .now
  rw [osa_eq, refuse_eq]
  refine wpAny_bind (wpAny_bind (tyx.at (wpAny_bind (hm.at ?_))))
  rw [hr]
  refine wpAny_pure (wpAny_bind (tyx.at (wpAny_bind ((looks_findIn (M := model prog w) X ht).at (wpAny_bind (wpAny_pure ?_))))))
  obtain ⟨hx, hcl, hn, hdi⟩ := I
  obtain ⟨oc, odi, oda, osl⟩ := ox
  dsimp only at hcl hd
  subst hcl hd
  dsimp only at hdi hx
  refine wpAny_bind (wpAny_pure (wpAny_bind (wpAny_bind (wpAny_loadPart hx (wpAny_bind ((looks_clsIn (M := model prog w) X hc).at ?_))))))
  rw [hh]
  refine wpAny_pure (a := some dx) (wpAny_bind (wpAny_pure (wpAny_bind ?_)))
  unfold nsSet
  refine wpAny_bind (wpAny_bind (wpAny_askSetting (wpAny_pure (wpAny_bind (wpAny_mkText (wpAny_bind (wpAny_loadPart hdi ?_)))))))
  have c : aRefKeyMayBeTheName name #[] = false := by rw [aRefKeyMayBeTheName_at]; simp
  dsimp only [emptyDict]
  rw [c]
  have ep : Obj.putName name (PyData.keyHash w.params name) (.str name (t + 1)) v emptyDict = ⟨.type "dict", none, .dict #[⟨PyData.keyHash w.params name, .str name (t + 1), v⟩] 1, #[]⟩ := by
    have := putName_dict name (PyData.keyHash w.params name) (.str name (t + 1)) v [] 0
    exact this
  have D' : (hh'.update dx (Obj.putName name (PyData.keyHash w.params name) (.str name (t + 1)) v)).get? dx = some ⟨.type "dict", none, .dict #[⟨PyData.keyHash w.params name, .str name (t + 1), v⟩] 1, #[]⟩ := by
    rw [Heap.get?_update_self _ hdi (by rw [ep]; rfl), ep]
  refine wpAny_updatePart hdi ?_
  refine wpAny_bind (wpAny_lookBehind D' (pastItsLine_dict (es := #[⟨PyData.keyHash w.params name, .str name (t + 1), v⟩]) (by rw [sizeLine_eq']; simp)) ?_)
  exact wpAny_pure (h _ D' (Heap.SameBut.update ..))
end

theorem StG.adoptAcc {hB : Heap} {os : OsState} {C : Addr} {ρ : Rho} {σ : Sto} {s : Shared} (G : StG hB os C ρ σ s) {x dx : Addr} {size : Int} (at_ : AccAt C s.heap x dx size #[]) (h0 : hB.get? x = none ∧ hB.get? dx = none) (sep : ∀ p ∈ ρ, p.1 ≠ x ∧ p.2 ≠ x) :
    StG hB os C (ρ ++ [(x, dx)]) (σ ++ [.acc size []]) s := by
  have gr : Grow hB ρ (ρ ++ [(x, dx)]) := ⟨[(x, dx)], rfl, fun p hp => by simp at hp; subst hp; exact h0⟩
  refine ⟨G.base, by simp [G.len], fun r c p e1 e2 => ?_, fun p hp => ?_, ?_, G.gens, G.os, fun p hp => ?_⟩
  · by_cases hr : r < σ.length
    · rw [List.getElem?_append_left hr] at e1
      rw [List.getElem?_append_left (by rw [G.len]; exact hr)] at e2
      exact (G.cell r c p e1 e2).mono (M := fun _ => False) .refl (fun _ h => h.elim) gr id (fun _ _ _ => id)
    · rw [List.getElem?_append_right (Nat.le_of_not_lt hr)] at e1
      rw [List.getElem?_append_right (by rw [G.len]; exact Nat.le_of_not_lt hr)] at e2
      rw [G.len] at e2
      generalize r - σ.length = k at e1 e2
      cases k with
      | succ k => simp at e1
      | zero =>
        simp at e1 e2
        subst e1; subst e2
        exact ⟨[], at_, .nil⟩
  · rcases List.mem_append.mp hp with q | q
    · exact G.lo p q
    · simp at q; subst q
      exact h0.1
  · rw [List.map_append, List.nodup_append]
    refine ⟨G.apart, by simp, fun a ha b hb => ?_⟩
    simp at hb; subst hb
    obtain ⟨p, hp, rfl⟩ := List.mem_map.mp ha
    exact (sep p hp).1
  · rcases List.mem_append.mp hp with q | q
    · exact G.two p q
    · simp at q; subst q
      obtain ⟨_, hs, kk, tt, j, hd⟩ := at_
      show (s.heap.get? dx).isSome = true
      rw [hd]; rfl

theorem weight_make (C : Addr) (a : Value) : (Code.builtin "type.__call__" ⟨[.ref C, a], []⟩).weight = 1 := by first | rfl | kernel_rfl

section
variable {X : Cx} {mg mb : Str → Option Value} {K : Frag} {cd : ClassData} {ar : Arg} {fd : FuncData} {fI : Addr}

theorem new_ok {p1 p2 p3 p4 r0 r1 r2 r3 r4 : Pos} {sz : Str} (KX : K.In X.hB) (hlim : X.hB.NoLimit) (Y : MakesL (model X.prog X.w) X.hB X.N.acc) (AC : AccC X.prog X.w K X.N.acc cd) (F : SupFn X.prog X.hB mg mb K fI X.N.acc ar fd)
    (hi : findIn K (.ref X.N.acc) "__init__" = some (some (.ref fI))) (hf : typeIn K (.ref fI) = some (.type "function"))
    (hbody : fd.body = .stmts [.Assign [.Attribute (.Name ar.arg p1) "_initial_size" p2] (.Name sz p3) p4, .Expr (.Call (.Attribute (.Call (.Name "super" r0) [] [] r1) "__init__" r2) [] [] r3) r4]) (hl2 : (r2.endLine == r3.line) = true)
    (hdb : (ar.arg == ("__debug__" : Str)) = false) (hdz : (sz == ("__debug__" : Str)) = false) (hne : sz ≠ ar.arg) (hkz : fd.scope.names.lookup sz = some .local)
    (hbind : ∀ (M : Model) (x : Addr) (i : Int) (t : Tok), Looks M X.hB (bindArgs fd ⟨[.ref x, .int i t], []⟩) [(ar.arg, .ref x), (sz, .int i t)])
    (hs : findIn K (.ref X.N.acc) "__setattr__" = some (some (.builtin "object.__setattr__"))) (hr : ∀ self, refuseLoop self "__setattr__" cd.mro = pure ()) (hob : subIn K (.ref X.N.acc) (.type "object") = some true)
    (ht : findIn K (.ref X.N.acc) "_initial_size" = some none) (hh : cd.hasDict = true)
    {A : Around} {ρ : Rho} {σ : Sto} {s : Shared} {size : Int} {vals : List Value} (hA : AOk (X.d + 2) A) (G : StG X.hB X.os X.N.acc ρ σ s) (R : RelVs X.hB ρ s.heap [.int size] vals) :
    wpAny (model X.prog X.w) A (call (.ref X.N.acc) vals) (PostV X.hB X.os X.N.acc ρ s (.ref σ.length) (σ ++ [.acc size []])) Fls s := by
  obtain ⟨v, rfl, rv⟩ := RelVs.one R
  cases rv
  rename_i tsz
  obtain ⟨h, g, d, t, os⟩ := s
  have base := G.base
  dsimp only at base
  refine wpAny_call (make_L (Y.keeps base) ((looks_findIn KX hi).keeps base) (fun self => (bind_fn KX self hf).keeps base) ?_)
  generalize hh2 : (h.push emptyDict).push (listObj X.N.acc h.objs.size) = h2
  have k2 : ∀ b o, h.get? b = some o → h2.get? b = some o := fun b o e => hh2 ▸ Heap.get?_push_of_some _ (Heap.get?_push_of_some _ e)
  have kB2 : ∀ b o, X.hB.get? b = some o → h2.get? b = some o := fun b o e => k2 b o (base b o e)
  have hx2 : h2.get? (h.objs.size + 1) = some (listObj X.N.acc h.objs.size) := by rw [← hh2]; heap_get
  have hd2 : h2.get? h.objs.size = some emptyDict := by rw [← hh2]; heap_get
  have hroom : (A.under (.builtin "type.__call__" ⟨[.ref X.N.acc, .int size tsz], []⟩)).depth < recursionLimit := by
    show A.depth + _ < _
    rw [weight_make]
    have h1 := hA.depth
    have h2 : recursionLimit = 1000 := rfl
    omega
  refine codeAny_mono (sup_enter (s := ⟨h2, g, d, t, os⟩) F KX hlim hbody kB2 hroom (fun M' A' E' Q' hq => ?_) (binds := [(ar.arg, .ref (h.objs.size + 1)), (sz, .int size tsz)]) ?_ (R := fun r s' => match r with | .ok (.ret v) => v = .none ∧ PostV X.hB X.os X.N.acc ρ ⟨h, g, d, t, os⟩ (.ref σ.length) (σ ++ [.acc size []]) (.ref (h.objs.size + 1)) s' | _ => False) fun h₀ hn hk => ?_) (fun r s' hr => ?_)
  · exact (hbind M' _ _ _).keeps kB2 |>.at hq
  · intro q hq
    rcases List.mem_cons.mp hq with rfl | hq
    · exact F.parK
    · cases List.mem_singleton.mp hq; exact hkz
  · have hn' : h₀.Ns h2.objs.size (fun x => List.lookup x [(ar.arg, Value.ref (h.objs.size + 1)), (sz, .int size tsz)].reverse) := hn
    have hk' : ∀ b o, h2.get? b = some o → h₀.get? b = some o := hk
    generalize hE : callEnv fd h2.objs.size fI = env
    have hloc : env.locals = h2.objs.size := by subst hE; rfl
    have hkind : env.scope.kind = .function := by subst hE; exact F.kind
    have hkp : env.kindOf ar.arg = some .local := by subst hE; exact F.parK
    have hkq : env.kindOf sz = some .local := by subst hE; exact hkz
    have bz : (sz == ar.arg) = false := by simpa using hne
    have bz' : (ar.arg == sz) = false := by simpa using (fun e => hne e.symm)
    have I0 : W.InstAt h₀ (h.objs.size + 1) (listObj X.N.acc h.objs.size) X.N.acc (some emptyDict) := ⟨hk' _ _ hx2, rfl, rfl, hk' _ _ hd2⟩
    refine ks_wpAt_execs_cons (ks_wpAt_Assign_Attr (_root_.PySem.wpAt_of_wpAny ?_) rfl)
    refine wpAny_Name (wpAny_loadName_local (v := .int size tsz) hkind hkq (hloc ▸ hn') (by simp []) ?_) hdz
    refine wpAny_Name (wpAny_loadName_local (v := .ref (h.objs.size + 1)) hkind hkp (hloc ▸ hn') (by simp [List.lookup, bz']) ?_) hdb
    refine set_first (KX.keeps fun b o e => hk' b o (kB2 b o e)) I0 rfl hs AC.cls hr hob ht hh fun h1 hd1 hs1 => ?_
    dsimp only at hd1 hs1 ⊢
    have nx : h.get? (h.objs.size + 1) = none := by
      cases e : h.get? (h.objs.size + 1) with
      | none => rfl
      | some o => exact absurd (Heap.lt_size e) (Nat.not_lt.mpr (Nat.le_succ _))
    have nd : h.get? h.objs.size = none := get_size _
    have k1 : ∀ b o, b ≠ h.objs.size → h₀.get? b = some o → h1.get? b = some o := fun b o n e => (hs1.2 b n).trans e
    have kh1 : ∀ b o, h.get? b = some o → h1.get? b = some o := fun b o e => k1 b o (fun q => by rw [q, nd] at e; cases e) (hk' b o (k2 b o e))
    have hL : h2.objs.size ≠ h.objs.size := fun e => by
      exact Nat.ne_of_gt (Heap.lt_size hd2) e
    have hn1 : h1.Ns h2.objs.size (fun x => List.lookup x [(ar.arg, Value.ref (h.objs.size + 1)), (sz, .int size tsz)].reverse) := Ns.keepAt hn' fun o e => k1 _ o hL e
    have hx1 : h1.get? (h.objs.size + 1) = some (listObj X.N.acc h.objs.size) := k1 _ _ (Nat.succ_ne_self _) I0.at_
    have I1 : W.InstAt h1 (h.objs.size + 1) (listObj X.N.acc h.objs.size) X.N.acc (some _) := ⟨hx1, rfl, rfl, hd1⟩
    have hat : (("__init__" : Str) == ("__class__" : Str)) = false := by decide
    refine ks_wpAt_execs_cons (ks_wpAt_Expr_any (at_method hl2 ?_) (by unfold interactive; rw [hkind]; rfl) rfl)
    rw [← hE]
    refine sup_base (s := ⟨h1, g, d, t + 2 + 2, os⟩) F AC KX (fun b o e => kh1 b o (base b o e)) hn1 (by simp [List.lookup, bz']) I1 (by simp) hat fun h3 hso hk3 pl => ?_
    dsimp only at hso hk3 ⊢
    have I3 : W.InstAt h3 (h.objs.size + 1) (listObj X.N.acc h.objs.size) X.N.acc (some _) := ⟨hk3 _ _ I1.at_, rfl, rfl, hk3 _ _ I1.dict⟩
    have X3 : K.In h3 := KX.keeps fun b o e => hk3 b o (kh1 b o (base b o e))
    have hcls : Looks (model X.prog X.w) h3 (mroOf (.ref X.N.acc)) cd.mro := (looks_clsIn X3 AC.cls).andThen .now
    refine sup_method hso (AC.no _ X3) hcls rfl X3 AC.init FS.type_init FS.slot_wd FS.entry_wd (FS.args_wd _ _ _) (bt := "method-wrapper") (fun A' P E' hp => wd_init (s := ⟨h3, _, _, _, _⟩) (inst_sub X3 I3 AC.list) hp) (inst_ne X3 I3 AC.cls) hat ?_
    refine callWith_bound (bt := "method-wrapper") (id := "list.__init__") (x := h.objs.size + 1) (.inl rfl) (Heap.get?_push_size _ rfl) ?_
    generalize hh4 : h3.push (boundObj "method-wrapper" "list.__init__" (h.objs.size + 1)) = h4
    have hk4 : ∀ b o, h3.get? b = some o → h4.get? b = some o := fun b o e => hh4 ▸ Heap.get?_push_of_some _ e
    have hx4 : h4.get? (h.objs.size + 1) = some (listObj X.N.acc h.objs.size) := hk4 _ _ I3.at_
    refine call_init (hh4 ▸ Heap.get?_push_size _ rfl) hx4 fun n' => _root_.PySem.wpAt_of_wpAny (wpAny_execs_nil ⟨rfl, ?_⟩)
    dsimp only
    obtain ⟨nn, hm⟩ := mapSeq_at (.ref X.N.acc) (some h.objs.size) #[] 0 #[] (fun _ => #[])
    have sb : Heap.SameBut (h.objs.size + 1) h4 (h4.update (h.objs.size + 1) (Obj.mapSeq fun _ => #[])) := Heap.SameBut.update ..
    generalize hh5 : h4.update (h.objs.size + 1) (Obj.mapSeq fun _ => #[]) = h5 at sb ⊢
    have hx5 : h5.get? (h.objs.size + 1) = some ⟨.ref X.N.acc, some h.objs.size, .seq #[] nn, #[]⟩ := by
      rw [← hh5, Heap.get?_update_self _ hx4 (by rw [hm]; rfl)]
      exact congrArg some hm
    have k5 : ∀ b o, b ≠ h.objs.size + 1 → h4.get? b = some o → h5.get? b = some o := fun b o n e => (sb.2 b n).trans e
    have hd5 : h5.get? h.objs.size = _ := k5 _ _ (Ne.symm (Nat.succ_ne_self _)) (hk4 _ _ I3.dict)
    have kall : ∀ b o, h.get? b = some o → h5.get? b = some o := fun b o e => k5 b o (fun q => by rw [q, nx] at e; cases e) (hk4 _ _ (hk3 _ _ (kh1 b o e)))
    have G5 := G.keeps kall n'
    have T5 := Step.keeps G kall n'
    have at5 : AccAt X.N.acc h5 (h.objs.size + 1) h.objs.size size #[] := ⟨⟨nn, hx5⟩, _, _, _, _, hd5⟩
    have sep : ∀ p ∈ ρ, p.1 ≠ h.objs.size + 1 ∧ p.2 ≠ h.objs.size + 1 := fun p hp => by
      have q1 := G.lies ⟨p, hp, rfl⟩
      have q2 := G.two p hp
      exact ⟨fun e => (by rw [e] at q1; dsimp only at q1; rw [nx] at q1; cases q1), fun e => (by rw [e] at q2; dsimp only at q2; rw [nx] at q2; cases q2)⟩
    refine ⟨ρ ++ [(h.objs.size + 1, h.objs.size)], ⟨⟨_, rfl, fun p hp => ?_⟩, T5.keep, T5.lies⟩, G5.adoptAcc at5 ⟨G.noneB nx, G.noneB nd⟩ sep, ?_⟩
    · simp at hp; subst hp; exact ⟨nx, nd⟩
    · have : (ρ ++ [(h.objs.size + 1, h.objs.size)])[σ.length]? = some (h.objs.size + 1, h.objs.size) := by
        rw [← G.len]; simp
      exact .ref (p := (h.objs.size + 1, h.objs.size)) this
  · rcases r with e | (v | _ | _ | _) <;> first | exact hr.elim | exact hr
end
end Mine
end

section
open PySem PySem.W PyProof.Rows PySem.Calls PySem.SeqAt
set_option maxRecDepth 100000
set_option linter.unusedSimpArgs false
namespace Mine

/-- a plain def of the top -/
structure PlFn (hB : Heap) (a : Addr) (fd : FuncData) : Prop where
  at_ : ∃ o, hB.get? a = some o ∧ o.data = .func fd
  clo : fd.closure = []
  rec_ : hB.CodeRec fd.code fd.qualname
  glob : fd.globals = mainGlobals
  bui : fd.builtins = builtinsNs
  kind : fd.scope.kind = .function
  noCell : ∀ x ∈ fd.scope.names, x.2 ≠ .cell
  co : fd.scope.isCoroutine = false
  gen : fd.scope.isGenerator = false

section
variable {prog : Program} {w : World} {A : Around} {E : Value → Shared → Prop} {hB : Heap} {f : Addr} {fd : FuncData}

theorem pl_enter {R : Result → Shared → Prop} {body : List PySem.Stmt} {vals : List Value} {binds : List (Str × Value)} {s : Shared} (F : PlFn hB f fd) (hlim : hB.NoLimit) (hbody : fd.body = .stmts body)
    (k : ∀ b o, hB.get? b = some o → s.heap.get? b = some o) (hroom : A.depth < recursionLimit) (hbind : BindsTo s fd ⟨vals, []⟩ binds) (hloc : ∀ x ∈ binds, fd.scope.names.lookup x.1 = some .local)
    (h : ∀ h₀, h₀.Ns s.heap.objs.size (fun x => binds.reverse.lookup x) → (∀ b o, s.heap.get? b = some o → h₀.get? b = some o) →
      wpAny (model prog w) (A.deeper (callEnv fd s.heap.objs.size f)) (execs body (callEnv fd s.heap.objs.size f)) (fun f s' => R (.ok (.ret (match f with | .ret v => v | _ => .none))) s') Fls
        { s with heap := h₀, toks := s.toks + binds.length }) : codeAny (model prog w) A (.call (.ref f) ⟨vals, []⟩) R s := by
  obtain ⟨o, ho, hd⟩ := F.at_
  refine ks_codeAny_call_defAt (binds := binds) hroom (k _ _ ho) hd ?_ (F.rec_.keeps k) hbody hbind F.noCell hloc (fun h₀ hn hk => ?_) F.co F.gen F.kind
  · obtain ⟨mc, h1, h2⟩ := hlim; exact ⟨mc, h1.keeps k, h2⟩
  · exact ks_wpAt_mono (_root_.PySem.wpAt_of_wpAny (h h₀ hn hk)) (fun _ _ q => q) fun _ _ q => q.elim

/-- an attribute that is read -/
theorem any_attr {env : Env} {o : PySem.Expr} {attr : Str} {pos : Pos} {s : Shared} {Q : Value → Shared → Prop} (hc : isCall o = false)
    (h : wpAny (model prog w) A (eval o env) (fun ov s₁ => wpAny (model prog w) A (getAttr ov attr true) Q E s₁) E s) : wpAny (model prog w) A (eval (.Attribute o attr pos) env) Q E s := by
  rw [arm_eval_Attribute, base_plain hc]
  refine wpAny_bind (wpAny_mono h (fun ov s₁ h₁ => wpAny_bind (wpAny_standAt (wpAny_bind (wpAny_holding (wpAny_mono h₁ (fun r s₂ h₂ => ?_) fun _ _ x => x))))) fun _ _ x => x)
  exact wpAny_bind (wpAny_letTemporaryGo (wpAny_pure h₂))

theorem if_look {α : Type} {M : Model} {c : Bool} {m : Sem Bool} {f : Bool → Sem α} {s : Shared} {Q : α → Shared → Prop} (h : c = true → Looks M s.heap m false) (r : wpAny M A (f false) Q E s) : wpAny M A (if c = true then m >>= f else pure false >>= f) Q E s := by
  cases c with
  | true => exact wpAny_bind ((h rfl).here r)
  | false => exact wpAny_bind (wpAny_pure r)

/-- two instances are compared by a def of their class -/
theorem cmp_own {op : CmpOp} {K : Frag} {C x g : Addr} {b tb : Value} {ox : Obj} {od : Option Obj} {s : Shared} {Q : Value → Shared → Prop} (hu : A.units < cLine) (X : K.In s.heap) (I : InstAt s.heap x ox C od) (hb : Looks (model prog w) s.heap (typeOf b) tb) (hn : notFirst K C tb = true)
    (hs : findIn K (.ref C) (cmpInfo op).2.1 = some (some (.ref g))) (hf : isFn K (.ref g) = true)
    (h : wpAny (model prog w) A (call (.ref g) [.ref x, b]) (W.CmpBack Q) E s) : wpAny (model prog w) A (richCompare op (.ref x) b) Q E s := by
  have one : wpAny (model prog w) A (tryCompare (.ref x) (cmpInfo op).2.1 b) (fun r s' => ∃ v, r = some v ∧ Q v s') E s := by
    unfold tryCompare
    refine wpAny_bind (ifBound_K X I hs hf (wpAny_mono h (fun v s' hv => ?_) fun _ _ e => e))
    cases v <;> first | exact hv.elim | exact wpAny_pure ⟨_, rfl, hv⟩
  unfold richCompare
  rw [oneThing_ref]
  refine wpAny_holding (wpAny_bind (wpAny_cRoomFor hu ?_))
  refine wpAny_bind (I.type.here (wpAny_bind (hb.here ?_)))
  refine if_look (fun q => looks_subIn X ?_) ?_
  · rcases Bool.or_eq_true_iff.mp hn with e | e
    · rw [beq_iff_eq.mp e] at q; simp at q
    · exact beq_iff_eq.mp e
  refine KFB.if_not rfl ?_
  refine wpAny_bind (wpAny_mono one (fun r s' z => ?_) fun _ _ e => e)
  obtain ⟨v, rfl, hq⟩ := z
  exact wpAny_pure hq
end

/-- a name that a text is put into -/
noncomputable def QAt (C : Addr) (h : Heap) (x : Addr) (a : Str) : Prop := ∃ dx, h.get? x = some (instObj C dx) ∧ ∃ hs k t, h.get? dx = some ⟨.type "dict", none, .dict #[⟨hs, .str (Str.ofString "text") k, .str a t⟩] 1, #[]⟩

theorem QAt.keeps {C : Addr} {h h' : Heap} {x : Addr} {a : Str} (q : QAt C h x a) (k : ∀ b o, h.get? b = some o → h'.get? b = some o) : QAt C h' x a := by
  obtain ⟨dx, h1, hs, kk, t, h2⟩ := q
  exact ⟨dx, k _ _ h1, hs, kk, t, k _ _ h2⟩

structure QCls (K : Frag) (C : Addr) (cd : ClassData) : Prop where
  cls : clsIn K C = some cd
  plain : plainGet K C "text" = true
  hasD : hasDictIn K C = true
  text : findIn K (.ref C) "text" = some none
  makes : makesIn K C = true
  set : findIn K (.ref C) "__setattr__" = some (some (.builtin "object.__setattr__"))
  ref_ : ∀ self, refuseLoop self "__setattr__" cd.mro = pure ()
  obj : subIn K (.ref C) (.type "object") = some true
  dict : cd.hasDict = true
  is : isIn K (.ref C) C = true
  nf : notFirst K C (.ref C) = true

section
variable {prog : Program} {w : World} {A : Around} {hB : Heap} {K : Frag} {C : Addr} {cd : ClassData}

theorem QAt.inst {h : Heap} {x : Addr} {a : Str} (q : QAt C h x a) : ∃ (dx : Addr) (od : Obj), InstAt h x (instObj C dx) C (some od) ∧ ∃ t, lookIn "text" od = some (some (.str a t)) := by
  obtain ⟨dx, h1, hs, k, t, h2⟩ := q
  refine ⟨dx, _, ⟨h1, rfl, rfl, h2⟩, t, ?_⟩
  have hb : (Value.str (Str.ofString "text") k).isStr "text" = true := by
    show (Str.ofString "text" == Str.ofString "text") = true
    exact beq_self_eq_true _
  simp [lookIn, hb]

theorem q_text {s : Shared} {x : Addr} {a : Str} {Q : Value → Shared → Prop} {E : Value → Shared → Prop} (QC : QCls K C cd) (X : K.In s.heap) (q : QAt C s.heap x a) (h : ∀ t, Q (.str a t) { s with toks := s.toks + 1 }) :
    wpAny (model prog w) A (getAttr (.ref x) "text" true) Q E s := by
  obtain ⟨dx, od, I, t, hl⟩ := q.inst
  exact get_value X I (plainGet_of QC.plain).1 (findObj_own QC.hasD QC.text rfl hl) rfl (h t)

/-- a name is made of a text -/
theorem q_make {ar : Str} {tx tg : Str} {fI : Addr} {fd : FuncData} {q1 q2 p1 p2 p3 p4 : Pos} {bi : List PySem.Stmt} (KX : K.In hB) (hlim : hB.NoLimit) (QC : QCls K C cd) (F : PlFn hB fI fd) (hi : findIn K (.ref C) "__init__" = some (some (.ref fI)))
    (hf : typeIn K (.ref fI) = some (.type "function")) (hbody : fd.body = .stmts [.If (.Name tg q1) bi [] q2, .Assign [.Attribute (.Name ar p1) "text" p2] (.Name tx p3) p4])
    (hd1 : (ar == ("__debug__" : Str)) = false) (hd2 : (tx == ("__debug__" : Str)) = false) (hd3 : (tg == ("__debug__" : Str)) = false) (hne : tx ≠ ar ∧ tg ≠ ar ∧ tg ≠ tx)
    (hk : fd.scope.names.lookup ar = some .local ∧ fd.scope.names.lookup tx = some .local ∧ fd.scope.names.lookup tg = some .local)
    (hbind : ∀ (M : Model) (x : Addr) (a : Str) (t : Tok), Looks M hB (bindArgs fd ⟨[.ref x, .str a t], []⟩) [(ar, .ref x), (tx, .str a t), (tg, .none)])
    {s : Shared} {a : Str} {t : Tok} (k : ∀ b o, hB.get? b = some o → s.heap.get? b = some o) (hA : A.depth + 2 < recursionLimit) :
    wpAny (model prog w) A (call (.ref C) [.str a t]) (fun v s' => ∃ x, v = .ref x ∧ s.heap.get? x = none ∧ QAt C s'.heap x a ∧ Goes s s') Fls s := by
  obtain ⟨h, g, d, tk, os⟩ := s
  dsimp only at k
  have Y : Makes (model prog w) h C := makes_of (KX.keeps k) QC.makes
  refine wpAny_call (make_core Y ((looks_findIn KX hi).keeps k) (fun self => (bind_fn KX self hf).keeps k) (.inl rfl) ?_)
  generalize hh2 : (h.push emptyDict).push (instObj C h.objs.size) = h2
  have k2 : ∀ b o, h.get? b = some o → h2.get? b = some o := fun b o e => hh2 ▸ Heap.get?_push_of_some _ (Heap.get?_push_of_some _ e)
  have kB2 : ∀ b o, hB.get? b = some o → h2.get? b = some o := fun b o e => k2 b o (k b o e)
  have hx2 : h2.get? (h.objs.size + 1) = some (instObj C h.objs.size) := by rw [← hh2]; heap_get
  have hd2' : h2.get? h.objs.size = some emptyDict := by rw [← hh2]; heap_get
  have hroom : (A.under (.builtin "type.__call__" ⟨[.ref C, .str a t], []⟩)).depth < recursionLimit := by
    show A.depth + _ < _
    rw [show (Code.builtin "type.__call__" ⟨[.ref C, .str a t], []⟩).weight = 1 from by first | rfl | kernel_rfl]
    omega
  refine codeAny_mono (pl_enter (s := ⟨h2, g, d, tk, os⟩) F hlim hbody kB2 hroom (fun M' A' E' Q' hq => ?_) (binds := [(ar, .ref (h.objs.size + 1)), (tx, .str a t), (tg, .none)]) ?_
    (R := fun r s' => match r with | .ok (.ret v) => v = .none ∧ ((⟨h, g, d, tk, os⟩ : Shared).heap.get? (h.objs.size + 1) = none ∧ QAt C s'.heap (h.objs.size + 1) a ∧ Goes ⟨h, g, d, tk, os⟩ s') | _ => False) fun h₀ hn hk' => ?_) (fun r s' hr => ?_)
  · exact (hbind M' _ _ _).keeps kB2 |>.at hq
  · intro q hq
    rcases List.mem_cons.mp hq with rfl | hq
    · exact hk.1
    · rcases List.mem_cons.mp hq with rfl | hq
      · exact hk.2.1
      · cases List.mem_singleton.mp hq; exact hk.2.2
  · have hn' : h₀.Ns h2.objs.size (fun x => List.lookup x [(ar, Value.ref (h.objs.size + 1)), (tx, .str a t), (tg, .none)].reverse) := hn
    have hk2' : ∀ b o, h2.get? b = some o → h₀.get? b = some o := hk'
    generalize hE : callEnv fd h2.objs.size fI = env
    have hloc : env.locals = h2.objs.size := by subst hE; rfl
    have hkind : env.scope.kind = .function := by subst hE; exact F.kind
    have hk1 : env.kindOf ar = some .local := by subst hE; exact hk.1
    have hk2 : env.kindOf tx = some .local := by subst hE; exact hk.2.1
    have hk3 : env.kindOf tg = some .local := by subst hE; exact hk.2.2
    have b1 : (ar == tx) = false := by simpa using (fun e => hne.1 e.symm)
    have b2 : (ar == tg) = false := by simpa using (fun e => hne.2.1 e.symm)
    have b3 : (tx == tg) = false := by simpa using (fun e => hne.2.2 e.symm)
    have I0 : W.InstAt h₀ (h.objs.size + 1) (instObj C h.objs.size) C (some emptyDict) := ⟨hk2' _ _ hx2, rfl, rfl, hk2' _ _ hd2'⟩
    refine wpAny_execs_cons (wpAny_If (wpAny_isTrue_value ?_ rfl))
    refine wpAny_Name (wpAny_loadName_local (v := .none) hkind hk3 (hloc ▸ hn') (by simp []) ?_) hd3
    refine wpAny_pure ?_
    rw [if_neg (by decide)]
    refine wpAny_execs_nil ?_
    refine wpAny_execs_cons (plainObj_wpAny_Assign_Attribute ?_ rfl)
    refine wpAny_Name (wpAny_loadName_local (v := .str a t) hkind hk2 (hloc ▸ hn') (by simp [List.lookup, b3]) ?_) hd2
    refine wpAny_Name (wpAny_loadName_local (v := .ref (h.objs.size + 1)) hkind hk1 (hloc ▸ hn') (by simp [List.lookup, b1, b2]) ?_) hd1
    refine set_first (KX.keeps fun b o e => hk2' b o (kB2 b o e)) I0 rfl QC.set QC.cls QC.ref_ QC.obj QC.text QC.dict fun h1 hd1 hs1 => ?_
    refine wpAny_execs_nil ⟨rfl, ?_, ?_, ?_⟩
    · dsimp only
      cases e : h.get? (h.objs.size + 1) with
      | none => rfl
      | some o => exact absurd (Heap.lt_size e) (Nat.not_lt.mpr (Nat.le_succ _))
    · exact ⟨h.objs.size, (hs1.2 _ (Nat.succ_ne_self _)).trans I0.at_, _, _, _, hd1⟩
    · exact ⟨h1, _, rfl, fun b o e => (hs1.2 b fun q => by rw [q, get_size] at e; cases e).trans (hk2' b o (k2 b o e))⟩
  · rcases r with e | (v | _ | _ | _) <;> first | exact hr.elim | skip
    exact ⟨hr.1, _, rfl, hr.2⟩
end
end Mine
end

section
open PySem PySem.W PyProof.Rows PySem.Calls PySem.SeqAt
set_option maxRecDepth 100000
set_option linter.unusedSimpArgs false
namespace Mine

section
variable {X : Cx} {K : Frag} {cd : ClassData} {mg mb : Str → Option Value}

/-- a comparing def of the names' class -/
structure QFn (X : Cx) (K : Frag) (op : CmpOp) (g : Addr) (fd : FuncData) (sn on : Str) : Prop where
  pl : PlFn X.hB g fd
  at_ : findIn K (.ref X.qn) (cmpInfo op).2.1 = some (some (.ref g))
  fn : isFn K (.ref g) = true
  body : ∃ c1 c2 c3 c4 d1 d2 d3 d4 d5 d6 d7 rest, fd.body = .stmts (.If (.Call (.Name "isinstance" c1) [.Name on c2, .Name qname c3] [] c4) [.Return (some (.Compare (.Attribute (.Name sn d1) "text" d2) [op] [.Attribute (.Name on d3) "text" d4] d5)) d6] [] d7 :: rest)
  ne : sn ≠ on
  db : (sn == ("__debug__" : Str)) = false ∧ (on == ("__debug__" : Str)) = false
  ks : fd.scope.names.lookup sn = some .local
  ko : fd.scope.names.lookup on = some .local
  ki : fd.scope.names.lookup ("isinstance" : Str) = some .globalImplicit
  kq : fd.scope.names.lookup qname = some .globalImplicit
  bind : ∀ a b : Value, bindArgs fd ⟨[a, b], []⟩ = pure [(sn, a), (on, b)]

structure QAll (X : Cx) (K : Frag) (cd : ClassData) (mg mb : Str → Option Value) : Prop where
  ins : K.In X.hB
  lim : X.hB.NoLimit
  cls : QCls K X.qn cd
  Tg : X.hB.Ns mainGlobals mg
  Tb : X.hB.Ns builtinsNs mb
  isi : mg "isinstance" = none ∧ mb "isinstance" = some (.builtin "isinstance")
  q : mg qname = some (.ref X.qn)
  ge : ∃ g fd sn on, QFn X K .GtE g fd sn on
  le : ∃ g fd sn on, QFn X K .LtE g fd sn on

theorem q_cmp {op : CmpOp} {g : Addr} {fd : FuncData} {sn on : Str} (Q : QAll X K cd mg mb) (F : QFn X K op g fd sn on) {x y : Addr} {a b : List Nat} {c : Bool} (hc : ∀ σ, cmpop op (.str a) (.str b) σ = some c) {A : Around} {ρ : Rho} {σ : Sto} {s : Shared}
    (hA : AOk (X.d + 1) A) (G : StG X.hB X.os X.N.acc ρ σ s) (qx : QAt X.qn s.heap x ⟨a.toArray⟩) (qy : QAt X.qn s.heap y ⟨b.toArray⟩) :
    wpAny (model X.prog X.w) A (richCompare op (.ref x) (.ref y)) (PostV X.hB X.os X.N.acc ρ s (.bool c) σ) Fls s := by
  have KX := Q.ins.keeps G.base
  obtain ⟨dx, ox, Ix, _⟩ := qx.inst
  obtain ⟨dy, oy, Iy, _⟩ := qy.inst
  refine cmp_own (by have := hA.line; omega) KX Ix Iy.type Q.cls.nf F.at_ F.fn ?_
  obtain ⟨c1, c2, c3, c4, d1, d2, d3, d4, d5, d6, d7, rest, hbody⟩ := F.body
  refine wpAny_call (codeAny_mono (pl_enter (R := fun r s' => match r with | .ok (.ret v) => PostV X.hB X.os X.N.acc ρ s (.bool c) σ v s' | _ => False) F.pl Q.lim hbody G.base hA.room (.of_eq (F.bind _ _)) (fun q hq => ?_) fun h₀ hn hk => ?_) fun r s' hr => ?_)
  · rcases List.mem_cons.mp hq with rfl | hq
    · exact F.ks
    · cases List.mem_singleton.mp hq; exact F.ko
  · have hA' : AOk X.d (A.deeper (callEnv fd s.heap.objs.size g)) := hA.deeper _
    generalize hE : callEnv fd s.heap.objs.size g = env at hA' ⊢
    have hloc : env.locals = s.heap.objs.size := by subst hE; rfl
    have hkind : env.scope.kind = .function := by subst hE; exact F.pl.kind
    have hks : env.kindOf sn = some .local := by subst hE; exact F.ks
    have hko : env.kindOf on = some .local := by subst hE; exact F.ko
    have hki : env.kindOf "isinstance" = some .globalImplicit := by subst hE; exact F.ki
    have hkq : env.kindOf qname = some .globalImplicit := by subst hE; exact F.kq
    have hgl : env.globals = mainGlobals := by subst hE; exact F.pl.glob
    have hbu : env.builtins = builtinsNs := by subst hE; exact F.pl.bui
    have hn' : h₀.Ns s.heap.objs.size (fun q => List.lookup q [(sn, Value.ref x), (on, .ref y)].reverse) := hn
    have g0 : Goes s { s with heap := h₀, toks := s.toks + 2 } := ⟨h₀, _, rfl, hk⟩
    obtain ⟨G0, T0⟩ := g0.step G
    have KX0 : K.In h₀ := Q.ins.keeps G0.base
    have qx0 := qx.keeps hk
    have qy0 := qy.keeps hk
    obtain ⟨dy0, oy0, Iy0, _⟩ := qy0.inst
    have bne : (sn == on) = false := by simpa using F.ne
    have ls : List.lookup sn [(sn, Value.ref x), (on, .ref y)].reverse = some (.ref x) := by simp [List.lookup, bne]
    have lo : List.lookup on [(sn, Value.ref x), (on, .ref y)].reverse = some (.ref y) := by simp
    have LN : ∀ (h' : Heap) (t : Nat), (∀ b o, h₀.get? b = some o → h'.get? b = some o) → h'.Ns env.locals (fun q => List.lookup q [(sn, Value.ref x), (on, .ref y)].reverse) := fun h' t k => hloc ▸ hn'.keeps k
    refine wpAny_execs_cons (wpAny_If (wpAny_isTrue_value ?_ rfl))
    show wpAny _ _ (eval (.Name "isinstance" c1) env >>= fun f => callWith c4 f [] (backTo c4 (starEach [.Name on c2, .Name qname c3] env)) []) _ _ _
    refine wpAny_bind (Name_function_global hkind hki (loadGlobal_builtin (hgl ▸ Q.Tg.keeps G0.base) Q.isi.1 (hbu ▸ Q.Tb.keeps G0.base) Q.isi.2 ?_) (by decide))
    refine callWith_builtin rfl (evalArgs_plain ?_)
    refine spliced_cons ?_
    refine wpAny_Name (wpAny_loadName_local hkind hko (LN _ 0 fun _ _ e => e) lo ?_) F.db.2
    refine spliced_cons ?_
    refine Name_function_global hkind hkq (loadGlobal_global (hgl ▸ Q.Tg.keeps G0.base) Q.q ?_) (by decide)
    refine spliced_nil ?_
    refine isi_call (K := K) KX0 (fun M => Iy0.type) Q.cls.is (by simp) ?_
    refine wpAny_truthy_bool ?_
    rw [if_pos rfl]
    refine wpAny_execs_cons (wpAny_Return_some (wpAny_Compare1 ?_ rfl))
    refine any_attr rfl (wpAny_Name (wpAny_loadName_local hkind hks (LN _ 0 fun _ _ e => e) ls ?_) F.db.1)
    refine q_text Q.cls KX0 qx0 fun t1 => ?_
    refine any_attr rfl (wpAny_Name (wpAny_loadName_local hkind hko (LN _ 0 fun _ _ e => e) lo ?_) F.db.2)
    refine q_text Q.cls KX0 qy0 fun t2 => ?_
    exact cmpop_ok (hc σ) (G0.toks _) (.str a t1) (.str b t2) (show (A.deeper env).units + 1 < cLine by have := hA'.line; omega) (.laid T0 (.laid ((Step.refl G0).toks _) (.bool (G0.toks _) c _)))
  · rcases r with e | (v | _ | _ | _) <;> first | exact hr.elim | skip
    obtain ⟨ρ', T, G', r⟩ := hr
    cases r
    exact ⟨ρ', T, G', .bool c⟩

theorem q_ok (Q : QAll X K cd mg mb) {ar : Str} {tx tg : Str} {fI : Addr} {fd : FuncData} {q1 q2 p1 p2 p3 p4 : Pos} {bi : List PySem.Stmt} (F : PlFn X.hB fI fd) (hi : findIn K (.ref X.qn) "__init__" = some (some (.ref fI)))
    (hf : typeIn K (.ref fI) = some (.type "function")) (hbody : fd.body = .stmts [.If (.Name tg q1) bi [] q2, .Assign [.Attribute (.Name ar p1) "text" p2] (.Name tx p3) p4])
    (hd1 : (ar == ("__debug__" : Str)) = false) (hd2 : (tx == ("__debug__" : Str)) = false) (hd3 : (tg == ("__debug__" : Str)) = false) (hne : tx ≠ ar ∧ tg ≠ ar ∧ tg ≠ tx)
    (hk : fd.scope.names.lookup ar = some .local ∧ fd.scope.names.lookup tx = some .local ∧ fd.scope.names.lookup tg = some .local)
    (hbind : ∀ (M : Model) (x : Addr) (a : Str) (t : Tok), Looks M X.hB (bindArgs fd ⟨[.ref x, .str a t], []⟩) [(ar, .ref x), (tx, .str a t), (tg, .none)]) : QOk X.prog X.w X.hB X.os X.N X.qn (X.d + 1) := by
  have inRho : ∀ {ρ : Rho} {σ : Sto} {s : Shared} {x : Addr} {a : Str}, StG X.hB X.os X.N.acc ρ σ s → QAt X.qn s.heap x a → ¬ inρ ρ x := by
    rintro ρ σ s x a G ⟨dx, h1, _⟩ ⟨p, hp, rfl⟩
    obtain ⟨r, hr⟩ := List.getElem?_of_mem hp
    have hl : r < ρ.length := (List.getElem?_eq_some_iff.mp hr).1
    have hl' : r < σ.length := by rw [← G.len]; exact hl
    have := G.cell r _ p (List.getElem?_eq_getElem hl') hr
    revert this
    cases σ[r] with
    | list ys => rintro ⟨us, ⟨i, hi⟩, _⟩; rw [h1] at hi; exact Data.noConfusion (congrArg Obj.data (Option.some.inj hi))
    | acc k ys => rintro ⟨us, ⟨⟨i, hi⟩, _⟩, _⟩; rw [h1] at hi; exact Data.noConfusion (congrArg Obj.data (Option.some.inj hi))
  intro op a b c hc A ρ σ s t hA G
  have hr : A.depth + 2 < recursionLimit := by
    have h1 := hA.depth
    have h2 : recursionLimit = 1000 := rfl
    omega
  refine wpAny_mono (q_make Q.ins Q.lim Q.cls F hi hf hbody hd1 hd2 hd3 hne hk hbind G.base hr) (fun v s1 h => ?_) fun _ _ x => x
  obtain ⟨x, rfl, nx, qx, g1⟩ := h
  obtain ⟨G1, T1⟩ := g1.step G
  refine ⟨⟨T1, G1⟩, fun ρ' σ' s2 u T2 G2 => ?_⟩
  have qx2 : QAt X.qn s2.heap x ⟨a.toArray⟩ := by
    obtain ⟨dx, h1, hs, k, t, h2⟩ := qx
    refine ⟨dx, T2.keep _ _ h1 (inRho G1 ⟨dx, h1, hs, k, t, h2⟩), hs, k, t, T2.keep _ _ h2 ?_⟩
    rintro ⟨p, hp, rfl⟩
    obtain ⟨r, hr⟩ := List.getElem?_of_mem hp
    have hl : r < ρ.length := (List.getElem?_eq_some_iff.mp hr).1
    have hl' : r < σ.length := by rw [← G1.len]; exact hl
    have := G1.cell r _ p (List.getElem?_eq_getElem hl') hr
    revert this
    cases σ[r] with
    | list ys => rintro ⟨us, ⟨i, hi⟩, _⟩; rw [h2] at hi; exact Data.noConfusion (congrArg Obj.data (Option.some.inj hi))
    | acc k ys => rintro ⟨us, ⟨⟨i, hi⟩, _⟩, _⟩; rw [h2] at hi; exact Data.noConfusion (congrArg Obj.data (Option.some.inj hi))
  refine wpAny_mono (q_make Q.ins Q.lim Q.cls F hi hf hbody hd1 hd2 hd3 hne hk hbind G2.base hr) (fun v s3 h => ?_) fun _ _ x => x
  obtain ⟨y, rfl, ny, qy, g3⟩ := h
  obtain ⟨G3, T3⟩ := g3.step G2
  have qx3 : QAt X.qn s3.heap x ⟨a.toArray⟩ := by
    obtain ⟨h', t', rfl, k⟩ := g3
    exact qx2.keeps k
  rcases cmpQ_op hc with ⟨rfl, rfl⟩ | ⟨rfl, rfl⟩
  · obtain ⟨g, fd', sn, on, F'⟩ := Q.ge
    exact wpAny_mono (q_cmp (c := !ltL a b) Q F' (fun _ => rfl) hA G3 qx3 qy) (fun _ _ h => .laid T3 h) fun _ _ x => x
  · obtain ⟨g, fd', sn, on, F'⟩ := Q.le
    exact wpAny_mono (q_cmp (c := !ltL b a) Q F' (fun _ => rfl) hA G3 qx3 qy) (fun _ _ h => .laid T3 h) fun _ _ x => x
end
end Mine
end

section
open PySem PySem.W PyProof.Rows PySem.Calls PySem.SeqAt
set_option maxRecDepth 100000
set_option linter.unusedSimpArgs false
namespace Mine

/-- what holds of a run of a tree of questions, they being answered by lt -/
noncomputable def holdsT {α : Type} (lt : Nat → Nat → Bool) (n : Nat) (R : α → Prop) : KasT α → Prop
  | .ret a => R a
  | .ask i j k => i < n ∧ j < n ∧ holdsT lt n R (k (lt i j))
theorem holdsT_bind {α β : Type} {lt : Nat → Nat → Bool} {n : Nat} {R : β → Prop} {f : α → KasT β} : ∀ {t : KasT α}, holdsT lt n (fun a => holdsT lt n R (f a)) t → holdsT lt n R (t.bind f)
  | .ret _, h => h
  | .ask _ _ _, h => ⟨h.1, h.2.1, holdsT_bind h.2.2⟩
theorem holdsT_mono {α : Type} {lt : Nat → Nat → Bool} {n : Nat} {R R' : α → Prop} (hr : ∀ a, R a → R' a) : ∀ {t : KasT α}, holdsT lt n R t → holdsT lt n R' t
  | .ret _, h => hr _ h
  | .ask _ _ _, h => ⟨h.1, h.2.1, holdsT_mono hr h.2.2⟩

theorem kasWp_holds {α : Type} {lt : Nat → Nat → Bool} {n : Nat} {R : α → Prop} {cmp : Nat → Nat → (Bool → Shared → Prop) → Shared → Prop} {I : Shared → Prop} {Q : α → Shared → Prop}
    (hcmp : ∀ i j (C : Bool → Shared → Prop) s, i < n → j < n → I s → (∀ s', I s' → C (lt i j) s') → cmp i j C s) (hq : ∀ a s, R a → I s → Q a s) : ∀ {t : KasT α} {s : Shared}, I s → holdsT lt n R t → t.kasWp cmp Q s
  | .ret a, s, hi, h => hq a s h hi
  | .ask i j k, s, hi, h => hcmp i j _ s h.1 h.2.1 hi fun s' hi' => kasWp_holds hcmp hq hi' h.2.2

section
variable {lt : Nat → Nat → Bool} {n : Nat}

/-- a strict order on the places under n -/
structure StrictOn (lt : Nat → Nat → Bool) (n : Nat) : Prop where
  trans : ∀ a b c, a < n → b < n → c < n → lt a b = true → lt b c = true → lt a c = true
  asymm : ∀ a b, a < n → b < n → lt a b = true → lt b a = false
  total : ∀ a b, a < n → b < n → a ≠ b → lt a b = false → lt b a = true

theorem getD_q (p : Array Nat) (i : Nat) : p.getD i 0 = (p[i]?).getD 0 := by simp

noncomputable def permOf (n : Nat) (p : Array Nat) : Prop := p.Perm (List.toArray (List.range n))

theorem permOf.size {p : Array Nat} (h : permOf n p) : p.size = n := by
  have := h.size_eq
  simpa using this
theorem permOf.lo {p : Array Nat} (h : permOf n p) {i : Nat} (hi : i < n) : p.getD i 0 < n := by
  have hs := h.size
  have e : p.getD i 0 = p[i]'(by omega) := by simp [Array.getD, hs, hi]
  rw [e]
  have hm : p[i]'(by omega) ∈ p := Array.getElem_mem _
  have : p[i]'(by omega) ∈ List.toArray (List.range n) := h.mem_iff.mp hm
  simpa using this
theorem permOf.inj {p : Array Nat} (h : permOf n p) {i j : Nat} (hi : i < n) (hj : j < n) (hij : i ≠ j) : p.getD i 0 ≠ p.getD j 0 := by
  have hs := h.size
  have nd : p.toList.Nodup := by
    have h1 : p.toList.Perm (List.range n) := by simpa using h.toList
    exact h1.nodup_iff.mpr List.nodup_range
  have e1 : p.getD i 0 = p.toList[i]'(by simpa [hs] using hi) := by simp [Array.getD, hs, hi]
  have e2 : p.getD j 0 = p.toList[j]'(by simpa [hs] using hj) := by simp [Array.getD, hs, hj]
  rw [e1, e2]
  intro e
  exact hij ((List.getElem_inj nd).mp e)

/-- the first k places rise -/
noncomputable def upTo (lt : Nat → Nat → Bool) (p : Array Nat) (k : Nat) : Prop := ∀ i j, i < j → j < k → lt (p.getD i 0) (p.getD j 0) = true
noncomputable def downTo (lt : Nat → Nat → Bool) (p : Array Nat) (k : Nat) : Prop := ∀ i j, i < j → j < k → lt (p.getD j 0) (p.getD i 0) = true

theorem upTo_one {p : Array Nat} : upTo lt p 1 := fun i j h1 h2 => by omega
theorem downTo_one {p : Array Nat} : downTo lt p 1 := fun i j h1 h2 => by omega

theorem upTo_next {p : Array Nat} {k : Nat} (O : StrictOn lt n) (hp : permOf n p) (hk : 1 ≤ k) (hn : k < n) (u : upTo lt p k) (h : lt (p.getD k 0) (p.getD (k - 1) 0) = false) : upTo lt p (k + 1) := by
  have last : lt (p.getD (k - 1) 0) (p.getD k 0) = true := O.total _ _ (hp.lo hn) (hp.lo (by omega)) (hp.inj hn (by omega) (by omega)) h
  intro i j hij hj
  by_cases e : j = k
  · subst e
    by_cases e2 : i = j - 1
    · subst e2; exact last
    · exact O.trans _ _ _ (hp.lo (by omega)) (hp.lo (by omega)) (hp.lo hn) (u i (j - 1) (by omega) (by omega)) last
  · exact u i j hij (by omega)
theorem downTo_next {p : Array Nat} {k : Nat} (O : StrictOn lt n) (hp : permOf n p) (hk : 1 ≤ k) (hn : k < n) (u : downTo lt p k) (h : lt (p.getD k 0) (p.getD (k - 1) 0) = true) : downTo lt p (k + 1) := by
  intro i j hij hj
  by_cases e : j = k
  · subst e
    by_cases e2 : i = j - 1
    · subst e2; exact h
    · exact O.trans _ _ _ (hp.lo hn) (hp.lo (by omega)) (hp.lo (by omega)) h (u i (j - 1) (by omega) (by omega))
  · exact u i j hij (by omega)

theorem asc_ok (O : StrictOn lt n) {p : Array Nat} (hp : permOf n p) : ∀ (f k : Nat), 1 ≤ k → k + f = n → upTo lt p k → holdsT lt n (fun r => 1 ≤ r ∧ r ≤ n ∧ upTo lt p r ∧ (r = n ∨ (k ≤ r ∧ lt (p.getD r 0) (p.getD (r - 1) 0) = true))) (kas_asc p f k)
  | 0, k, h1, h2, u => ⟨h1, by omega, u, .inl (by omega)⟩
  | f + 1, k, h1, h2, u => by
    refine ⟨hp.lo (by omega), hp.lo (by omega), ?_⟩
    cases hc : lt (p.getD k 0) (p.getD (k - 1) 0) with
    | true =>
      dsimp only
      rw [if_pos rfl]
      exact ⟨h1, by omega, u, .inr ⟨Nat.le_refl _, hc⟩⟩
    | false =>
      dsimp only
      rw [if_neg Bool.false_ne_true]
      refine holdsT_mono (fun r h => ⟨h.1, h.2.1, h.2.2.1, h.2.2.2.imp id fun h => ⟨by omega, h.2⟩⟩) (asc_ok O hp f (k + 1) (by omega) (by omega) (upTo_next O hp h1 (by omega) u hc))

theorem desc_ok (O : StrictOn lt n) {p : Array Nat} (hp : permOf n p) : ∀ (f k : Nat), 1 ≤ k → k + f = n → downTo lt p k → holdsT lt n (fun r => r.1 = p ∧ 1 ≤ r.2.1 ∧ r.2.1 ≤ n ∧ downTo lt p r.2.1 ∧ r.2.2 = 0) (kas_desc f p k 0)
  | 0, k, h1, h2, u => ⟨rfl, h1, (by show k ≤ n; omega), u, rfl⟩
  | f + 1, k, h1, h2, u => by
    refine ⟨hp.lo (by omega), hp.lo (by omega), ?_⟩
    cases hc : lt (p.getD k 0) (p.getD (k - 1) 0) with
    | true =>
      dsimp only
      rw [if_pos rfl, if_neg (by omega)]
      exact desc_ok O hp f (k + 1) (by omega) (by omega) (downTo_next O hp h1 (by omega) u hc)
    | false =>
      dsimp only
      rw [if_neg Bool.false_ne_true]
      refine ⟨hp.lo (by omega), hp.lo (by omega), ?_⟩
      have last : lt (p.getD (k - 1) 0) (p.getD k 0) = true := O.total _ _ (hp.lo (by omega)) (hp.lo (by omega)) (hp.inj (by omega) (by omega) (by omega)) hc
      rw [last]
      dsimp only
      rw [if_pos rfl]
      exact ⟨rfl, h1, (by show k ≤ n; omega), u, rfl⟩

theorem rev_ok {p : Array Nat} (hp : permOf n p) {k : Nat} (hk : k ≤ n) (u : downTo lt p k) : permOf n (kas_rev p 0 k) ∧ upTo lt (kas_rev p 0 k) k := by
  refine ⟨(mirror_perm _ _ _ _).trans hp, fun i j hij hj => ?_⟩
  have at_ : ∀ i, i < k → (kas_rev p 0 k).getD i 0 = p.getD (k - 1 - i) 0 := fun i hi => by
    have e := getElem?_mirror_all (xs := p) (i := 0) (j := k) (by rw [hp.size]; exact hk) i
    rw [if_pos ⟨Nat.zero_le _, hi⟩] at e
    have e' : (kas_rev p 0 k)[i]? = p[0 + k - 1 - i]? := e
    rw [getD_q, getD_q, e', Nat.zero_add]
  rw [at_ i (by omega), at_ j hj]
  exact u (k - 1 - j) (k - 1 - i) (by omega) (by omega)

theorem place_ok (O : StrictOn lt n) {p : Array Nat} (hp : permOf n p) {k : Nat} (hk : k < n) (u : upTo lt p k) : ∀ (f l r : Nat), l ≤ r → r ≤ k → r - l ≤ f → (∀ i, i < l → lt (p.getD i 0) (p.getD k 0) = true) → (∀ i, r ≤ i → i < k → lt (p.getD k 0) (p.getD i 0) = true) →
    holdsT lt n (fun q => q ≤ k ∧ (∀ i, i < q → lt (p.getD i 0) (p.getD k 0) = true) ∧ ∀ i, q ≤ i → i < k → lt (p.getD k 0) (p.getD i 0) = true) (kas_place p k f l r)
  | 0, l, r, h1, h2, h3, hl, hr => ⟨by omega, hl, fun i a b => hr i (by omega) b⟩
  | f + 1, l, r, h1, h2, h3, hl, hr => by
    unfold kas_place
    by_cases e : l ≥ r
    · rw [if_pos e]
      exact ⟨by omega, hl, fun i a b => hr i (by omega) b⟩
    · rw [if_neg e]
      have hm : (l + r) / 2 < r ∧ l ≤ (l + r) / 2 := by omega
      refine ⟨hp.lo hk, hp.lo (by omega), ?_⟩
      cases hc : lt (p.getD k 0) (p.getD ((l + r) / 2) 0) with
      | true =>
        dsimp only
        rw [if_pos rfl]
        refine place_ok O hp hk u f l ((l + r) / 2) hm.2 (by omega) (by omega) hl fun i a b => ?_
        by_cases q : i = (l + r) / 2
        · rw [q]; exact hc
        · exact O.trans _ _ _ (hp.lo hk) (hp.lo (by omega)) (hp.lo (by omega)) hc (u _ i (by omega) b)
      | false =>
        dsimp only
        rw [if_neg Bool.false_ne_true]
        have c2 : lt (p.getD ((l + r) / 2) 0) (p.getD k 0) = true := O.total _ _ (hp.lo hk) (hp.lo (by omega)) (hp.inj hk (by omega) (by omega)) hc
        refine place_ok O hp hk u f ((l + r) / 2 + 1) r (by omega) h2 (by omega) (fun i a => ?_) hr
        by_cases q : i = (l + r) / 2
        · rw [q]; exact c2
        · exact O.trans _ _ _ (hp.lo (by omega)) (hp.lo (by omega)) (hp.lo hk) (u i _ (by omega) (by omega)) c2

theorem bubble_at {p : Array Nat} {k l : Nat} (hk : k < p.size) (hl : l ≤ k) (i : Nat) : (bubble p k (k - l)).getD i 0 = if i = l then p.getD k 0 else if l < i ∧ i ≤ k then p.getD (i - 1) 0 else p.getD i 0 := by
  have e := getElem?_bubble hk (k - l) (by omega) i
  have q : k - (k - l) = l := by omega
  rw [q] at e
  rw [getD_q (bubble p k (k - l)), e, getD_q p k, getD_q p (i - 1), getD_q p i]
  by_cases h1 : i = l
  · rw [if_pos h1, if_pos h1]
  · rw [if_neg h1, if_neg h1]
    by_cases h2 : l < i ∧ i ≤ k
    · rw [if_pos h2, if_pos h2]
    · rw [if_neg h2, if_neg h2]

theorem bin_ok (O : StrictOn lt n) : ∀ (f : Nat) (p : Array Nat) (k : Nat), permOf n p → 1 ≤ k → k + f = n → upTo lt p k → holdsT lt n (fun r => permOf n r ∧ upTo lt r n) (kas_bin f p k)
  | 0, p, k, hp, _, h2, u => by
    have : k = n := by omega
    subst this
    exact ⟨hp, u⟩
  | f + 1, p, k, hp, h1, h2, u => by
    unfold kas_bin
    refine holdsT_bind (holdsT_mono (fun l h => ?_) (place_ok O hp (k := k) (by omega) u k 0 k (by omega) (by omega) (by omega) (fun i a => by omega) (fun i a b => by omega)))
    obtain ⟨hl, h3, h4⟩ := h
    have hk : k < p.size := by rw [hp.size]; omega
    refine bin_ok O f _ (k + 1) ((bubble_perm _ _ _).trans hp) (by omega) (by omega) fun i j hij hj => ?_
    rw [bubble_at hk hl, bubble_at hk hl]
    by_cases a1 : i = l
    · rw [if_pos a1, if_neg (by omega), if_pos ⟨by omega, by omega⟩]
      exact h4 (j - 1) (by omega) (by omega)
    · rw [if_neg a1]
      by_cases a2 : j = l
      · rw [if_pos a2, if_neg (by omega)]
        exact h3 i (by omega)
      · rw [if_neg a2]
        by_cases b1 : l < i ∧ i ≤ k
        · rw [if_pos b1, if_pos ⟨by omega, by omega⟩]
          exact u (i - 1) (j - 1) (by omega) (by omega)
        · rw [if_neg b1]
          by_cases b2 : l < j ∧ j ≤ k
          · rw [if_pos b2]
            exact u i (j - 1) (by omega) (by omega)
          · rw [if_neg b2]
            exact u i j hij (by omega)

theorem tail3_ok (O : StrictOn lt n) {p : Array Nat} {k : Nat} (hp : permOf n p) (h1 : 1 ≤ k) (hk : k ≤ n) (u : downTo lt p k) : holdsT lt n (fun r => permOf n r.2 ∧ 1 ≤ r.1 ∧ r.1 ≤ n ∧ upTo lt r.2 r.1) (kas_tail3 k n p) := by
  unfold kas_tail3
  obtain ⟨hp', u'⟩ := rev_ok hp hk u
  refine holdsT_bind (holdsT_mono (fun r h => ?_) (asc_ok O hp' (n - k) k h1 (by omega) u'))
  exact ⟨hp', h.1, h.2.1, h.2.2.1⟩

theorem sort_ok (O : StrictOn lt n) (h2 : 2 ≤ n) : holdsT lt n (fun r => permOf n r ∧ upTo lt r n) (kas_sort n) := by
  have h0 : permOf n (List.toArray (List.range n)) := Array.Perm.refl _
  unfold kas_sort
  refine holdsT_bind (holdsT_mono (R := fun r => permOf n r.2 ∧ 1 ≤ r.1 ∧ r.1 ≤ n ∧ upTo lt r.2 r.1) (fun r h => ?_) ?_)
  · obtain ⟨a, b, c, d⟩ := h
    split
    · rename_i hlt
      have e : max r.1 1 = r.1 := by omega
      rw [e]
      exact bin_ok O _ _ _ a b (by omega) d
    · have : r.1 = n := by omega
      exact ⟨a, this ▸ d⟩
  · unfold kas_count
    refine holdsT_bind (holdsT_mono (fun k h => ?_) (asc_ok O h0 (n - 1) 1 (Nat.le_refl _) (by omega) upTo_one))
    obtain ⟨h1, h3, hu, hr⟩ := h
    by_cases e : k = n
    · subst e
      rw [if_pos (beq_self_eq_true _)]
      exact ⟨h0, h1, h3, hu⟩
    · rw [if_neg (by simpa using e)]
      by_cases e1 : k > 1
      · rw [if_pos e1]
        refine ⟨h0.lo (by omega), h0.lo (by omega), ?_⟩
        rw [hu 0 (k - 1) (by omega) (by omega)]
        dsimp only
        rw [if_pos rfl]
        exact ⟨h0, h1, h3, hu⟩
      · rw [if_neg e1]
        have k1 : k = 1 := by omega
        subst k1
        have hd : lt ((List.toArray (List.range n)).getD 1 0) ((List.toArray (List.range n)).getD (1 - 1) 0) = true := (hr.resolve_left e).2
        unfold kas_descPart
        have dn : downTo lt (List.toArray (List.range n)) 2 := downTo_next O h0 (Nat.le_refl _) (by omega) downTo_one hd
        refine holdsT_bind (holdsT_mono (fun r h => ?_) (desc_ok O h0 (n - 2) 2 (by omega) (by omega) dn))
        obtain ⟨a, b, c, d, q⟩ := h
        rw [q, if_neg (by omega), a]
        exact tail3_ok O h0 b c d
end
end Mine
end

section
open PySem PySem.W PyProof.Rows PySem.Calls PySem.SeqAt
set_option maxRecDepth 100000
set_option linter.unusedSimpArgs false
namespace Mine

section
variable {prog : Program} {w : World} {A : Around} {E : Value → Shared → Prop} {s : Shared}

/-- the sort of a list in its place -/
theorem lsort_out {a : Addr} {n : Nat} {vs out : List Value} {P : Fin → Shared → Prop} (ho : s.heap.get? a = some (seqObj "list" vs.toArray n)) (hlen : out.length = vs.length)
    (hc : (vs.length < 2 ∧ out = vs) ∨ (2 ≤ vs.length ∧ vs.length < 64 ∧ ∀ s' : Shared, (∀ b o, b ≠ a → s.heap.get? b = some o → s'.heap.get? b = some o) →
      wpAny (model prog w) A (keyKind' vs.toArray) (fun κ s'' => s'' = s' ∧ ∀ Q : Array Nat → Shared → Prop, (∀ p : Array Nat, p.size = vs.length → (p.toList.map fun i => vs.getD i Value.none) = out → Q p s') → (kas_sort vs.length).kasWp (kas_ask prog w A κ vs) Q s') Fls s'))
    (h : ∀ h', (∀ b o, b ≠ a → s.heap.get? b = some o → h'.get? b = some o) → (∃ c, h'.get? a = some (seqObj "list" out.toArray c)) → P (.done (.ret .none)) { s with heap := h' }) :
    wpAny (model prog w) A (Builtin.«list.sort» ⟨[.ref a], []⟩) P E s := by
  have s1 := Heap.SameBut.update s.heap a (Obj.mapSeq fun _ => (#[] : Array Value))
  obtain ⟨e1, ho1⟩ : ∃ e1, (s.heap.update a (Obj.mapSeq fun _ => (#[] : Array Value))).get? a = some (seqObj "list" #[] e1) := ⟨_, get?_update_seq ho fun _ => #[]⟩
  have l64 : vs.length < 64 := by rcases hc with h | h <;> omega
  rw [list_sort_plain]
  refine wpAny_bind (listItems_at ho rfl ?_)
  refine wpAny_bind (listUpdate_at ho rfl ?_ (by rw [List.size_toArray, sizeLine_eq]; omega) (Nat.zero_le _))
  refine wpAny_bind (seqEpoch_at ho1 rfl ?_)
  refine wpAny_bind (wpAny_newTuple ?_ (by show vs.length ≤ _; rw [sizeLine_eq]; omega))
  refine wpAny_bind (wpAny_newList ?_ (Nat.zero_le _))
  refine wpAny_holding ?_
  generalize hH : ((s.heap.update a (Obj.mapSeq fun _ => (#[] : Array Value))).push (seqObj "tuple" vs.toArray 0)).push (seqObj "list" #[] 0) = H
  show wpAny (model prog w) A _ P E { s with heap := H }
  have kH : ∀ b o, b ≠ a → s.heap.get? b = some o → H.get? b = some o := fun b o n e => hH ▸ Heap.get?_push_of_some _ (Heap.get?_push_of_some _ ((s1.2 b n).trans e))
  have aH : H.get? a = some (seqObj "list" #[] e1) := hH ▸ Heap.get?_push_of_some _ (Heap.get?_push_of_some _ ho1)
  have fin : ∀ st' : SortSt, (arrOf st').map (·.2) = out.toArray → failedOf st' = none → wpAny (model prog w) A (do
      let sorted := (arrOf st').map (·.2)
      let touched := (← seqEpoch a) != e1
      Builtin.List.listUpdate (.ref a) fun _ => sorted
      if let some e := failedOf st' then rule "list.sort.comparison-raised"; throw e
      if touched then rule "list.sort.modified"; raiseError "ValueError" "list modified during sort"
      ret .none) P E { s with heap := H } := by
    intro st' har hf
    have s2 := Heap.SameBut.update H a (Obj.mapSeq fun _ => out.toArray)
    obtain ⟨c2, hc2⟩ : ∃ c2, (H.update a (Obj.mapSeq fun _ => out.toArray)).get? a = some (seqObj "list" out.toArray c2) := ⟨_, get?_update_seq aH fun _ => out.toArray⟩
    dsimp only
    rw [har]
    refine wpAny_bind (seqEpoch_at aH rfl ?_)
    refine wpAny_bind (listUpdate_at aH rfl ?_ (Nat.zero_le _) (by rw [List.size_toArray, sizeLine_eq]; omega))
    rw [hf]
    simp only [bne_self_eq_false, Bool.false_eq_true, if_false]
    exact wpAny_pure (h _ (fun b o n e => (s2.2 b n).trans (kH b o n e)) ⟨c2, hc2⟩)
  rcases hc with ⟨h2, rfl⟩ | ⟨h2, h64, hk⟩
  · have hn2 : out.toArray.size < 2 := by rw [List.size_toArray]; exact h2
    dsimp only
    rw [if_pos hn2, if_pos hn2]
    refine wpAny_bind (wpAny_pure ?_)
    refine wpAny_bind (wpAny_pure ?_)
    refine fin (SortSt.mk' general' (out.toArray.zip out.toArray) #[] 7 none) ?_ rfl
    show (out.toArray.zip out.toArray).map (·.2) = _
    apply Array.ext'
    simp [List.map_snd_zip]
  · have hn2 : ¬ vs.toArray.size < 2 := by rw [List.size_toArray]; omega
    dsimp only
    rw [if_neg hn2, if_neg hn2]
    refine wpAny_bind (wpAny_mono (hk { s with heap := H } kH) (fun κ s0 hk' => ?_) fun _ _ x => x.elim)
    obtain ⟨rfl, hk'⟩ := hk'
    refine wpAny_bind (wpAny_mono (kat_run (Q := fun st' s' => s' = { s with heap := H } ∧ (arrOf st').map (·.2) = out.toArray ∧ failedOf st' = none) (G := fun p s' => s' = { s with heap := H } ∧ p.size = vs.length ∧ (p.toList.map fun i => vs.getD i Value.none) = out)
      rfl h2 h64 (fun p' st' s' a1 a2 a3 a4 => ⟨a4.1, (kat_snds rfl a2).trans (by rw [a4.2.2]), a3⟩) (hk' _ fun p hp ho => ⟨rfl, hp, ho⟩)) ?_ fun _ _ e => e)
    rintro ⟨⟨⟩, st'⟩ s' ⟨rfl, har, hf⟩
    exact fin st' har hf

theorem sorted_out' {l : Addr} {vs out : List Value} {Q : Value → Shared → Prop} (hl : s.heap.IsList l vs.toArray) (hlen : out.length = vs.length) (h64 : vs.length < 64)
    (hc : (vs.length < 2 ∧ out = vs) ∨ (2 ≤ vs.length ∧ vs.length < 64 ∧ ∀ s' : Shared, (∀ b o, s.heap.get? b = some o → s'.heap.get? b = some o) →
      wpAny (model prog w) A.in1.in1 (keyKind' vs.toArray) (fun κ s'' => s'' = s' ∧ ∀ Q : Array Nat → Shared → Prop, (∀ p : Array Nat, p.size = vs.length → (p.toList.map fun i => vs.getD i Value.none) = out → Q p s') → (kas_sort vs.length).kasWp (kas_ask prog w A.in1.in1 κ vs) Q s') Fls s'))
    (h : ∀ D h', s.heap.get? D = none → (∀ b o, s.heap.get? b = some o → h'.get? b = some o) → (∃ c, h'.get? D = some (seqObj "list" out.toArray c)) → Q (.ref D) { s with heap := h' }) :
    wpAny (model prog w) A (call (.builtin "sorted") [.ref l]) Q E s := by
  refine Calls.call_function_entry kind_sorted plain_sorted entry_sorted (args_sorted1 _) ?_
  unfold Builtin.«sorted»
  refine wpAny_bind (m := checkCount "sorted" 1 1 _) (wpAny_pure ?_)
  refine wpAny_bind (collect_list hl ?_ (by rw [sizeLine_eq]; omega))
  refine wpAny_bind (wpAny_newList ?_ (by rw [sizeLine_eq]; omega))
  have hsz : ((s.heap.push (seqObj "list" #[] 0)).update s.heap.objs.size (Obj.mapSeq (· ++ vs.toArray))).objs.size = s.heap.objs.size + 1 := by
    rw [Heap.size_update, size_push']
  have hoL : (((s.heap.push (seqObj "list" #[] 0)).update s.heap.objs.size (Obj.mapSeq (· ++ vs.toArray))).push (seqObj "list" vs.toArray 0)).get? (s.heap.objs.size + 1) = some (seqObj "list" vs.toArray 0) := by
    rw [← hsz]; exact Heap.get?_push_size _ rfl
  have keep : ∀ b o, s.heap.get? b = some o → (((s.heap.push (seqObj "list" #[] 0)).update s.heap.objs.size (Obj.mapSeq (· ++ vs.toArray))).push (seqObj "list" vs.toArray 0)).get? b = some o := fun b o q => by
    have hlt : b < s.heap.objs.size := Heap.lt_size q
    rw [Heap.get?_push_ne _ _ _ (by rw [hsz]; exact Nat.ne_of_lt (Nat.lt_succ_of_lt hlt)), Heap.get?_update_ne _ _ _ _ (Nat.ne_of_lt hlt), Heap.get?_push_ne _ _ _ (Nat.ne_of_lt hlt)]
    exact q
  have nD : s.heap.get? (s.heap.objs.size + 1) = none := by
    cases e : s.heap.get? (s.heap.objs.size + 1) with
    | none => rfl
    | some o => exact absurd (Heap.lt_size e) (Nat.not_lt.mpr (Nat.le_succ _))
  show wpAny _ _ _ _ _ { s with heap := ((s.heap.push (seqObj "list" #[] 0)).update s.heap.objs.size (Obj.mapSeq (· ++ vs.toArray))).push (seqObj "list" vs.toArray 0) }
  rw [hsz]
  generalize ((s.heap.push (seqObj "list" #[] 0)).update s.heap.objs.size (Obj.mapSeq (· ++ vs.toArray))).push (seqObj "list" vs.toArray 0) = H at hoL keep ⊢
  refine wpAny_bind (wpAny_holding (wpAny_call_entry slot_list_sort ⟨_, hoL, rfl⟩ entry_list_sort ?body (args_list_sort _)))
  case body =>
    have ne : ∀ b o, s.heap.get? b = some o → b ≠ s.heap.objs.size + 1 := fun b o e q => by rw [q, nD] at e; cases e
    refine lsort_out (s := { s with heap := H }) hoL hlen (hc.imp id fun h => ⟨h.1, h.2.1, fun s' k => h.2.2 s' fun b o e => k b o (ne b o e) (keep b o e)⟩) fun h' k ho => ?_
    exact ⟨_, rfl, wpAny_pure ⟨_, rfl, h _ h' nD (fun b o e => k b o (ne b o e) (keep b o e)) ho⟩⟩
end
end Mine
end

section
open PySem PySem.W PyProof.Rows PySem.Calls PySem.SeqAt
set_option maxRecDepth 100000
set_option linter.unusedSimpArgs false
namespace Mine

theorem ltL_irr : ∀ x : List Nat, ltL x x = false
  | [] => rfl
  | c :: r => by simp [ltL_c, ltL_irr r]
theorem ltL_trans : ∀ {x y z : List Nat}, ltL x y = true → ltL y z = true → ltL x z = true
  | [], [], _, h, _ => by simp [ltL_z] at h
  | _ :: _, [], _, h, _ => by simp [ltL_z] at h
  | [], _ :: _, [], _, h => by simp [ltL_z] at h
  | _ :: _, _ :: _, [], _, h => by simp [ltL_z] at h
  | [], _ :: _, _ :: _, _, _ => by simp [ltL_0]
  | a :: x, b :: y, c :: z, h1, h2 => by
    simp only [ltL_c] at h1 h2 ⊢
    by_cases ab : a < b
    · by_cases bc : b < c
      · rw [if_pos (Nat.lt_trans ab bc)]
      · rw [if_neg bc] at h2
        by_cases e : b = c
        · subst e; rw [if_pos ab]
        · rw [if_neg e] at h2; cases h2
    · rw [if_neg ab] at h1
      by_cases e : a = b
      · subst e
        rw [if_pos rfl] at h1
        by_cases bc : a < c
        · rw [if_pos bc]
        · rw [if_neg bc] at h2 ⊢
          by_cases e : a = c
          · subst e
            rw [if_pos rfl] at h2 ⊢
            exact ltL_trans h1 h2
          · rw [if_neg e] at h2; cases h2
      · rw [if_neg e] at h1; cases h1
theorem ltL_tri : ∀ {x y : List Nat}, ltL x y = false → ltL y x = false → x = y
  | [], [], _, _ => rfl
  | _ :: _, [], _, h => by simp [ltL_0] at h
  | [], _ :: _, h, _ => by simp [ltL_0] at h
  | a :: x, b :: y, h1, h2 => by
    simp only [ltL_c] at h1 h2
    by_cases ab : a < b
    · rw [if_pos ab] at h1; cases h1
    · by_cases ba : b < a
      · rw [if_pos ba] at h2; cases h2
      · have e : a = b := Nat.le_antisymm (Nat.le_of_not_lt ba) (Nat.le_of_not_lt ab)
        subst e
        rw [if_neg (Nat.lt_irrefl _), if_pos rfl] at h1 h2
        rw [ltL_tri h1 h2]

/-- a pair of an int and a text -/
noncomputable def IsPr (v : AV) : Prop := ∃ a x, v = .tup [.int a, .str x]
noncomputable def ltb (x y : AV) : Bool := match ltAV x y with | some true => true | _ => false

theorem ltb_pr (a b : Int) (x y : List Nat) : ltb (.tup [.int a, .str x]) (.tup [.int b, .str y]) = if a < b then true else if a = b then ltL x y else false := by
  show (match some (if a < b then true else if a = b then ltL x y else false) with | some true => true | _ => false) = _
  generalize (if a < b then true else if a = b then ltL x y else false) = c
  cases c <;> rfl
theorem ltb_of {x y : AV} (h : ltAV x y = some true) : ltb x y = true := by simp [ltb, h]
theorem ltb_some {x y : AV} (h : ltb x y = true) : ltAV x y = some true := by
  unfold ltb at h
  split at h
  · assumption
  · cases h
theorem prOf_inv {x : AV} {q : Int × List Nat} (h : prOf x = some q) : IsPr x := by
  obtain ⟨xs, h1, h⟩ := bind1_inv h
  obtain ⟨a, s, h2, h⟩ := bind2_inv h
  obtain ⟨i, h3, h⟩ := bind1_inv h
  obtain ⟨l, h4, _⟩ := bind1_inv h
  exact ⟨i, l, by rw [asTup_inv h1, two_inv h2, asInt_inv h3, asStr_inv h4]⟩
theorem ltAV_pr {x y : AV} {b : Bool} (h : ltAV x y = some b) : IsPr x ∧ IsPr y := by
  obtain ⟨a, s, h1, h⟩ := bind2_inv h
  obtain ⟨b, u, h2, _⟩ := bind2_inv h
  exact ⟨prOf_inv h1, prOf_inv h2⟩
theorem ltb_isPr {x y : AV} (h : ltb x y = true) : IsPr x ∧ IsPr y := ltAV_pr (ltb_some h)
theorem ltb_irr (x : AV) : ltb x x = false := by
  cases h : ltb x x with
  | false => rfl
  | true =>
    obtain ⟨⟨a, t, rfl⟩, _⟩ := ltb_isPr h
    rw [ltb_pr, if_neg (Int.lt_irrefl a), if_pos rfl, ltL_irr] at h
    cases h
theorem ltb_trans {x y z : AV} (h1 : ltb x y = true) (h2 : ltb y z = true) : ltb x z = true := by
  obtain ⟨⟨a, t, rfl⟩, ⟨b, u, rfl⟩⟩ := ltb_isPr h1
  obtain ⟨_, ⟨c, v, rfl⟩⟩ := ltb_isPr h2
  rw [ltb_pr] at h1 h2 ⊢
  by_cases ab : a < b
  · by_cases bc : b < c
    · rw [if_pos (by omega)]
    · rw [if_neg bc] at h2
      by_cases e : b = c
      · rw [if_pos (by omega)]
      · rw [if_neg e] at h2; cases h2
  · rw [if_neg ab] at h1
    by_cases e : a = b
    · subst e
      rw [if_pos rfl] at h1
      by_cases bc : a < c
      · rw [if_pos bc]
      · rw [if_neg bc] at h2 ⊢
        by_cases e : a = c
        · rw [if_pos e] at h2 ⊢
          exact ltL_trans h1 h2
        · rw [if_neg e] at h2; cases h2
    · rw [if_neg e] at h1; cases h1
theorem ltb_asymm {x y : AV} (h : ltb x y = true) : ltb y x = false := by
  cases e : ltb y x with
  | false => rfl
  | true => have := ltb_trans h e; rw [ltb_irr] at this; cases this
theorem ltb_tri {x y : AV} (hx : IsPr x) (hy : IsPr y) (h1 : ltb x y = false) (h2 : ltb y x = false) : x = y := by
  obtain ⟨a, t, rfl⟩ := hx
  obtain ⟨b, u, rfl⟩ := hy
  rw [ltb_pr] at h1 h2
  have n1 : ¬ a < b := fun q => by rw [if_pos q] at h1; cases h1
  have n2 : ¬ b < a := fun q => by rw [if_pos q] at h2; cases h2
  have e : a = b := by omega
  subst e
  rw [if_neg n1, if_pos rfl] at h1 h2
  rw [ltL_tri h1 h2]

theorem insAV_spec {v : AV} : ∀ {xs ys : List AV}, insAV v xs = some ys → xs.Pairwise (fun a b => ltb a b = true) → ys.Perm (v :: xs) ∧ ys.Pairwise (fun a b => ltb a b = true) ∧ (xs ≠ [] → IsPr v)
  | [], ys, e, _ => by cases e; exact ⟨.refl _, by simp, fun h => absurd rfl h⟩
  | x :: xs, ys, e, hp => by
    obtain ⟨hx, hr⟩ := List.pairwise_cons.mp hp
    simp only [insAV_c] at e
    cases h1 : ltAV v x with
    | none => rw [h1] at e; cases e
    | some b =>
      rw [h1] at e
      have hv := (ltAV_pr h1).1
      cases b with
      | true =>
        cases e
        refine ⟨.refl _, List.pairwise_cons.mpr ⟨fun y hy => ?_, hp⟩, fun _ => hv⟩
        rcases List.mem_cons.mp hy with rfl | hy
        · exact ltb_of h1
        · exact ltb_trans (ltb_of h1) (hx y hy)
      | false =>
        dsimp only at e
        split at e
        · rename_i h2
          cases h3 : insAV v xs with
          | none => rw [h3] at e; cases e
          | some zs =>
            rw [h3] at e; cases e
            obtain ⟨p, q, _⟩ := insAV_spec h3 hr
            refine ⟨(p.cons x).trans (.swap _ _ _), List.pairwise_cons.mpr ⟨fun y hy => ?_, q⟩, fun _ => hv⟩
            rcases List.mem_cons.mp (p.mem_iff.mp hy) with rfl | hy
            · exact ltb_of h2
            · exact hx y hy
        · cases e

theorem sortAV_spec : ∀ {xs ys : List AV}, sortAV xs = some ys → ys.Perm xs ∧ ys.Pairwise (fun a b => ltb a b = true) ∧ (2 ≤ xs.length → ∀ v ∈ xs, IsPr v)
  | [], ys, e => by cases e; exact ⟨.refl _, .nil, fun h => by simp at h⟩
  | x :: xs, ys, e => by
    simp only [sortAV_c] at e
    cases h : sortAV xs with
    | none => rw [h] at e; cases e
    | some zs =>
      rw [h] at e
      obtain ⟨p, q, r⟩ := sortAV_spec h
      obtain ⟨p', q', r'⟩ := insAV_spec e q
      refine ⟨p'.trans (p.cons x), q', fun h2 v hv => ?_⟩
      have hl : ys.length = xs.length + 1 := by rw [p'.length_eq, List.length_cons, p.length_eq]
      obtain ⟨y1, y2, r, rfl⟩ : ∃ y1 y2 r, ys = y1 :: y2 :: r := by
        match ys, hl with
        | [], hl => simp at hl
        | [_], hl => simp at hl h2; subst hl; simp at h2
        | y1 :: y2 :: r, _ => exact ⟨y1, y2, r, rfl⟩
      obtain ⟨h1, h3⟩ := List.pairwise_cons.mp q'
      rcases List.mem_cons.mp ((p'.trans (p.cons x)).mem_iff.mpr hv) with rfl | hm
      · exact (ltb_isPr (h1 y2 (by simp))).1
      · exact (ltb_isPr (h1 v hm)).2

noncomputable def ltIx (xs : List AV) (i j : Nat) : Bool := ltb (xs.getD i .none) (xs.getD j .none)

theorem ltIx_strict {xs ys : List AV} (e : sortAV xs = some ys) (h2 : 2 ≤ xs.length) : StrictOn (ltIx xs) xs.length := by
  obtain ⟨p, q, r⟩ := sortAV_spec e
  refine ⟨fun a b c _ _ _ => ltb_trans, fun a b _ _ => ltb_asymm, fun a b ha hb hab h => ?_⟩
  cases h' : ltIx xs b a with
  | true => rfl
  | false =>
    have ea : xs.getD a .none = xs[a] := by simp [ha]
    have eb : xs.getD b .none = xs[b] := by simp [hb]
    have nd : xs.Nodup := p.nodup_iff.mp (q.imp fun {x y} h e => by subst e; rw [ltb_irr] at h; cases h)
    have := ltb_tri (r h2 _ (List.getElem_mem ha)) (r h2 _ (List.getElem_mem hb)) (by rw [← ea, ← eb]; exact h) (by rw [← ea, ← eb]; exact h')
    exact absurd ((List.getElem_inj nd).mp this) hab

theorem pairwise_getD {lt : Nat → Nat → Bool} {p : Array Nat} {n : Nat} (hs : p.size = n) (u : upTo lt p n) : p.toList.Pairwise (fun i j => lt i j = true) := by
  rw [List.pairwise_iff_getElem]
  intro i j hi hj hij
  have e1 : p.getD i 0 = p.toList[i] := by have : i < p.size := by simpa using hi
                                           simp [Array.getD, this]
  have e2 : p.getD j 0 = p.toList[j] := by have : j < p.size := by simpa using hj
                                           simp [Array.getD, this]
  rw [← e1, ← e2]
  exact u i j hij (by rw [← hs]; simpa using hj)

theorem sorted_unique {α : Type} {R : α → α → Prop} : ∀ {l l' : List α}, (∀ a b, R a b → R b a → False) → l.Perm l' → l.Pairwise R → l'.Pairwise R → l = l'
  | [], l', _, p, _, _ => (List.nil_perm.mp p).symm
  | a :: l, [], _, p, _, _ => absurd (List.perm_nil.mp p) (by simp)
  | a :: l, b :: l', as, p, h, h' => by
    obtain ⟨ha, hl⟩ := List.pairwise_cons.mp h
    obtain ⟨hb, hl'⟩ := List.pairwise_cons.mp h'
    have e : a = b := by
      rcases List.mem_cons.mp (p.mem_iff.mp (List.mem_cons_self ..)) with e | e
      · exact e
      · rcases List.mem_cons.mp (p.mem_iff.mpr (List.mem_cons_self ..)) with e' | e'
        · exact e'.symm
        · exact (as _ _ (ha _ e') (hb _ e)).elim
    subst e
    rw [sorted_unique as (List.Perm.cons_inv p) hl hl']

theorem range_getD {α : Type} (xs : List α) (d : α) : (List.range xs.length).map (fun i => xs.getD i d) = xs := by
  refine List.ext_getElem (by simp) fun i h1 h2 => ?_
  simp [h2]

/-- the places in their order, and the sorted list -/
theorem places {xs ys : List AV} (e : sortAV xs = some ys) (h2 : 2 ≤ xs.length) : ∃ r : List Nat, r.Perm (List.range xs.length) ∧ r.map (fun i => xs.getD i .none) = ys ∧
    ∀ p, permOf xs.length p ∧ upTo (ltIx xs) p xs.length → p.toList = r := by
  have O := ltIx_strict e h2
  have ex : ∀ {α : Type} {R : α → Prop} {t : KasT α}, holdsT (ltIx xs) xs.length R t → ∃ a, R a := by
    intro α R t
    induction t with
    | ret a => exact fun h => ⟨a, h⟩
    | ask i j k ih => exact fun h => ih _ h.2.2
  obtain ⟨r, hr, ur⟩ := ex (sort_ok O h2)
  have pl : ∀ p, permOf xs.length p → p.toList.Perm (List.range xs.length) := fun p h => by simpa using h.toList
  have ul : ∀ p, permOf xs.length p → upTo (ltIx xs) p xs.length → p.toList.Pairwise (fun i j => ltIx xs i j = true) := fun p h u => pairwise_getD h.size u
  have as : ∀ a b, ltIx xs a b = true → ltIx xs b a = true → False := fun a b h h' => by
    have := ltb_asymm h
    rw [show ltb (xs.getD b .none) (xs.getD a .none) = true from h'] at this; cases this
  obtain ⟨p, q, _⟩ := sortAV_spec e
  refine ⟨r.toList, pl r hr, ?_, fun p' h => sorted_unique as ((pl p' h.1).trans (pl r hr).symm) (ul p' h.1 h.2) (ul r hr ur)⟩
  refine sorted_unique (R := fun a b => ltb a b = true) (fun a b h h' => ?_) ?_ ?_ q
  · rw [ltb_asymm h] at h'; cases h'
  · refine ((pl r hr).map _).trans ?_
    rw [range_getD]
    exact p.symm
  · rw [List.pairwise_map]
    exact ul r hr ur
end Mine
end

section
open PySem PySem.W PyProof.Rows PySem.Calls PySem.SeqAt
set_option maxRecDepth 100000
set_option linter.unusedSimpArgs false
namespace Mine

section
variable {prog : Program} {w : World} {A : Around} {hB : Heap} {os : OsState} {C : Addr} {ρ : Rho} {σ : Sto} {s : Shared}

theorem prRel {ρ : Rho} {h : Heap} {v : Value} {a : Int} {x : List Nat} (r : RelV hB ρ h (.tup [.int a, .str x]) v) :
    ∃ D o n t u, v = .ref D ∧ h.get? D = some o ∧ o.cls = .type "tuple" ∧ o.data = .seq #[.int a t, .str ⟨x.toArray⟩ u] n := by
  obtain ⟨D, vs, k, rs, rfl⟩ := r.tupE
  obtain ⟨va, vb, rfl, ra, rb⟩ := RelVs.two rs
  obtain ⟨t, rfl⟩ := ra.intE
  obtain ⟨u, rfl⟩ := rb.strE
  obtain ⟨o, ho, hc, n, hd⟩ := k
  exact ⟨D, o, n, t, u, rfl, ho, hc, hd⟩

theorem keyLt_pr {h : Heap} (hh : s.heap = h) {v v' : Value} {a b : Int} {x y : List Nat} (r : RelV hB ρ h (.tup [.int a, .str x]) v) (r' : RelV hB ρ h (.tup [.int b, .str y]) v') {Q : Bool → Shared → Prop} {E : Value → Shared → Prop}
    (hQ : Q (ltb (.tup [.int a, .str x]) (.tup [.int b, .str y])) s) : wpAny (model prog w) A (keyLt' (tuples' true) v v') Q E s := by
  subst hh
  obtain ⟨D, o, n, t, u, rfl, ho, hc, hd⟩ := prRel r
  obtain ⟨D', o', n', t', u', rfl, ho', hc', hd'⟩ := prRel r'
  rw [ltb_pr] at hQ
  refine kat_lt ho hd ho' hd' ?_
  show KatLex prog w A true _ Q [(.int a t, .int b t'), (.str ⟨x.toArray⟩ u, .str ⟨y.toArray⟩ u')] 0 s
  refine kat_cons (EqAt.int_int a t b t' prog w _ _ (kat_go (fun e => ?_) fun e => ?_))
  · have e' : a = b := by simpa using e
    subst e'
    rw [if_neg (Int.lt_irrefl a), if_pos rfl] at hQ
    refine kat_cons (EqAt.str_str _ u _ u' prog w _ _ (kat_go (fun e => ?_) fun e => ?_))
    · have e' : x = y := by
        have := beq_str x y
        rw [e] at this
        simpa using this
      subst e'
      rw [ltL_irr] at hQ
      exact hQ
    · exact kat_one _ _ (ordS_ok (op := .Lt) rfl hQ)
  · have e' : a ≠ b := by simpa using e
    refine oneLt_int ?_
    rw [if_neg e'] at hQ
    have : decide (a < b) = if a < b then true else false := by split <;> simp_all
    rw [this]; exact hQ

theorem RelVs.getD {ρ : Rho} {h : Heap} {xs : List AV} {vs : List Value} (R : RelVs hB ρ h xs vs) {i : Nat} (hi : i < xs.length) : RelV hB ρ h (xs.getD i .none) (vs.getD i Value.none) := by
  obtain ⟨v, hv, r⟩ := R.get (List.getElem?_eq_getElem hi)
  have e : xs.getD i .none = xs[i] := by simp [hi]
  have e' : vs.getD i Value.none = v := by simp [hv]
  rw [e, e']; exact r

theorem RelVs.places {ρ : Rho} {h : Heap} {xs : List AV} {vs : List Value} (R : RelVs hB ρ h xs vs) : ∀ {r : List Nat}, (∀ i ∈ r, i < xs.length) → RelVs hB ρ h (r.map fun i => xs.getD i .none) (r.map fun i => vs.getD i Value.none)
  | [], _ => .nil
  | i :: r, h => .cons (R.getD (h i (by simp))) (R.places fun j hj => h j (by simp [hj]))

theorem kTups {ρ : Rho} {h : Heap} {xs : List AV} : ∀ {vs : List Value}, RelVs hB ρ h xs vs → (∀ v ∈ xs, IsPr v) → ∃ fs, KatTups h vs fs ∧ fs.length = xs.length ∧ ∀ v ∈ fs, ∃ i t, v = .int i t := by
  induction xs with
  | nil => intro vs R _; rw [R.nil_inv]; exact ⟨[], trivial, rfl, fun _ h => nomatch h⟩
  | cons x xs ih =>
    intro vs R hp
    obtain ⟨v, us, rfl, r, R⟩ := R.cons_inv
    obtain ⟨fs, k, l, hf⟩ := ih R fun v hv => hp v (List.mem_cons_of_mem _ hv)
    obtain ⟨a, y, rfl⟩ := hp x (List.mem_cons_self ..)
    obtain ⟨D, o, n, t, u, rfl, ho, hc, hd⟩ := prRel r
    exact ⟨.int a t :: fs, .cons ho hc hd rfl k, congrArg (· + 1) l, fun v hv => by
      rcases List.mem_cons.mp hv with rfl | hv
      · exact ⟨a, t, rfl⟩
      · exact hf v hv⟩

theorem sorted_ok {r : Nat} {xs ys : List AV} {vals : List Value} (G : StG hB os C ρ σ s) (R : RelVs hB ρ s.heap [.ref r] vals) (hr : σ[r]? = some (.list xs)) (h64 : xs.length < 64) (e : sortAV xs = some ys) :
    wpAny (model prog w) A (call (.builtin "sorted") vals) (PostV hB os C ρ s (.ref σ.length) (σ ++ [.list ys])) Fls s := by
  obtain ⟨v, rfl, rv⟩ := RelVs.one R
  obtain ⟨p, hp, rfl⟩ := rv.refE
  obtain ⟨p', hp', vs, pl, rs⟩ := G.at hr
  rw [hp] at hp'; cases hp'
  have hn := rs.length
  obtain ⟨out, hlen, rout, hc⟩ : ∃ out : List Value, out.length = vs.length ∧ RelVs hB ρ s.heap ys out ∧ ((vs.length < 2 ∧ out = vs) ∨ (2 ≤ vs.length ∧ vs.length < 64 ∧ ∀ s' : Shared, (∀ b o, s.heap.get? b = some o → s'.heap.get? b = some o) →
      wpAny (model prog w) A.in1.in1 (keyKind' vs.toArray) (fun κ s'' => s'' = s' ∧ ∀ Q : Array Nat → Shared → Prop, (∀ p : Array Nat, p.size = vs.length → (p.toList.map fun i => vs.getD i Value.none) = out → Q p s') → (kas_sort vs.length).kasWp (kas_ask prog w A.in1.in1 κ vs) Q s') Fls s')) := by
    by_cases h2 : xs.length < 2
    · refine ⟨vs, rfl, ?_, .inl ⟨by omega, rfl⟩⟩
      match xs, h2 with
      | [], _ => cases e; exact rs
      | [x], _ => cases e; exact rs
    · have h2 : 2 ≤ xs.length := by omega
      obtain ⟨q, hq, hm, hu⟩ := Mine.places e h2
      have hlo : ∀ i ∈ q, i < xs.length := fun i hi => by simpa using hq.mem_iff.mp hi
      refine ⟨q.map fun i => vs.getD i Value.none, by simp [hq.length_eq, hn], ?_, .inr ⟨by omega, by omega, fun s' k => ?_⟩⟩
      · rw [← hm]; exact rs.places hlo
      · have rs' : RelVs hB ρ s'.heap xs vs := rs.mono (M := fun _ => False) (fun b o e _ => k b o e) (fun _ h => h.elim) (Grow.refl (n := hB))
        have hpr := (sortAV_spec e).2.2 h2
        obtain ⟨fs, kt, lf, hfs⟩ := kTups rs' hpr
        refine kat_kind (T := .type "int") kt (by omega) (fun v hv => ?_) (by decide) ⟨rfl, fun Q hQ => ?_⟩
        · obtain ⟨i, t, rfl⟩ := hfs v hv
          exact .now
        · rw [← hn]
          refine kasWp_holds (I := (· = s')) (lt := ltIx xs) (n := xs.length) (fun i j C₀ s'' hi hj hs hC => ?_) (fun p s'' hpp hs => ?_) rfl (sort_ok (ltIx_strict e h2) h2)
          · subst hs
            have ri := rs'.getD hi
            have rj := rs'.getD hj
            have hC' := hC _ rfl
            unfold ltIx at hC'
            obtain ⟨a, x, ea⟩ : IsPr (xs.getD i .none) := hpr _ (by simp [hi])
            obtain ⟨b, y, eb⟩ : IsPr (xs.getD j .none) := hpr _ (by simp [hj])
            rw [ea, eb] at hC'
            rw [ea] at ri
            rw [eb] at rj
            exact keyLt_pr rfl ri rj hC'
          · subst hs
            refine hQ p (by rw [hpp.1.size, hn]) ?_
            rw [hu p hpp]
  refine sorted_out' (pl.isList) hlen (by omega) hc fun D h' nD k ⟨c, hD⟩ => ?_
  have S1 : Step ρ s ρ { s with heap := h' } := Step.keeps G k s.toks
  have G1 : StG hB os C ρ σ { s with heap := h' } := G.keeps k s.toks
  refine ⟨ρ ++ [(D, D)], S1.adopt nD, G1.adopt (vs := out) ⟨_, hD⟩ (S1.rels G rout) (G.noneB nD) (fun p hp => ?_), ?_⟩
  · have a := G.lies ⟨p, hp, rfl⟩
    have b := G.two p hp
    exact ⟨fun e => (by rw [e, nD] at a; cases a), fun e => (by rw [e, nD] at b; cases b)⟩
  · rw [← G.len]
    exact .ref (p := (D, D)) (by simp)
end
end Mine
end

section
open PySem PySem.W PyProof.Rows PySem.Calls PySem.SeqAt
set_option maxRecDepth 100000
set_option linter.unusedSimpArgs false
namespace Mine
open PySem.Sre (M)

/-- the code of the pattern: at a line's beginning, and not at a line's end -/
noncomputable def ic : Array Nat := #[14, 4, 0, 0, 0, 6, 1, 5, 5, 0, 6, 6, 1, 1]

/-- a try at the place p -/
noncomputable def st0 (t : Array Nat) (lim p : Nat) (f mA : Bool) (sn : Sre.Seen) : M :=
  { code := ic, text := t, lim, start := p, lastStart := lim, mustAdvance := mA, pc := 5, pos := p, handed := p, outermost := f, marks := #[],
    frames := [{ wait := .nextStart, pc := 5, pos := p, outermost := f }], weight := 1, seen := sn }

theorem runFor_s (n : Nat) (m : M) : M.runFor (n + 1) m = if m.outcome.isSome then m else M.runFor n m.step := rfl
noncomputable def Runs (n : Nat) (m : M) (Q : M → Prop) : Prop := ∃ k, k ≤ n ∧ Q (M.runFor k m)
theorem Runs.step {n : Nat} {m : M} {Q : M → Prop} (h : m.outcome = none) (r : Runs n m.step Q) : Runs (n + 1) m Q := by
  obtain ⟨k, hk, q⟩ := r
  refine ⟨k + 1, Nat.succ_le_succ hk, ?_⟩
  rw [runFor_s, h]
  exact q
theorem Runs.done {n : Nat} {m : M} {Q : M → Prop} (h : Q m) : Runs n m Q := ⟨0, Nat.zero_le _, h⟩
theorem Runs.more {n n' : Nat} {m : M} {Q : M → Prop} (r : Runs n m Q) (h : n ≤ n') : Runs n' m Q := by
  obtain ⟨k, hk, q⟩ := r
  exact ⟨k, Nat.le_trans hk h, q⟩

section
variable {t : Array Nat} {lim p : Nat} {f mA : Bool} {sn : Sre.Seen}

theorem stepA : (st0 t lim p f mA sn).step = if (p == 0 || t.getD (p - 1) 0 == 10) then { st0 t lim p f mA ((sn.add 6).add 44) with pc := 7 } else { st0 t lim p f mA ((sn.add 6).add 44) with answer := some false } := rfl
noncomputable def look (t : Array Nat) (lim p : Nat) (f mA : Bool) (sn : Sre.Seen) : M :=
  { st0 t lim p f mA sn with frames := [{ wait := .lookNot, pc := 7, pos := p, outermost := f, kept := { lastmark := -1, lastindex := -1, whole := false, marks := #[] } }, { wait := .nextStart, pc := 5, pos := p, outermost := f }], weight := 2, pc := 10, outermost := false }
theorem stepB : ({ st0 t lim p f mA sn with pc := 7 } : M).step = look t lim p f mA (sn.add 5) := rfl
theorem stepC : (look t lim p f mA sn).step = if (p == lim || t.getD p 0 == 10) then { look t lim p f mA ((sn.add 6).add 49) with pc := 12 } else { look t lim p f mA ((sn.add 6).add 49) with answer := some false } := rfl
theorem stepD : ({ look t lim p f mA sn with pc := 12 } : M).step = { look t lim p f mA (sn.add 1) with pc := 12, answer := some true } := rfl
theorem stepE : ({ look t lim p f mA sn with pc := 12, answer := some true } : M).step = { st0 t lim p f mA sn with pc := 7, answer := some false } := rfl
theorem stepF : ({ look t lim p f mA sn with answer := some false } : M).step = { st0 t lim p f mA sn with pc := 13 } := rfl
theorem stepG : ({ st0 t lim p f mA sn with pc := 13 } : M).step = if (f && ((false && p != lim) || (mA && p == p))) then { st0 t lim p f mA (sn.add 1) with pc := 13, answer := some false } else { st0 t lim p f mA (sn.add 1) with pc := 13, answer := some true } := rfl
theorem stepH {pc : Nat} : ({ st0 t lim p f mA sn with pc := pc, answer := some false } : M).step = if p < lim then st0 t lim (p + 1) false false sn else { st0 t lim p f mA sn with answer := some false, frames := [], weight := 0 } := rfl
theorem stepI : ({ st0 t lim p f mA sn with pc := 13, answer := some true } : M).step = { st0 t lim p f mA sn with answer := some true, frames := [], weight := 0 } := rfl
theorem stepJ {b : Bool} : ({ st0 t lim p f mA sn with answer := some b, frames := [], weight := 0 } : M).step = { st0 t lim p f mA sn with answer := some b, frames := [], weight := 0, outcome := some (if b then .matched else .failed) } := rfl

end

noncomputable def hitAt (t : Array Nat) (lim p : Nat) : Bool := (p == 0 || t.getD (p - 1) 0 == 10) && !(p == lim || t.getD p 0 == 10)
noncomputable def nextHit (t : Array Nat) (lim : Nat) : Bool → Nat → Nat → Option Nat
  | skip, p, 0 => if hitAt t lim p && !skip then some p else none
  | skip, p, n + 1 => if hitAt t lim p && !skip then some p else nextHit t lim false (p + 1) n
theorem nextHit_0 {t : Array Nat} {lim p : Nat} {skip : Bool} : nextHit t lim skip p 0 = if hitAt t lim p && !skip then some p else none := rfl
theorem nextHit_s {t : Array Nat} {lim p n : Nat} {skip : Bool} : nextHit t lim skip p (n + 1) = if hitAt t lim p && !skip then some p else nextHit t lim false (p + 1) n := rfl

noncomputable def Found (r : Option Nat) (m : M) : Prop := match r with
  | some q => m.outcome = some .matched ∧ m.start = q ∧ m.handed = q
  | none => m.outcome = some .failed

theorem nextHit_eq {t : Array Nat} {lim p : Nat} {skip : Bool} {n : Nat} (h : lim = p + n) : nextHit t lim skip p n = if hitAt t lim p && !skip then some p else if p < lim then nextHit t lim false (p + 1) (n - 1) else none := by
  cases n with
  | zero => rw [nextHit_0, if_neg (show ¬ p < lim by omega)]
  | succ n => rw [nextHit_s, if_pos (show p < lim by omega)]; rfl

theorem search_ok {t : Array Nat} {lim : Nat} : ∀ (n p : Nat) (f mA : Bool) (sn : Sre.Seen), lim = p + n → Runs (10 * (n + 1)) (st0 t lim p f mA sn) (Found (nextHit t lim (f && mA) p n)) := by
  intro n
  induction n with
  | zero => _
  | succ n ih => _
  all_goals
    intro p f mA sn hl
    rw [nextHit_eq hl]
    -- a try that fails
    have miss : ∀ (pc : Nat) (sn' : Sre.Seen) (r : Option Nat), (p < lim → r = nextHit t lim false (p + 1) (lim - p - 1)) → (¬ p < lim → r = none) → Runs (10 * (lim - p) + 2) ({ st0 t lim p f mA sn' with pc := pc, answer := some false } : M) (Found r) := by
      intro pc sn' r h1 h2
      refine Runs.step rfl ?_
      rw [stepH]
      by_cases hp : p < lim
      · rw [if_pos hp, h1 hp]
        first
          | (have e : lim - p - 1 = n := by omega
             rw [e]
             have := ih (p + 1) false false sn' (by omega)
             exact this.more (by omega))
          | omega
      · rw [if_neg hp, h2 hp]
        refine Runs.step rfl (.done ?_)
        rw [stepJ]
        exact rfl
    have e1 : ∀ k : Nat, lim - p = k → 10 * (lim - p) + 2 ≤ 10 * (k + 1) - 5 := fun k h => by omega
    refine Runs.more (n := 10 * (lim - p) + 2 + 6) ?_ (by omega)
    refine Runs.step rfl ?_
    rw [stepA]
    cases ha : (p == 0 || t.getD (p - 1) 0 == 10) with
    | false =>
      rw [if_neg (by simp)]
      refine (miss _ _ _ (fun h => ?_) fun h => ?_).more (by omega)
      · simp only [hitAt, ha, Bool.false_and, Bool.false_eq_true, if_false]
        rw [if_pos h]; congr 1; omega
      · simp only [hitAt, ha, Bool.false_and, Bool.false_eq_true, if_false]
        rw [if_neg h]
    | true =>
      rw [if_pos rfl]
      refine Runs.step rfl ?_
      rw [stepB]
      refine Runs.step rfl ?_
      rw [stepC]
      cases hb : (p == lim || t.getD p 0 == 10) with
      | true =>
        rw [if_pos rfl]
        refine Runs.step rfl ?_
        rw [stepD]
        refine Runs.step rfl ?_
        rw [stepE]
        refine (miss _ _ _ (fun h => ?_) fun h => ?_).more (by omega)
        · simp only [hitAt, ha, hb, Bool.not_true, Bool.and_false, Bool.false_and, Bool.false_eq_true, if_false]
          rw [if_pos h]; congr 1; omega
        · simp only [hitAt, ha, hb, Bool.not_true, Bool.and_false, Bool.false_and, Bool.false_eq_true, if_false]
          rw [if_neg h]
      | false =>
        rw [if_neg (by simp)]
        refine Runs.step rfl ?_
        rw [stepF]
        refine Runs.step rfl ?_
        rw [stepG]
        cases hc : (f && mA) with
        | true =>
          rw [if_pos (by simp at hc; simp [hc])]
          refine (miss _ _ _ (fun h => ?_) fun h => ?_).more (by omega)
          · simp only [hitAt, ha, hb, Bool.not_true, Bool.and_false, Bool.false_eq_true, if_false]
            rw [if_pos h]; congr 1; omega
          · simp only [hitAt, ha, hb, Bool.not_true, Bool.and_false, Bool.false_eq_true, if_false]
            rw [if_neg h]
        | false =>
          rw [if_neg (by simp at hc ⊢; exact hc)]
          rw [if_pos (by rw [hitAt, ha, hb]; rfl)]
          refine Runs.step rfl ?_
          rw [stepI]
          refine Runs.more (n := 1) (Runs.step rfl (.done ?_)) (by omega)
          rw [stepJ]
          exact ⟨rfl, rfl, rfl⟩
end Mine
end

section
open PySem PySem.W PyProof.Rows PySem.Calls PySem.SeqAt PySem.Builtin PySem.Builtin.Re
set_option maxRecDepth 100000
set_option linter.unusedSimpArgs false
namespace Mine
open PySem.Sre (M)

theorem runFor_stop {m : M} (h : m.outcome.isSome = true) : ∀ n, M.runFor n m = m
  | 0 => rfl
  | n + 1 => by rw [runFor_s, if_pos h]
theorem runFor_add (m : M) : ∀ a b : Nat, M.runFor (a + b) m = M.runFor b (M.runFor a m)
  | 0, b => by rw [Nat.zero_add]; rfl
  | a + 1, b => by
    rw [Nat.succ_add, runFor_s, runFor_s]
    by_cases h : m.outcome.isSome = true
    · rw [if_pos h, if_pos h, runFor_stop h]
    · rw [if_neg h, if_neg h]
      exact runFor_add m.step a b

section
variable {MM : Model} {A : Around} {E : Value → Shared → Prop} {s : Shared}

theorem drive_ok : ∀ (n k turns : Nat) (m : M) {Q : M → Shared → Prop}, k ≤ 4 * n → n < turns → (M.runFor k m).outcome.isSome = true → Q (M.runFor k m) s → wpAny MM A (reDrive turns m) Q E s
  | n, k, 0, m, Q, h, h', _, _ => by omega
  | n, k, turns + 1, m, Q, h, h', ho, hq => by
    show wpAny MM A (if (M.runFor 4 m).outcome.isSome then pure (M.runFor 4 m) else do rule "sre.turn"; reDrive turns (M.runFor 4 m)) Q E s
    by_cases hk : k ≤ 4
    · obtain ⟨d, hd⟩ := Nat.exists_eq_add_of_le hk
      have e : M.runFor 4 m = M.runFor k m := by rw [hd, runFor_add, runFor_stop ho]
      rw [e, if_pos ho]
      exact wpAny_pure hq
    · obtain ⟨d, hd⟩ := Nat.exists_eq_add_of_le (Nat.le_of_not_le hk)
      rw [hd, runFor_add] at ho hq
      by_cases h4 : (M.runFor 4 m).outcome.isSome = true
      · rw [if_pos h4]
        rw [runFor_stop h4] at hq
        exact wpAny_pure hq
      · rw [if_neg h4]
        refine wpAny_bind (wpAny_rule ?_)
        exact drive_ok (n - 1) d turns _ (by omega) (by omega) ho hq

theorem rules_ok {c : Nat → Bool} {nm : Nat → String} {Q : PUnit → Shared → Prop} (h : Q ⟨⟩ s) : ∀ l : List Nat, wpAny MM A (forIn l PUnit.unit fun i _ => do
    if c i then rule (nm i)
    pure (ForInStep.yield PUnit.unit)) Q E s
  | [] => by rw [List.forIn_nil]; exact wpAny_pure h
  | i :: l => by
    rw [List.forIn_cons]
    refine wpAny_bind ?_
    cases hc : c i with
    | true => exact wpAny_bind (wpAny_rule (wpAny_pure (rules_ok h l)))
    | false => exact wpAny_pure (rules_ok h l)

theorem found_ok {text : Array Nat} {string pat : Value} {start : Nat} {must : Bool} {Q : Option M → Shared → Prop} (hs : start ≤ text.size) (hlim : text.size ≤ 1000000)
    (h : ∀ m, match nextHit text text.size must start (text.size - start) with
      | some q => m.start = q ∧ m.handed = q → Q (some m) s
      | none => Q none s) :
    wpAny MM A (reNextFound ⟨pat, string, ic, text, 0, 0, 0, text.size⟩ start must) Q E s := by
  have e : Sre.forSearch ic text 0 start text.size must = st0 text text.size start true must (({} : Sre.Seen).add 14) := by
    show (if start > text.size || text.size - start < 0 then _ else _) = _
    rw [if_neg (by simp; omega)]
    rfl
  unfold reNextFound
  show wpAny MM A (reRunToEnd (Sre.forSearch ic text 0 start text.size must)) Q E s
  rw [e]
  obtain ⟨k, hk, hf⟩ := search_ok (t := text) (lim := text.size) (text.size - start) start true must (({} : Sre.Seen).add 14) (by omega)
  rw [Bool.true_and] at hf
  generalize hm : M.runFor k (st0 text text.size start true must (({} : Sre.Seen).add 14)) = mf at hf
  have hsome : mf.outcome.isSome = true := by
    unfold Found at hf
    split at hf
    · rw [hf.1]; rfl
    · rw [hf]; rfl
  unfold reRunToEnd
  refine wpAny_bind (drive_ok 10000010 k (2 ^ 64) _ (by omega) (by omega) (by rw [hm]; exact hsome) ?_)
  rw [hm]
  refine wpAny_bind (rules_ok (c := fun i => mf.seen.has i) (nm := fun i => Sre.names.getD i "") ?_ _)
  have h := h mf
  unfold Found at hf
  split at hf
  · rename_i q hq
    rw [hq] at h
    rw [hf.1]
    exact wpAny_pure (h hf.2)
  · rename_i hq
    rw [hq] at h
    rw [hf]
    exact wpAny_pure h
end
end Mine
end

section
open PySem PySem.W PyProof.Rows PySem.Calls PySem.SeqAt PySem.Builtin PySem.Builtin.Re
set_option maxRecDepth 100000
set_option linter.unusedSimpArgs false
namespace Mine
open PySem.Sre (M)

/-- at a line's beginning -/
noncomputable def bolAt (t : Array Nat) (p : Nat) : Bool := p == 0 || t.getD (p - 1) 0 == 10

theorem nextHit_indent (k : Nat) (T : List Nat) : ∀ (n d : Nat) (skip : Bool), T.length = d + n →
    match nextHit T.toArray T.length skip d n with
    | some q => d ≤ q ∧ q < T.length ∧ (skip = true → d < q) ∧ indentL k (bolAt T.toArray d && !skip) (T.drop d) = (T.drop d).take (q - d) ++ List.replicate k 32 ++ indentL k false (T.drop q)
    | none => indentL k (bolAt T.toArray d && !skip) (T.drop d) = T.drop d := by
  intro n
  induction n with
  | zero =>
    intro d skip h
    have hh : hitAt T.toArray T.length d = false := by simp [hitAt, h]
    rw [nextHit_0, hh]
    have : T.drop d = [] := by simp [h]
    simp [this, indentL_0]
  | succ n ih =>
    intro d skip h
    have hd : d < T.length := by omega
    have hdrop : T.drop d = T[d] :: T.drop (d + 1) := by rw [List.drop_eq_getElem_cons hd]
    have hget : T.toArray.getD d 0 = T[d] := by simp [hd]
    have hne : (d == T.length) = false := by simp; omega
    rw [nextHit_s]
    cases hh : (hitAt T.toArray T.length d && !skip) with
    | true =>
      rw [if_pos rfl]
      simp only [hitAt, hget, hne, Bool.false_or, Bool.and_eq_true, Bool.not_eq_true'] at hh
      obtain ⟨⟨h1, h2⟩, h3⟩ := hh
      subst h3
      refine ⟨Nat.le_refl _, hd, (fun e => (by cases e)), ?_⟩
      have hb : bolAt T.toArray d = true := h1
      have hc : T[d] ≠ 10 := by simpa using h2
      rw [hb, hdrop]
      generalize T.drop (d + 1) = R
      generalize T[d] = c at hc
      have hc' : (c == 10) = false := by simpa using hc
      simp [indentL_t, indentL_f, hc, hc']
    | false =>
      rw [if_neg (by simp)]
      have ih := ih (d + 1) false (by omega)
      have hb1 : bolAt T.toArray (d + 1) = (T[d] == 10) := by simp [bolAt, hd]
      rw [hb1] at ih
      -- what the text shows at d
      have key : indentL k (bolAt T.toArray d && !skip) (T.drop d) = T[d] :: indentL k (T[d] == 10) (T.drop (d + 1)) := by
        rw [hdrop]
        cases hb : (bolAt T.toArray d && !skip) with
        | false => rfl
        | true =>
          have hc : T[d] = 10 := by
            have h1 : bolAt T.toArray d = true := by simp at hb; exact hb.1
            have h3 : (!skip) = true := by simp at hb; simp [hb.2]
            simp only [hitAt, hget, hne, Bool.false_or, h3, Bool.and_true] at hh
            have h1' : (d == 0 || T.toArray.getD (d - 1) 0 == 10) = true := h1
            rw [h1', Bool.true_and] at hh
            simpa using hh
          simp [indentL_t, hc]
      rw [key]
      split at ih
      · rename_i q hq
        obtain ⟨a1, a2, _, a3⟩ := ih
        refine ⟨by omega, a2, fun _ => by omega, ?_⟩
        rw [Bool.not_false, Bool.and_true] at a3
        rw [a3, hdrop]
        have : q - d = (q - (d + 1)) + 1 := by omega
        rw [this, List.take_succ_cons]
        simp
      · rename_i hq
        rw [Bool.not_false, Bool.and_true] at ih
        rw [ih, hdrop]

/-- the pattern at its place -/
noncomputable def PatAt (h : Heap) (p : Addr) : Prop := ∃ (o oc : Obj) (c : Addr) (pt fl gi gn : Value) (t0 t6 : Tok) (items : Array Value) (n : Nat),
  h.get? p = some o ∧ o.cls = .type "re.Pattern" ∧ o.dict = none ∧ o.data = .fields #[pt, fl, .int 0 t0, gi, gn, .ref c, .int 0 t6] ∧ h.get? c = some oc ∧ oc.data = .seq items n ∧ (items.map reRawOf).map (·.toNat) = ic

theorem PatAt.keep {h h' : Heap} {p : Addr} (x : PatAt h p) (k : ∀ b o, h.get? b = some o → h'.get? b = some o) : PatAt h' p := by
  obtain ⟨o, oc, c, pt, fl, gi, gn, t0, t6, items, n, a, b, c', d, e, f, g⟩ := x
  exact ⟨o, oc, c, pt, fl, gi, gn, t0, t6, items, n, k _ _ a, b, c', d, k _ _ e, f, g⟩

section
variable {prog : Program} {w : World} {A : Around} {E : Value → Shared → Prop} {s : Shared}

theorem whole_ok {p : Addr} {T : List Nat} {t : Tok} {Q : ReTarget → Shared → Prop} {MM : Model} (P : PatAt s.heap p)
    (h : Q ⟨.ref p, .str ⟨T.toArray⟩ t, ic, T.toArray, 0, 0, 0, T.toArray.size⟩ s) : wpAny MM A (reWholeTarget (.ref p) (.str ⟨T.toArray⟩ t)) Q E s := by
  obtain ⟨o, oc, c, pt, fl, gi, gn, t0, t6, items, n, a, b, c', d, e, f, g⟩ := P
  unfold reWholeTarget
  refine wpAny_bind (wpAny_fieldsOf a d ?_)
  unfold reTextOf
  refine wpAny_bind (wpAny_bind (wpAny_pure ?_))
  refine wpAny_pure ?_
  dsimp only
  refine wpAny_bind (m := reNoCollectionInside _ _) (wpAny_pure ?_)
  unfold reRawItems
  refine wpAny_bind (wpAny_bind (wpAny_seqItems e f (wpAny_pure ?_)))
  refine wpAny_pure ?_
  dsimp only [Option.getD]
  rw [g]
  exact h
end
end Mine
end

section
open PySem PySem.W PyProof.Rows PySem.Calls PySem.SeqAt PySem.Builtin PySem.Builtin.Re
set_option maxRecDepth 100000
set_option linter.unusedSimpArgs false
namespace Mine
open PySem.Sre (M)

theorem strsAre_snoc {y : Str} {t : Tok} : ∀ {vs : List Value} {ys : List Str}, StrsAre vs ys → StrsAre (vs ++ [.str y t]) (ys ++ [y])
  | _, _, .nil => .cons _ _ .nil
  | _, _, .cons a b r => .cons a b (strsAre_snoc r)
theorem strsAre_len : ∀ {vs : List Value} {ys : List Str}, StrsAre vs ys → vs.length = ys.length
  | _, _, .nil => rfl
  | _, _, .cons _ _ r => by simp [strsAre_len r]

theorem plain_sub_loop : plainId "re.Pattern.sub.loop" = true := by decide +kernel
theorem entry_sub_loop : entryFor table "re.Pattern.sub.loop" = some Builtin.«re.Pattern.sub.loop» := entryFor_of_tree (by kernel_rfl)

theorem joinL_nil : ∀ ss : List (List Nat), joinL [] ss = ss.flatten
  | [] => rfl
  | [x] => by simp [joinL_1]
  | x :: y :: r => by
    show x ++ [] ++ joinL [] (y :: r) = _
    rw [joinL_nil (y :: r)]; simp

/-- the list of the pieces, at its place -/
structure Pcs (h₀ h : Heap) (L : Addr) (ss : List (List Nat)) : Prop where
  keep : ∀ b o, h₀.get? b = some o → h.get? b = some o
  at_ : ∃ vs c, h.get? L = some (seqObj "list" (List.toArray vs) c) ∧ StrsAre vs (ss.map fun l => ⟨l.toArray⟩)
  new : h₀.get? L = none

section
variable {prog : Program} {w : World} {A : Around} {E : Value → Shared → Prop} {s : Shared} {MM : Model}

theorem push_piece {h₀ : Heap} {L : Addr} {ss : List (List Nat)} {x : List Nat} {t : Tok} {Q : Unit → Shared → Prop} (P : Pcs h₀ s.heap L ss) (hl : ss.length ≤ 3000000)
    (h : ∀ h', Pcs h₀ h' L (ss ++ [x]) → Q () { s with heap := h' }) : wpAny MM A (updateSeq L (·.push (.str ⟨x.toArray⟩ t))) Q E s := by
  obtain ⟨vs, c, hL, ha⟩ := P.at_
  have hv : vs.length = ss.length := by rw [strsAre_len ha, List.length_map]
  refine wpAny_updateSeq hL rfl (h _ ⟨fun b o e => ?_, ?_, P.new⟩) (by rw [List.size_toArray, sizeLine_eq]; omega) (by rw [Array.size_push, List.size_toArray, sizeLine_eq]; omega)
  · have hb : b ≠ L := fun q => by rw [q, P.new] at e; cases e
    exact ((Heap.SameBut.update s.heap L _).2 b hb).trans (P.keep b o e)
  · refine ⟨vs ++ [.str ⟨x.toArray⟩ t], c + 1, ?_, by simpa using strsAre_snoc (t := t) (y := ⟨x.toArray⟩) ha⟩
    have := get?_update_seq hL fun a => a.push (.str ⟨x.toArray⟩ t)
    rw [List.push_toArray, if_neg (by simp)] at this
    exact this

theorem slice_ok {T : List Nat} {b e : Nat} {Q : Value → Shared → Prop} (hsz : T.length ≤ 1000000) (h : Q (.str ⟨((T.take e).drop b).toArray⟩ s.toks) { s with toks := s.toks + 1 }) : wpAny MM A (reSlice T.toArray 0 b e) Q E s := by
  have e1 : (T.toArray.extract b e) = ((T.take e).drop b).toArray := by simp [List.extract_eq_drop_take']
  unfold reSlice
  rw [if_pos (show (0 == 0) = true from rfl), e1]
  refine wpAny_mkStr h ?_
  show (List.toArray _).size ≤ _
  rw [List.size_toArray, sizeLine_eq, List.length_drop, List.length_take]
  omega

theorem noneNe (x : Str) (t : Tok) : (Value.str x t != Value.none) = true := rfl

/-- the end of the loop -/
noncomputable def subEnd (T : Array Nat) (L : Addr) (n : Int) : Sem Fin := do
  let joiner ← reSlice T 0 0 0
  let __do_lift ← seqItems? (Value.ref L)
  if (__do_lift.getD #[]).isEmpty = true then do
      let text ← pure joiner
      if false = true then do
          let __do_lift ← holding [text] do
                let __do_lift ← mkInt n
                newTuple [text, __do_lift]
          ret __do_lift
        else ret text
    else do
      let text ← call (Value.builtin (if (0 == 0) = true then "str.join" else "bytes.join")) [joiner, Value.ref L]
      if false = true then do
          let __do_lift ← holding [text] do
                let __do_lift ← mkInt n
                newTuple [text, __do_lift]
          ret __do_lift
        else ret text
noncomputable def subMiss (T : Array Nat) (L : Addr) (d lim : Nat) (e : Sem Fin) : Sem Fin :=
  if d < lim then do
    let x ← reSlice T 0 d lim
    updateSeq L fun v => v.push x
    e
  else e
noncomputable def subPut (L : Addr) (repl : Value) (other : Sem Fin) (c : Code) : Sem Fin :=
  if ((0 : Int) == 0) = true then do
    let item ← pure repl
    if (item != Value.none) = true then do
        updateSeq L fun v => v.push item
        again c
      else again c
  else other
noncomputable def subHit (T : Array Nat) (L : Addr) (d q : Nat) (repl : Value) (other : Sem Fin) (c : Code) : Sem Fin :=
  if d < q then do
    let x ← reSlice T 0 d q
    updateSeq L fun v => v.push x
    subPut L repl other c
  else subPut L repl other c

theorem sub_end {h₀ : Heap} {T : List Nat} {L : Addr} {full : List Nat} {ss : List (List Nat)} {h : Heap} {tk : Nat} (P : Pcs h₀ h L ss) (hj : ss.flatten = full) (hfull : full.length ≤ 3000000) (hl : ss.length ≤ 3000002) {Q : Fin → Shared → Prop} {n : Int} {A : Around}
    (hsz : T.length ≤ 1000000) (hR : ∀ h' tk tv, (∀ b o, h₀.get? b = some o → h'.get? b = some o) → Q (.done (.ret (.str ⟨full.toArray⟩ tv))) ⟨h', s.gens, s.drawn, tk, s.os⟩) :
    wpAny (model prog w) A (subEnd T.toArray L n) Q (fun _ _ => False) ⟨h, s.gens, s.drawn, tk, s.os⟩ := by
  refine wpAny_bind (slice_ok hsz ?_)
  obtain ⟨vs, c, hL, ha⟩ := P.at_
  refine wpAny_bind (wpAny_seqItems hL rfl ?_)
  dsimp only [Option.getD]
  have he : ((T.take 0).drop 0) = [] := rfl
  rw [he]
  cases hv : vs with
  | nil =>
    subst hv
    rw [if_pos (show (#[] : Array Value).isEmpty = true from rfl)]
    refine wpAny_bind (wpAny_pure ?_)
    rw [if_neg (show ¬ (false = true) by decide)]
    have hs : ss = [] := by cases ss with | nil => rfl | cons _ _ => cases ha
    subst hs
    simp at hj
    subst hj
    exact wpAny_pure (hR _ _ _ P.keep)
  | cons v vs' =>
    rw [if_neg (show ¬ ((v :: vs').toArray.isEmpty = true) by simp)]
    refine wpAny_bind ?_
    rw [if_pos (show (0 == 0) = true from rfl)]
    refine join_list (ys := ss.map fun l => ⟨l.toArray⟩) ⟨_, hL, rfl, _, rfl⟩ ha ?_ fun t' k => ?_
    · rw [total_map]
      have : total ss = full.length := by rw [← hj]; simp [total, List.length_flatten]
      rw [this]
      have : (⟨([] : List Nat).toArray⟩ : Str).length = 0 := rfl
      rw [this]
      omega
    · rw [if_neg (show ¬ (false = true) by decide)]
      have e : Txt.join ⟨([] : List Nat).toArray⟩ (ss.map fun l => ⟨l.toArray⟩) = ⟨full.toArray⟩ := by
        have h1 : (Builtin.Str.glued ⟨([] : List Nat).toArray⟩ (ss.map fun l => (⟨l.toArray⟩ : Str))).cps.toList = full := by
          rw [StrLaws.glued_eq_join, join_list', joinL_nil, hj]
        have h2 : (Txt.join ⟨([] : List Nat).toArray⟩ (ss.map fun l => (⟨l.toArray⟩ : Str))).cps = full.toArray := by
          apply Array.ext'
          exact h1
        generalize Txt.join ⟨([] : List Nat).toArray⟩ (ss.map fun l => (⟨l.toArray⟩ : Str)) = z at h2
        cases z
        simp at h2
        rw [h2]
      rw [e]
      exact wpAny_pure (hR _ _ _ P.keep)

section
variable {h₀ h : Heap} {T : List Nat} {L : Addr} {ss : List (List Nat)} {tk : Nat} {A : Around} {Q : Fin → Shared → Prop} {E : Value → Shared → Prop} {d : Nat}
theorem sub_miss {e : Sem Fin} (P : Pcs h₀ h L ss) (hsz : T.length ≤ 1000000) (hl : ss.length ≤ 3000000)
    (hQ : ∀ ss' h' tk', ss'.length ≤ ss.length + 1 → Pcs h₀ h' L ss' → ss'.flatten = ss.flatten ++ T.drop d → wpAny MM A e Q E ⟨h', s.gens, s.drawn, tk', s.os⟩) : wpAny MM A (subMiss T.toArray L d T.length e) Q E ⟨h, s.gens, s.drawn, tk, s.os⟩ := by
  unfold subMiss
  by_cases hd : d < T.length
  · rw [if_pos hd]
    refine wpAny_bind (slice_ok hsz (wpAny_bind (push_piece (s := ⟨h, s.gens, s.drawn, tk + 1, s.os⟩) P hl fun h' P' => hQ _ h' _ (by simp) P' (by simp))))
  · rw [if_neg hd]
    exact hQ ss h tk (Nat.le_succ _) P (by rw [List.drop_eq_nil_of_le (by omega), List.append_nil])
theorem sub_put {y : List Nat} {tR : Tok} {other : Sem Fin} {c : Code} (P : Pcs h₀ h L ss) (hl : ss.length ≤ 3000000)
    (hQ : ∀ h', Pcs h₀ h' L (ss ++ [y]) → Q (.again c) ⟨h', s.gens, s.drawn, tk, s.os⟩) : wpAny MM A (subPut L (.str ⟨y.toArray⟩ tR) other c) Q E ⟨h, s.gens, s.drawn, tk, s.os⟩ := by
  unfold subPut
  rw [if_pos (show ((0 : Int) == 0) = true from rfl)]
  refine wpAny_bind (wpAny_pure ?_)
  rw [if_pos (noneNe _ _)]
  exact wpAny_bind (push_piece (s := ⟨h, s.gens, s.drawn, tk, s.os⟩) P hl fun h' P' => wpAny_pure (hQ h' P'))
theorem sub_hit {q : Nat} {y : List Nat} {tR : Tok} {other : Sem Fin} {c : Code} (P : Pcs h₀ h L ss) (hsz : T.length ≤ 1000000) (hl : ss.length + 1 ≤ 3000000) (hdq : d ≤ q)
    (hQ : ∀ ss' h' tk', ss'.length ≤ ss.length + 2 → Pcs h₀ h' L ss' → ss'.flatten = ss.flatten ++ (T.take q).drop d ++ y → Q (.again c) ⟨h', s.gens, s.drawn, tk', s.os⟩) : wpAny MM A (subHit T.toArray L d q (.str ⟨y.toArray⟩ tR) other c) Q E ⟨h, s.gens, s.drawn, tk, s.os⟩ := by
  unfold subHit
  by_cases hd : d < q
  · rw [if_pos hd]
    refine wpAny_bind (slice_ok hsz (wpAny_bind (push_piece (s := ⟨h, s.gens, s.drawn, tk + 1, s.os⟩) P (by omega) fun h' P' => sub_put (s := s) P' (by simp; omega) fun h'' P'' => hQ _ h'' _ (by simp) P'' (by simp))))
  · rw [if_neg hd]
    have : q = d := by omega
    subst this
    exact sub_put P (by omega) fun h'' P'' => hQ _ h'' _ (by simp) P'' (by simp)
end

noncomputable def subArgs (p : Addr) (T : List Nat) (tT : Tok) (k : Nat) (tR : Tok) (n : Int) (d : Nat) (must : Bool) (L : Addr) : Args :=
  ⟨[.ref p, .str ⟨T.toArray⟩ tT, .str ⟨(List.replicate k 32).toArray⟩ tR, .int 0 0, .int 0 0, .int n 0, .int d 0, .int d 0, .bool must, .ref L, .bool false], []⟩
noncomputable def SubPost (R : Value → Shared → Prop) (r : Result) (s' : Shared) : Prop := match r with | .ok (.ret v) => R v s' | .ok _ => False | .error _ => False
noncomputable def mu (must : Bool) : Nat := if must then 1 else 0

noncomputable def subBody (p : Addr) (T : List Nat) (tT : Tok) (k : Nat) (tR : Tok) (n : Int) (d : Nat) (must : Bool) (L : Addr) (other : M → Sem Fin) : Sem Fin := do
  match ← reNextFound ⟨.ref p, .str ⟨T.toArray⟩ tT, ic, T.toArray, 0, 0, 0, T.toArray.size⟩ d must with
  | some m => subHit T.toArray L d m.start (.str ⟨(List.replicate k 32).toArray⟩ tR) (other m) (.builtin "re.Pattern.sub.loop" (subArgs p T tT k tR (n + 1) m.handed (m.handed == m.start) L))
  | none => subMiss T.toArray L d T.toArray.size (subEnd T.toArray L n)

theorem sub_body {h₀ h : Heap} {p : Addr} {T : List Nat} {tT tR : Tok} {k : Nat} {n : Int} {d : Nat} {must : Bool} {L : Addr} {other : M → Sem Fin} {ss : List (List Nat)} {tk : Nat} {A : Around} {Q : Fin → Shared → Prop} (hsz : T.length ≤ 1000000) (hd : d ≤ T.length)
    (hl : ss.length + 1 ≤ 3000000) (P : Pcs h₀ h L ss) (hfull : (indentL k true T).length ≤ 3000000) (hj : ss.flatten ++ indentL k (bolAt T.toArray d && !must) (T.drop d) = indentL k true T)
    (hR : ∀ h' tk tv, (∀ b o, h₀.get? b = some o → h'.get? b = some o) → Q (.done (.ret (.str ⟨(indentL k true T).toArray⟩ tv))) ⟨h', s.gens, s.drawn, tk, s.os⟩)
    (hQ : ∀ q ss' h' tk', d ≤ q → q < T.length → (must = true → d < q) → ss'.length ≤ ss.length + 2 → Pcs h₀ h' L ss' → ss'.flatten ++ indentL k false (T.drop q) = indentL k true T →
      Q (.again (.builtin "re.Pattern.sub.loop" (subArgs p T tT k tR (n + 1) q true L))) ⟨h', s.gens, s.drawn, tk', s.os⟩) :
    wpAny (model prog w) A (subBody p T tT k tR n d must L other) Q (fun _ _ => False) ⟨h, s.gens, s.drawn, tk, s.os⟩ := by
  have e0 : (T.toArray.size) = T.length := List.size_toArray ..
  have hn := nextHit_indent k T (T.length - d) d must (by omega)
  refine wpAny_bind (found_ok (start := d) (by rw [e0]; exact hd) (by rw [e0]; exact hsz) fun m => ?_)
  rw [e0]
  cases hq : nextHit T.toArray T.length must d (T.length - d) with
  | some q =>
    rw [hq] at hn
    obtain ⟨a1, a2, a3, a4⟩ := hn
    intro hx
    dsimp only
    rw [hx.1, hx.2, show (q == q) = true from beq_self_eq_true q]
    refine sub_hit P hsz hl a1 fun ss' h' tk' hl' P' hj' => hQ q ss' h' tk' a1 a2 a3 hl' P' ?_
    rw [hj', ← hj, a4, ← List.drop_take]
    simp
  | none =>
    rw [hq] at hn
    dsimp only
    refine sub_miss P hsz (by omega) fun ss' h' tk' hl' P' hj' => sub_end P' ?_ hfull (by omega) hsz hR
    rw [hj', ← hj, hn]

/-- the loop over the places found -/
theorem sub_loop {h₀ : Heap} {p : Addr} {T : List Nat} {tT tR : Tok} {k : Nat} {L : Addr} (hP : PatAt h₀ p) (hsz : T.length ≤ 1000000) {R : Value → Shared → Prop} {A : Around}
    (hR : ∀ h' tk tv, (∀ b o, h₀.get? b = some o → h'.get? b = some o) → R (.str ⟨(indentL k true T).toArray⟩ tv) ⟨h', s.gens, s.drawn, tk, s.os⟩) (hfull : (indentL k true T).length ≤ 3000000) :
    ∀ (f d : Nat) (must : Bool) (n : Int) (ss : List (List Nat)) (h : Heap) (tk : Nat), T.length + 2 ≤ d + mu must + f → d ≤ T.length → ss.length ≤ 2 * (d + mu must) →
      Pcs h₀ h L ss → ss.flatten ++ indentL k (bolAt T.toArray d && !must) (T.drop d) = indentL k true T →
      codeAny (model prog w) A (.builtin "re.Pattern.sub.loop" (subArgs p T tT k tR n d must L)) (SubPost R) ⟨h, s.gens, s.drawn, tk, s.os⟩
  | 0, d, must, _, _, _, _, hf, hd, _, _, _ => by
    have : mu must ≤ 1 := by cases must <;> decide
    omega
  | f + 1, d, must, n, ss, h, tk, hf, hd, hss, P, hj => by
    have hm1 : mu must ≤ 1 := by cases must <;> decide
    refine codeAny_builtin entry_sub_loop (wpAny_bind (m := reWholeTarget _ _) (whole_ok (hP.keep P.keep) (wpAny_bind (m := reLiteralCannotBeTurned _) (f := fun _ => subBody p T tT k tR n d must L _) (wpAny_pure
      (sub_body hsz hd (by omega) P hfull hj hR fun q ss' h' tk' a1 a2 a3 hl' P' hj' => ⟨plainId_quiet plain_sub_loop _, sub_loop hP hsz hR hfull f q true (n + 1) ss' h' tk' (show _ ≤ q + 1 + f from ?_) (Nat.le_of_lt a2) (show _ ≤ 2 * (q + 1) from ?_) P' ?_⟩)))))
    · cases must with
      | true => have := a3 rfl; simp only [mu, if_true] at hf; omega
      | false => simp only [mu, Bool.false_eq_true, if_false] at hf; omega
    · cases must with
      | true => have := a3 rfl; simp only [mu, if_true] at hss; omega
      | false => simp only [mu, Bool.false_eq_true, if_false] at hss; omega
    · rw [Bool.not_true, Bool.and_false]; exact hj'
end
end Mine
end

section
open PySem PySem.W PyProof.Rows PySem.Calls PySem.SeqAt PySem.Builtin PySem.Builtin.Re
set_option maxRecDepth 100000
set_option linter.unusedSimpArgs false
namespace Mine

theorem plainAttrs_pattern : PlainAttrs "re.Pattern" := ⟨⟨"object.__getattribute__", by rw [typeLookup_type, builtinLookup_eq_fast]; kernel_rfl, by decide +kernel⟩, by rw [typeLookup_type, builtinLookup_eq_fast]; kernel_rfl⟩
theorem slot_sub : Slot "re.Pattern" "sub" "re.Pattern.sub" :=
  .of (owner := "re.Pattern") (n := "sub") (by rw [typeLookup_type, builtinLookup_eq_fast]; kernel_rfl) (by decide +kernel) (by decide +kernel) (by decide +kernel)
    (by first | exact .inl (by decide +kernel) | exact .inr (by decide +kernel)) (by rw [isSubtype_type]; kernel_rfl)
theorem type_sub : typeOf (.builtin "re.Pattern.sub") = pure (.type "method_descriptor") := by show builtinType _ = _; rw [builtinType_eq_fast]; kernel_rfl
theorem entry_sub : entryFor table "re.Pattern.sub" = some Builtin.«re.Pattern.sub» := entryFor_of_tree (by kernel_rfl)
theorem args_sub (a b c : Value) : argsOk "re.Pattern.sub" ⟨[a, b, c], []⟩ := by unfold argsOk; kernel_rfl

theorem named_sub (id f : String) (a b : Value) : reNamed id f ["repl", "string", "count"] 2 [a, b] [] = pure [some a, some b, none] := by
  rfl
theorem noCall_str : typeLookup (.type "str") "__call__" = pure none := by rw [typeLookup_type, builtinLookup_eq_fast]; kernel_rfl

section
variable {prog : Program} {w : World} {A : Around} {s : Shared}

theorem no92 (k : Nat) : ((List.replicate k 32).toArray : Array Nat).contains 92 = false := by
  simp

theorem sub_ok {p : Addr} {T : List Nat} {tT tR : Tok} {k : Nat} (hP : PatAt s.heap p) (hsz : T.length ≤ 1000000) (hfull : (indentL k true T).length ≤ 3000000) {R : Value → Shared → Prop}
    (hR : ∀ h' tk tv, (∀ b o, s.heap.get? b = some o → h'.get? b = some o) → R (.str ⟨(indentL k true T).toArray⟩ tv) ⟨h', s.gens, s.drawn, tk, s.os⟩) :
    wpAny (model prog w) A (call (.builtin "re.Pattern.sub") [.ref p, .str ⟨(List.replicate k 32).toArray⟩ tR, .str ⟨T.toArray⟩ tT]) R Fls s := by
  have hT : s.TypeIs (.ref p) "re.Pattern" := by
    obtain ⟨o, _, _, _, _, _, _, _, _, _, _, a, b, _⟩ := hP
    exact ⟨o, a, b⟩
  refine wpAny_call (codeAny_call_builtin slot_sub.plain entry_sub (slot_sub.check _ _ _ _ _ _ _ _ hT (args_sub _ _ _) ?_))
  unfold Builtin.«re.Pattern.sub» reSubstitute
  dsimp only
  rw [named_sub]
  refine wpAny_bind (wpAny_pure ?_)
  dsimp only
  refine wpAny_bind (wpAny_pure ?_)
  refine wpAny_bind (wpAny_specialOf_val (T := "str") rfl noCall_str ?_)
  dsimp only [Option.isSome]
  rw [if_neg (show ¬ (false = true) by decide)]
  refine wpAny_bind (m := asStr? _) (wpAny_pure ?_)
  dsimp only
  rw [no92]
  refine wpAny_bind (wpAny_pure ?_)
  rw [if_neg (show ¬ (false = true) by decide), if_pos (show (!false) = true from rfl)]
  refine wpAny_bind (wpAny_pure ?_)
  dsimp only
  refine wpAny_bind (wpAny_holding (whole_ok hP ?_))
  rw [if_neg (show ¬ (((0 : Int) == 1) = true) by decide)]
  refine wpAny_bind (wpAny_newList ?_ (Nat.zero_le _))
  refine wpAny_pure ⟨plainId_quiet plain_sub_loop _, ?_⟩
  have nL : s.heap.get? s.heap.objs.size = none := by
    cases e : s.heap.get? s.heap.objs.size with
    | none => rfl
    | some o => exact absurd (Heap.lt_size e) (Nat.lt_irrefl _)
  have hb : (bolAt T.toArray 0 && !false) = true := rfl
  refine codeAny_mono (sub_loop (s := s) (h₀ := s.heap) (k := k) (L := s.heap.objs.size) hP hsz (R := R) hR hfull (T.length + 3) 0 false 0 [] _ s.toks (by omega) (Nat.zero_le _) (Nat.zero_le _) ⟨fun b o e => ?_, ⟨[], 0, ?_, .nil⟩, nL⟩ ?_) fun r s' hr => ?_
  · exact Heap.get?_push_of_some _ e
  · exact Heap.get?_push_size _ rfl
  · rw [hb]; simp
  · exact hr
end
end Mine
end

section
open PySem PySem.W PyProof.Rows PySem.Calls PySem.SeqAt
set_option maxRecDepth 100000
set_option linter.unusedSimpArgs false
namespace Mine

theorem indentL_len (k : Nat) : ∀ (b : Bool) (l : List Nat), (indentL k b l).length ≤ l.length * (k + 1)
  | _, [] => by simp [indentL_0]
  | true, c :: r => by
    have h1 := indentL_len k true r
    have h2 := indentL_len k false r
    simp only [indentL_t]
    split
    · simp only [List.length_cons, Nat.succ_mul]; omega
    · simp only [List.length_append, List.length_replicate, List.length_cons, Nat.succ_mul]; omega
  | false, c :: r => by
    have h2 := indentL_len k (c == 10) r
    simp only [indentL_f, List.length_cons, Nat.succ_mul]; omega

section
variable {prog : Program} {w : World} {A : Around} {hB : Heap} {mg : Str → Option Value}

theorem indent_goes {g iv sv : Str} {p1 p2 p3 p4 p5 p6 p7 p8 : Pos} {kd : Nat} {fd : FuncData} {fI pa : Addr} (F : PlFn hB fI fd) (hlim : hB.NoLimit)
    (hbody : fd.body = .stmts [.Return (some (.Call (.Attribute (.Name g p1) "sub" p2) [.BinOp (.Name iv p3) .Mult (.Constant (.str ⟨#[32]⟩) kd p4) p5, .Name sv p6] [] p7)) p8])
    (hline : (p2.endLine == p7.line) = true) (hd : (g == ("__debug__" : Str)) = false ∧ (iv == ("__debug__" : Str)) = false ∧ (sv == ("__debug__" : Str)) = false) (hne : sv ≠ iv)
    (hk : fd.scope.names.lookup g = some .globalImplicit ∧ fd.scope.names.lookup iv = some .local ∧ fd.scope.names.lookup sv = some .local)
    (hok : okEs (fun _ => true) fd.scope [.BinOp (.Name iv p3) .Mult (.Constant (.str ⟨#[32]⟩) kd p4) p5, .Name sv p6] = true)
    (hbind : ∀ (M : Model) (a : Str) (t : Tok) (i : Int) (u : Tok), Looks M hB (bindArgs fd ⟨[.str a t, .int i u], []⟩) [(sv, .str a t), (iv, .int i u)])
    (Tg : hB.Ns mainGlobals mg) (hg : mg g = some (.ref pa)) (P : PatAt hB pa)
    {s : Shared} {T : List Nat} {t u : Tok} {i : Int} (k : ∀ b o, hB.get? b = some o → s.heap.get? b = some o) (hA : A.depth < recursionLimit)
    (h1 : T.length ≤ 1000000) (h2 : i.natAbs ≤ 1000000) (h3 : (T.length + 1) * (i.natAbs + 1) ≤ 1000000) :
    wpAny (model prog w) A (call (.ref fI) [.str ⟨T.toArray⟩ t, .int i u]) (fun v s' => (∃ tv, v = .str ⟨(indentL i.toNat true T).toArray⟩ tv) ∧ Goes s s') Fls s := by
  refine wpAny_call (codeAny_mono (pl_enter (s := s) F hlim hbody k hA (fun M' A' E' Q' hq => ?_) (binds := [(sv, .str ⟨T.toArray⟩ t), (iv, .int i u)]) ?_
    (R := fun r s' => match r with | .ok (.ret v) => (∃ tv, v = .str ⟨(indentL i.toNat true T).toArray⟩ tv) ∧ Goes s s' | _ => False) fun h₀ hn hk' => ?_) (fun r s' hr => ?_))
  · exact (hbind M' _ _ _ _).keeps k |>.at hq
  · intro q hq
    rcases List.mem_cons.mp hq with rfl | hq
    · exact hk.2.2
    · cases List.mem_singleton.mp hq; exact hk.2.1
  · have k0 : ∀ b o, hB.get? b = some o → h₀.get? b = some o := fun b o e => hk' b o (k b o e)
    generalize hE : callEnv fd s.heap.objs.size fI = env
    have hloc : env.locals = s.heap.objs.size := by subst hE; rfl
    have hkind : env.scope.kind = .function := by subst hE; exact F.kind
    have hglob : env.globals = mainGlobals := by subst hE; exact F.glob
    have kg : env.kindOf g = some .globalImplicit := by subst hE; exact hk.1
    have ki : env.kindOf iv = some .local := by subst hE; exact hk.2.1
    have ks : env.kindOf sv = some .local := by subst hE; exact hk.2.2
    have b1 : (sv == iv) = false := by simpa using hne
    refine wpAny_execs_cons (wpAny_Return_some ?_)
    rw [arm_eval_Call, base_plain rfl]
    refine wpAny_bind (Name_function_global hkind kg ?_ hd.1)
    refine ((looks_global Tg hg env hglob).keeps k0).here ?_
    refine wpAny_bind (wpAny_standAt ?_)
    have okk : okEs (fun _ => true) env.scope [.BinOp (.Name iv p3) .Mult (.Constant (.str ⟨#[32]⟩) kd p4) p5, .Name sv p6] = true := by
      subst hE; exact hok
    have hform : methodCallForm (2 + 0) (backTo p7 (starEach [.BinOp (.Name iv p3) .Mult (.Constant (.str ⟨#[32]⟩) kd p4) p5, .Name sv p6] env)) (backToKw p7 (keywordEach [] env)) = true := rfl
    have hpos : methodCallPos true (.Name g p1) env p2 p7 = pure p7 := by unfold methodCallPos; simp [hline]
    show wpAny _ _ (methodCall _ _ _ _ _ _ (2 + 0) _ _) _ _ _
    unfold methodCall
    rw [hform]
    have Pn : PatAt h₀ pa := P.keep k0
    have Po : ∃ o, h₀.get? pa = some o ∧ o.cls = .type "re.Pattern" ∧ o.dict = none := by
      obtain ⟨o, _, _, _, _, _, _, _, _, _, _, a, b, c, _⟩ := Pn
      exact ⟨o, a, b, c⟩
    obtain ⟨o, ho, hc, hdd⟩ := Po
    refine wpAny_bind (wpAny_holding (getMethod_builtin (T := "re.Pattern") ⟨o, ho, hc⟩ plainAttrs_pattern slot_sub type_sub (fun a e => by cases e; exact ⟨o, ho, hdd⟩) ?_))
    refine wpAny_bind (wpAny_of_eq hpos ?_)
    refine callWith_of (P := fun h => ∀ b o, h₀.get? b = some o → h.get? b = some o) (by rw [okEs_plain okk]; rfl) (fun h hp => ⟨.machine, .inr (.inl rfl), .of_pure rfl⟩) (evalArgs_all okk ?_)
    have nI : ∀ (h : Heap), (∀ b o, h₀.get? b = some o → h.get? b = some o) → h = h₀ ∨ True := fun _ _ => .inr trivial
    refine wpAny_items_cons ?_ (okE_noStar (kn := fun _ => true) (sc := env.scope) ((and2 (a := okE (fun _ => true) env.scope _) (b := okEs (fun _ => true) env.scope [.Name sv p6]) okk).1) _ env)
    refine wpAny_BinOp (wpAny_Name (wpAny_loadName_local (v := .int i u) hkind ki (hloc ▸ hn) (by simp []) ?_) hd.2.1)
    refine wpAny_Constant_str ?_
    refine mul_int_str (l := [32]) h2 (by simp) (by simp; omega) fun x tx tk hx => ?_
    have ex : x = ⟨(List.replicate i.toNat 32).toArray⟩ := by
      have : mulText i [32] = List.replicate i.toNat 32 := by simp [mulText]
      rw [this] at hx
      cases x
      simp at hx ⊢
      apply Array.ext'
      rw [hx]; simp
    subst ex
    refine wpAny_items_cons (wpAny_Name (wpAny_loadName_local (v := .str ⟨T.toArray⟩ t) hkind ks (hloc ▸ hn) (by simp [List.lookup, b1]) ?_) hd.2.2) (okE_noStar (kn := fun _ => true) (sc := env.scope) ((and2 (a := okE (fun _ => true) env.scope (.Name sv p6)) (b := okEs (fun _ => true) env.scope []) ((and2 (a := okE (fun _ => true) env.scope _) (b := okEs (fun _ => true) env.scope [.Name sv p6]) okk).2)).1) _ env)
    refine wpAny_items_nil ⟨fun b o e => e, ?_⟩
    have hlen : (indentL i.toNat true T).length ≤ 3000000 := by
      have := indentL_len i.toNat true T
      have h4 : T.length * (i.toNat + 1) ≤ (T.length + 1) * (i.natAbs + 1) := Nat.mul_le_mul (by omega) (by omega)
      omega
    refine sub_ok (k := i.toNat) Pn h1 hlen fun h' tk' tv kk => ⟨⟨_, rfl⟩, h', tk', rfl, fun b o e => kk b o (hk' b o e)⟩
  · cases r with
    | ok f => cases f <;> first | exact hr | exact hr.elim
    | error e => exact hr
end
end Mine
end

section
open PySem PySem.W PyProof.Rows
set_option maxRecDepth 100000
set_option linter.unusedSimpArgs false
namespace Mine

/-! words and the order of their ends -/
theorem ltL_cons_self (c : Nat) (x y : List Nat) : ltL (c :: x) (c :: y) = ltL x y := by simp [ltL_c]
theorem ltL_app_self (u x y : List Nat) : ltL (u ++ x) (u ++ y) = ltL x y := by
  induction u with
  | nil => rfl
  | cons c u ih => rw [List.cons_append, List.cons_append, ltL_cons_self, ih]
theorem ltL_nil_right (x : List Nat) : ltL x [] = false := by cases x <;> rfl
theorem ltL_asymm {x y : List Nat} (h : ltL x y = true) : ltL y x = false := by
  cases h2 : ltL y x with
  | false => rfl
  | true =>
    have := ltL_trans h h2
    rw [ltL_irr] at this
    exact this.symm
theorem ltL_prefix {x z : List Nat} (h : z ≠ []) : ltL x (x ++ z) = true := by
  have := ltL_app_self x [] z
  rw [List.append_nil] at this
  rw [this]
  cases z with
  | nil => exact absurd rfl h
  | cons c z => rfl
theorem ltL_prefix' (x z : List Nat) : ltL (x ++ z) x = false := by
  have := ltL_app_self x z []
  rw [List.append_nil] at this
  rw [this]
  exact ltL_nil_right z

/-- a word between two that begin alike begins so too -/
theorem ltL_between : ∀ {y a d b : List Nat}, ltL (y ++ a) d = true → ltL d (y ++ b) = true → ∃ c, d = y ++ c
  | [], _, d, _, _, _ => ⟨d, rfl⟩
  | c :: y, a, [], b, h, _ => by rw [ltL_nil_right] at h; cases h
  | c :: y, a, e :: d, b, h1, h2 => by
    simp only [List.cons_append, ltL_c] at h1 h2
    have hce : c = e := by
      by_cases q1 : c < e
      · exact absurd h2 (by rw [if_neg (by omega), if_neg (by omega)]; decide)
      · rw [if_neg q1] at h1
        by_cases q2 : c = e
        · exact q2
        · rw [if_neg q2] at h1; cases h1
    subst hce
    simp only [Nat.lt_irrefl, if_false, if_true] at h1 h2
    obtain ⟨r, hr⟩ := ltL_between h1 h2
    exact ⟨r, by rw [hr]; rfl⟩

/-- words of which neither begins with the other are told by their own signs -/
theorem ltL_apart : ∀ {x y : List Nat} (a b : List Nat), ¬ x <+: y → ¬ y <+: x → ltL (x ++ a) (y ++ b) = ltL x y
  | [], y, _, _, h, _ => absurd (List.nil_prefix) h
  | c :: x, [], _, _, _, h => absurd (List.nil_prefix) h
  | c :: x, e :: y, a, b, h1, h2 => by
    simp only [List.cons_append, ltL_c]
    by_cases q : c = e
    · subst q
      rw [if_neg (Nat.lt_irrefl c), if_pos rfl, if_neg (Nat.lt_irrefl c), if_pos rfl]
      exact ltL_apart a b (fun h => h1 (by simpa using h)) (fun h => h2 (by simpa using h))
    · by_cases q2 : c < e
      · rw [if_pos q2, if_pos q2]
      · rw [if_neg q2, if_neg q2, if_neg q, if_neg q]

/-- p signs of v make a piece that is less than all its ends, and what follows is less than v -/
noncomputable def lowTo (v : List Nat) (p : Nat) : Prop := ∀ q, 0 < q → q < p → ltL v (v.drop q) = true
structure NssL (v : List Nat) (p : Nat) : Prop where
  pos : 0 < p
  le : p ≤ v.length
  low : lowTo v p
  nxt : ltL (v.drop p) v = true

theorem drop_app (u v : List Nat) (k : Nat) : (u ++ v).drop (u.length + k) = v.drop k := by
  rw [List.drop_append]
  simp
theorem drop_at (u v : List Nat) : (u ++ v).drop u.length = v := by
  have := drop_app u v 0
  simpa using this

theorem NssL.uniq {v : List Nat} {p q : Nat} (h : NssL v p) (k : NssL v q) : p = q := by
  rcases Nat.lt_trichotomy p q with l | l | l
  · have := k.low p h.pos l
    rw [ltL_asymm h.nxt] at this; cases this
  · exact l
  · have := h.low q k.pos l
    rw [ltL_asymm k.nxt] at this; cases this

/-- a piece has no border -/
theorem NssL.noBorder {v : List Nat} {p q : Nat} (h : NssL v p) (h0 : 0 < q) (hq : q < p) (e : (v.drop q).take (p - q) = v.take (p - q)) : False := by
  have e1 : v.drop q = v.take (p - q) ++ v.drop p := by
    have := List.take_append_drop (p - q) (v.drop q)
    rw [List.drop_drop, show q + (p - q) = p by omega, e] at this
    exact this.symm
  have e2 : v = v.take (p - q) ++ v.drop (p - q) := (List.take_append_drop _ _).symm
  have h1 := h.low q h0 hq
  rw [e1] at h1
  have h1' : ltL (v.take (p - q) ++ v.drop (p - q)) (v.take (p - q) ++ v.drop p) = true := by rw [← e2]; exact h1
  rw [ltL_app_self] at h1'
  have h2 := h.low (p - q) (by omega) (by omega)
  have h3 := ltL_trans h2 h1'
  rw [ltL_asymm h.nxt] at h3
  cases h3

/-- the two next pieces are told by their words as their ends are -/
theorem merge_claim {v y r r2 : List Nat} {a : Nat} (hr : v.drop a = r) (e : r = y ++ r2) (hy : y ≠ []) (H1 : lowTo v a) (H2 : lowTo r y.length) (H3 : ltL r2 r = true) : ∀ n k, a - k = n → k < a → (∃ d, v.drop k = y ++ d) → (∃ d, v = y ++ d) → ltL (v.drop k) r = true → False := by
  intro n
  induction n using Nat.strongRecOn with
  | _ n ih =>
    intro k hn hk ⟨d, hd⟩ ⟨d0, hd0⟩ hlt
    have hyl : 0 < y.length := List.length_pos_iff.mpr hy
    have hd' : v.drop (k + y.length) = d := by rw [← List.drop_drop, hd, drop_at]
    have l1 : ltL d r2 = true := by
      rw [hd, e, ltL_app_self] at hlt; exact hlt
    have l2 := ltL_trans l1 H3
    rcases Nat.lt_trichotomy (k + y.length) a with l | l | l
    · have l3 := H1 (k + y.length) (by omega) l
      rw [hd'] at l3
      obtain ⟨c, hc⟩ := ltL_between (y := y) (a := d0) (d := d) (b := r2) (by rw [← hd0]; exact l3) (by rw [← e]; exact l2)
      exact ih (a - (k + y.length)) (by omega) (k + y.length) rfl l ⟨c, by rw [hd', hc]⟩ ⟨d0, hd0⟩ (by rw [hd']; exact l2)
    · have : d = r := by rw [← hd', l, hr]
      rw [this] at l2
      rw [ltL_irr] at l2; cases l2
    · have hdr : d = r.drop (k + y.length - a) := by
        rw [← hr, List.drop_drop, show a + (k + y.length - a) = k + y.length by omega, hd']
      have := H2 (k + y.length - a) (by omega) (by omega)
      rw [← hdr] at this
      rw [ltL_asymm l2] at this; cases this

theorem merge_tell {x y r2 : List Nat} (hx : x ≠ []) (hy : y ≠ []) (H1 : lowTo (x ++ (y ++ r2)) x.length) (H2 : lowTo (y ++ r2) y.length) (H3 : ltL r2 (y ++ r2) = true) :
    ltL x y = ltL (x ++ (y ++ r2)) (y ++ r2) := by
  by_cases p1 : x <+: y
  · obtain ⟨z, hz⟩ := p1
    subst hz
    cases z with
    | nil =>
      rw [List.append_nil] at H3 ⊢
      rw [ltL_irr, ltL_app_self, ltL_asymm H3]
    | cons c z =>
      rw [ltL_prefix (by simp)]
      rw [List.append_assoc x (c :: z) r2, ltL_app_self]
      have h := H2 x.length (List.length_pos_iff.mpr hx) (by simp)
      rw [List.append_assoc, drop_at] at h
      exact h.symm
  · by_cases p2 : y <+: x
    · obtain ⟨z, hz⟩ := p2
      subst hz
      rw [ltL_prefix']
      cases hv : ltL ((y ++ z) ++ (y ++ r2)) (y ++ r2) with
      | false => rfl
      | true =>
        exact (merge_claim (v := (y ++ z) ++ (y ++ r2)) (y := y) (r := y ++ r2) (r2 := r2) (a := (y ++ z).length) (drop_at _ _) rfl hy H1 H2 H3 _ 0 rfl (List.length_pos_iff.mpr hx) ⟨z ++ (y ++ r2), by simp⟩ ⟨z ++ (y ++ r2), by simp⟩ hv).elim
    · exact (ltL_apart _ _ p1 p2).symm

theorem lowTo_join {x y r : List Nat} (H1 : lowTo (x ++ (y ++ r)) x.length) (H2 : lowTo (y ++ r) y.length) (h : ltL (x ++ (y ++ r)) (y ++ r) = true) : lowTo (x ++ (y ++ r)) (x ++ y).length := by
  intro q h0 hq
  rcases Nat.lt_trichotomy q x.length with l | l | l
  · exact H1 q h0 l
  · rw [l, drop_at]; exact h
  · have e : q = x.length + (q - x.length) := by omega
    rw [e, drop_app]
    exact ltL_trans h (H2 (q - x.length) (by omega) (by simp at hq; omega))

/-- the pieces of v: their words, from v's first sign on -/
inductive Chain : List Nat → List (List Nat) → Prop
  | nil : Chain [] []
  | cons {x v : List Nat} {r : List (List Nat)} (hx : x ≠ []) (low : lowTo (x ++ v) x.length) (nxt : ltL v (x ++ v) = true) (t : Chain v r) : Chain (x ++ v) (x :: r)

theorem Chain.nss {x v : List Nat} {r : List (List Nat)} (h : Chain v (x :: r)) : NssL v x.length := by
  generalize hl : x :: r = l at h
  cases h with
  | nil => cases hl
  | cons hx low nxt t =>
    cases hl
    exact ⟨List.length_pos_iff.mpr hx, by simp, low, by rw [drop_at]; exact nxt⟩
theorem ltL_of_not {x y : List Nat} (h : ltL x y = false) (hl : x.length ≠ y.length) : ltL y x = true := by
  cases h2 : ltL y x with
  | true => rfl
  | false => exact absurd (congrArg List.length (ltL_tri h h2)) hl
/-- a piece that is not less than the next one -/
theorem Chain.push {x v : List Nat} {l : List (List Nat)} (hx : x ≠ []) (H1 : lowTo (x ++ v) x.length) (h : Chain v l) (hl : ∀ y r, l = y :: r → ltL x y = false) : Chain (x ++ v) (x :: l) := by
  refine .cons hx H1 ?_ h
  cases h with
  | nil =>
    cases x with
    | nil => exact absurd rfl hx
    | cons c x => rfl
  | cons hy low nxt t =>
    rename_i y v' r
    have := merge_tell hx hy H1 low nxt
    rw [hl _ _ rfl] at this
    exact ltL_of_not this.symm (by have := List.length_pos_iff.mpr hx; simp; omega)
/-- a piece that is less than the next one goes together with it -/
theorem Chain.merge {x y v : List Nat} {l : List (List Nat)} (hx : x ≠ []) (H1 : lowTo (x ++ v) x.length) (h : Chain v (y :: l)) (hl : ltL x y = true) : ∃ v', v = y ++ v' ∧ Chain v' l ∧ lowTo ((x ++ y) ++ v') (x ++ y).length := by
  generalize hyl : y :: l = yl at h
  cases h with
  | nil => cases hyl
  | cons hy low nxt t =>
    cases hyl
    rename_i v'
    refine ⟨v', rfl, t, ?_⟩
    rw [List.append_assoc]
    refine lowTo_join H1 low ?_
    rw [← merge_tell hx hy H1 low nxt]; exact hl
theorem lowTo_one (v : List Nat) : lowTo v 1 := fun q h0 h1 => by omega
end Mine
end

section
open PySem PySem.W PyProof.Rows
set_option maxRecDepth 100000
set_option linter.unusedSimpArgs false
namespace Mine

/-! runs of a word -/
theorem ltL_of : ∀ {t : Nat} {x y : List Nat} {b : Nat}, (∀ s, s < t → x[s]? = y[s]?) → y[t]? = some b → (∀ a, x[t]? = some a → a < b) → ltL x y = true
  | 0, [], c :: y, b, _, _, _ => rfl
  | 0, a :: x, c :: y, b, _, hy, hx => by
    simp at hy hx
    subst hy
    simp [ltL_c, hx]
  | _, x, [], b, _, hy, _ => by simp at hy
  | t + 1, [], c :: y, b, h, hy, _ => by
    have := h 0 (by omega)
    simp at this
  | t + 1, a :: x, c :: y, b, h, hy, hx => by
    have h0 := h 0 (by omega)
    simp at h0
    subst h0
    rw [ltL_cons_self]
    exact ltL_of (t := t) (fun s hs => by have := h (s + 1) (by omega); simpa using this) (by simpa using hy) (fun a ha => hx a (by simpa using ha))
theorem ltL_to : ∀ {x y : List Nat}, ltL x y = true → ∃ (t b : Nat), (∀ s, s < t → x[s]? = y[s]?) ∧ y[t]? = some b ∧ ∀ (a : Nat), x[t]? = some a → a < b
  | x, [], h => by rw [ltL_nil_right] at h; cases h
  | [], c :: y, _ => ⟨0, c, fun s hs => by omega, rfl, fun a ha => by simp at ha⟩
  | a :: x, c :: y, h => by
    by_cases q : a < c
    · exact ⟨0, c, fun s hs => by omega, rfl, fun a' ha => by simp at ha; omega⟩
    · simp only [ltL_c, if_neg q] at h
      by_cases q2 : a = c
      · subst q2
        rw [if_pos rfl] at h
        obtain ⟨t, b, h1, h2, h3⟩ := ltL_to h
        refine ⟨t + 1, b, fun s hs => ?_, by simpa using h2, fun a' ha => h3 a' (by simpa using ha)⟩
        cases s with
        | zero => rfl
        | succ s => simpa using h1 s (by omega)
      · rw [if_neg q2] at h; cases h

noncomputable def Per (w : List Nat) (f l p : Nat) : Prop := ∀ t, f ≤ t → t + p < l → w[t]? = w[t + p]?
structure Run (w : List Nat) (f l p : Nat) : Prop where
  pos : 0 < p
  fl : f + 2 * p ≤ l
  ln : l ≤ w.length
  per : Per w f l p
  least : ∀ q, 0 < q → q < p → ¬ Per w f l q
  lft : f = 0 ∨ w[f - 1]? ≠ w[f - 1 + p]?
  rgt : l = w.length ∨ w[l]? ≠ w[l - p]?
structure Strt (w : List Nat) (i p f l : Nat) : Prop where
  fi : f ≤ i
  il : i + p ≤ l
  ln : l ≤ w.length
  per : Per w f l p
  lft : f = 0 ∨ w[f - 1]? ≠ w[f - 1 + p]?
  rgt : l = w.length ∨ w[l]? ≠ w[l - p]?
theorem Strt.uniq {w : List Nat} {i p f l f' l' : Nat} (h : Strt w i p f l) (k : Strt w i p f' l') : f = f' ∧ l = l' := by
  have a1 := h.fi; have a2 := h.il; have a3 := k.fi; have a4 := k.il; have a5 := h.ln; have a6 := k.ln
  constructor
  · rcases Nat.lt_trichotomy f f' with q | q | q
    · rcases k.lft with e | e
      · omega
      · exact absurd (h.per (f' - 1) (by omega) (by omega)) e
    · exact q
    · rcases h.lft with e | e
      · omega
      · exact absurd (k.per (f - 1) (by omega) (by omega)) e
  · rcases Nat.lt_trichotomy l l' with q | q | q
    · rcases h.rgt with e | e
      · omega
      · have := k.per (l - p) (by omega) (by omega)
        rw [show l - p + p = l by omega] at this
        exact absurd this.symm e
    · exact q
    · rcases k.rgt with e | e
      · omega
      · have := h.per (l' - p) (by omega) (by omega)
        rw [show l' - p + p = l' by omega] at this
        exact absurd this.symm e
theorem Run.strt {w : List Nat} {f l p i : Nat} (h : Run w f l p) (h1 : f ≤ i) (h2 : i + p ≤ l) : Strt w i p f l := ⟨h1, h2, h.ln, h.per, h.lft, h.rgt⟩

/-- a stretch that counts is a run -/
theorem Strt.run {w : List Nat} {i p f l : Nat} (N : NssL (w.drop i) p) (h : Strt w i p f l) (h2 : f + 2 * p ≤ l) : Run w f l p := by
  refine ⟨N.pos, h2, h.ln, h.per, fun q h0 hq P => ?_, h.lft, h.rgt⟩
  have a1 := h.fi; have a2 := h.il
  refine N.noBorder h0 hq (List.ext_getElem? fun t => ?_)
  rw [List.getElem?_take, List.getElem?_take]
  by_cases ht : t < p - q
  · rw [if_pos ht, if_pos ht, List.getElem?_drop, List.getElem?_drop, List.getElem?_drop]
    have := P (i + t) (by omega) (by omega)
    rw [this]
    congr 1
    omega
  · rw [if_neg ht, if_neg ht]

/-- signs whose order is turned -/
noncomputable def turnW (K : Nat) (w : List Nat) : List Nat := w.map fun c => K - c
theorem turn_eq {K : Nat} {w : List Nat} (hK : ∀ c ∈ w, c ≤ K) (i j : Nat) : (turnW K w)[i]? = (turnW K w)[j]? ↔ w[i]? = w[j]? := by
  simp only [turnW, List.getElem?_map]
  constructor
  · intro h
    cases hi : w[i]? with
    | none =>
      cases hj : w[j]? with
      | none => rfl
      | some b => rw [hi, hj] at h; cases h
    | some a =>
      cases hj : w[j]? with
      | none => rw [hi, hj] at h; cases h
      | some b =>
        rw [hi, hj] at h
        have h1 := hK a (List.mem_of_getElem? hi)
        have h2 := hK b (List.mem_of_getElem? hj)
        simp at h
        congr 1
        omega
  · intro h; rw [h]
theorem turn_len (K : Nat) (w : List Nat) : (turnW K w).length = w.length := by simp [turnW]
theorem turn_per {K : Nat} {w : List Nat} (hK : ∀ c ∈ w, c ≤ K) {f l p : Nat} : Per (turnW K w) f l p ↔ Per w f l p :=
  ⟨fun h t h1 h2 => (turn_eq hK _ _).mp (h t h1 h2), fun h t h1 h2 => (turn_eq hK _ _).mpr (h t h1 h2)⟩
theorem turn_run {K : Nat} {w : List Nat} (hK : ∀ c ∈ w, c ≤ K) {f l p : Nat} (h : Run w f l p) : Run (turnW K w) f l p :=
  ⟨h.pos, h.fl, by rw [turn_len]; exact h.ln, (turn_per hK).mpr h.per, fun q a b c => h.least q a b ((turn_per hK).mp c),
    h.lft.imp_right fun e k => e ((turn_eq hK _ _).mp k), by rw [turn_len]; exact h.rgt.imp_right fun e k => e ((turn_eq hK _ _).mp k)⟩
theorem turn_strt {K : Nat} {w : List Nat} (hK : ∀ c ∈ w, c ≤ K) {i f l p : Nat} (h : Strt w i p f l) : Strt (turnW K w) i p f l :=
  ⟨h.fi, h.il, by rw [turn_len]; exact h.ln, (turn_per hK).mpr h.per,
    h.lft.imp_right fun e k => e ((turn_eq hK _ _).mp k), by rw [turn_len]; exact h.rgt.imp_right fun e k => e ((turn_eq hK _ _).mp k)⟩

/-- in one of the two orders the piece at a place is a sign alone -/
theorem one_of_two {K : Nat} {w : List Nat} (hK : ∀ c ∈ w, c ≤ K) {i p q : Nat} (N : NssL (w.drop i) p) (M : NssL ((turnW K w).drop i) q) : p = 1 ∨ q = 1 := by
  by_cases hp : p = 1
  · exact .inl hp
  · by_cases hq : q = 1
    · exact .inr hq
    · exfalso
      have p0 := N.pos; have q0 := M.pos
      obtain ⟨t, b, h1, h2, h3⟩ := ltL_to (N.low 1 (by omega) (by omega))
      obtain ⟨u, d, k1, k2, k3⟩ := ltL_to (M.low 1 (by omega) (by omega))
      simp only [List.drop_drop, List.getElem?_drop] at h1 h2 h3 k1 k2 k3
      have hb : ∃ a, w[i + t]? = some a := by
        have : i + 1 + t < w.length := (List.getElem?_eq_some_iff.mp h2).1
        exact ⟨_, List.getElem?_eq_getElem (show i + t < w.length by omega)⟩
      obtain ⟨a, ha⟩ := hb
      have hab := h3 a ha
      have hd : ∃ c, w[i + u]? = some c := by
        have : i + 1 + u < (turnW K w).length := (List.getElem?_eq_some_iff.mp k2).1
        rw [turn_len] at this
        exact ⟨_, List.getElem?_eq_getElem (show i + u < w.length by omega)⟩
      obtain ⟨c, hc⟩ := hd
      have kc : (turnW K w)[i + u]? = some (K - c) := by simp [turnW, hc]
      have hcd := k3 _ kc
      rcases Nat.lt_trichotomy t u with l | l | l
      · have := (turn_eq hK _ _).mp (k1 t l)
        rw [ha, h2] at this
        simp at this; omega
      · subst l
        rw [ha] at hc
        have e2 : (turnW K w)[i + 1 + t]? = some (K - b) := by simp [turnW, h2]
        rw [e2] at k2
        simp at hc k2
        omega
      · have := h1 u l
        have e : (turnW K w)[i + u]? = (turnW K w)[i + 1 + u]? := (turn_eq hK _ _).mpr this
        rw [kc, k2] at e
        simp at e; omega

/-- a sign alone, and a longer piece, of which both stretches begin ahead: no -/
theorem not_both {w : List Nat} {i p q f l f' l' : Nat} (M : NssL (w.drop i) q) (hp : p = 1) (hq : q ≠ 1) (S : Strt w i p f l) (S' : Strt w i q f' l') (h : f < i) (h' : f' < i) : False := by
  have q0 := M.pos
  have a1 := S.il; have a2 := S'.il
  subst hp
  have e1 := S.per (i - 1) (by omega) (by omega)
  have e2 := S'.per (i - 1) (by omega) (by omega)
  refine M.noBorder (q := q - 1) (by omega) (by omega) ?_
  rw [show q - (q - 1) = 1 by omega]
  refine List.ext_getElem? fun t => ?_
  rw [List.getElem?_take, List.getElem?_take]
  by_cases ht : t < 1
  · have : t = 0 := by omega
    subst this
    rw [if_pos ht, if_pos ht, List.getElem?_drop, List.getElem?_drop, List.getElem?_drop]
    rw [show i - 1 + 1 = i by omega] at e1
    rw [show i - 1 + q = i + (q - 1) by omega] at e2
    simp only [Nat.add_zero]
    rw [← e2, e1]
  · rw [if_neg ht, if_neg ht]
theorem runs_once {K : Nat} {w : List Nat} (hK : ∀ c ∈ w, c ≤ K) {i p q f l f' l' : Nat} (N : NssL (w.drop i) p) (M : NssL ((turnW K w).drop i) q) (S : Strt w i p f l) (S' : Strt w i q f' l') (h : f < i) (h' : f' < i) :
    p = q ∧ f = f' ∧ l = l' := by
  have e : p = q := by
    rcases one_of_two hK N M with e | e
    · by_cases hq : q = 1
      · omega
      · exact (not_both M e hq (turn_strt hK S) (turn_strt hK S') h h').elim
    · by_cases hp : p = 1
      · omega
      · exact (not_both N e hp S' S h' h).elim
  subst e
  exact ⟨rfl, S.uniq S'⟩
end Mine
end

section
open PySem PySem.W PyProof.Rows
set_option maxRecDepth 100000
set_option linter.unusedSimpArgs false
namespace Mine

theorem per_mod {w : List Nat} {f l p : Nat} (hp : 0 < p) (h : Per w f l p) : ∀ r, f + r < l → w[f + r]? = w[f + r % p]? := by
  intro r
  induction r using Nat.strongRecOn with
  | _ r ih =>
    intro hr
    by_cases hrp : r < p
    · rw [Nat.mod_eq_of_lt hrp]
    · have h1 := h (f + (r - p)) (by omega) (by omega)
      rw [show f + (r - p) + p = f + r by omega] at h1
      rw [← h1, ih (r - p) (by omega) (by omega), Nat.mod_eq_sub_mod (show p ≤ r by omega)]

theorem exists_min {p : Nat} (R : Nat → List Nat) (hp : 0 < p) : ∃ j, 0 < j ∧ j ≤ p ∧ ∀ k, 0 < k → k ≤ p → ltL (R k) (R j) = false := by
  induction p with
  | zero => omega
  | succ n ih =>
    by_cases hn : n = 0
    · subst hn
      exact ⟨1, by omega, by omega, fun k h1 h2 => by
        have : k = 1 := by omega
        subst this; exact ltL_irr _⟩
    · obtain ⟨j, h0, h1, h2⟩ := ih (by omega)
      cases hl : ltL (R (n + 1)) (R j) with
      | false =>
        refine ⟨j, h0, by omega, fun k k0 k1 => ?_⟩
        by_cases e : k = n + 1
        · subst e; exact hl
        · exact h2 k k0 (by omega)
      | true =>
        refine ⟨n + 1, by omega, by omega, fun k k0 k1 => ?_⟩
        by_cases e : k = n + 1
        · subst e; exact ltL_irr _
        · cases q : ltL (R k) (R (n + 1)) with
          | false => rfl
          | true =>
            have := ltL_trans q hl
            rw [h2 k k0 (by omega)] at this; cases this

section
variable (c : Nat → Nat) (p : Nat)
/-- the turn of a root that begins at j -/
noncomputable def turnR (j : Nat) : List Nat := (List.range p).map fun t => c (j + t)
variable {c p}
theorem turnR_len (j : Nat) : (turnR c p j).length = p := by simp [turnR]
theorem turnR_get {j t : Nat} (h : t < p) : (turnR c p j)[t]? = some (c (j + t)) := by simp [turnR, h]
theorem turnR_eq {j k : Nat} (h : turnR c p j = turnR c p k) {t : Nat} (ht : t < p) : c (j + t) = c (k + t) := by
  have h1 := turnR_get (c := c) (j := j) ht
  have h2 := turnR_get (c := c) (j := k) ht
  rw [h, h2] at h1
  simp at h1; exact h1.symm
theorem turnR_lt {j k : Nat} (h : ltL (turnR c p j) (turnR c p k) = true) : ∃ t, t < p ∧ (∀ s, s < t → c (j + s) = c (k + s)) ∧ c (j + t) < c (k + t) := by
  obtain ⟨t, b, h1, h2, h3⟩ := ltL_to h
  have ht : t < p := by
    have := (List.getElem?_eq_some_iff.mp h2).1
    rwa [turnR_len] at this
  refine ⟨t, ht, fun s hs => ?_, ?_⟩
  · have := h1 s hs
    rw [turnR_get (by omega), turnR_get (by omega)] at this
    simpa using this
  · rw [turnR_get ht] at h2
    have := h3 _ (turnR_get ht)
    simp at h2; omega
theorem turnR_of {j k t : Nat} (ht : t < p) (h : ∀ s, s < t → c (j + s) = c (k + s)) (h2 : c (j + t) < c (k + t)) : ltL (turnR c p j) (turnR c p k) = true :=
  ltL_of (t := t) (b := c (k + t)) (fun s hs => by rw [turnR_get (by omega), turnR_get (by omega), h s hs]) (turnR_get ht) (fun a ha => by
    rw [turnR_get ht] at ha
    simp at ha; omega)
end

/-- a run whose end is lower than what stands a step ahead of it holds, behind its first place, a piece as long as its step -/
theorem Run.root {w : List Nat} {f l p : Nat} (h : Run w f l p) (hr : l = w.length ∨ ∃ a b, w[l]? = some a ∧ w[l - p]? = some b ∧ a < b) :
    ∃ i, f < i ∧ i + p ≤ l ∧ NssL (w.drop i) p := by
  have p0 := h.pos; have hfl := h.fl; have hln := h.ln
  generalize hc : (fun r : Nat => (w[f + r % p]?).getD 0) = c
  have cper : ∀ r, c (r + p) = c r := fun r => by rw [← hc]; simp
  have cw : ∀ r, f + r < l → w[f + r]? = some (c r) := fun r hr => by
    have e := per_mod p0 h.per r hr
    have hb : f + r % p < w.length := by
      have := Nat.mod_le r p
      omega
    rw [e, ← hc]
    simp [List.getElem?_eq_getElem hb]
  have Rper : ∀ j, turnR c p (j + p) = turnR c p j := fun j => by
    refine List.map_congr_left fun t _ => ?_
    rw [show j + p + t = j + t + p by omega, cper]
  -- two turns are not the same
  have inj : ∀ j k, j < k → k < j + p → turnR c p j ≠ turnR c p k := fun j k h1 h2 e => by
    refine h.least (k - j) (by omega) (by omega) fun t ht1 ht2 => ?_
    obtain ⟨r, rfl⟩ : ∃ r, t = f + r := ⟨t - f, by omega⟩
    rw [show f + r + (k - j) = f + (r + (k - j)) by omega, cw r (by omega), cw _ (by omega)]
    -- a sign of the turn at j that stands at a place like r
    have key : ∀ s, c (j + s) = c (k + s) := fun s => by
      have e1 : ∀ x, c x = c (x % p) := fun x => by rw [← hc]; simp
      have e3 : ∀ a : Nat, c (a + s) = c (a + s % p) := fun a => by
        rw [e1 (a + s), e1 (a + s % p)]; simp [Nat.add_mod]
      rw [e3 j, e3 k]
      exact turnR_eq e (Nat.mod_lt _ p0)
    have e1 : ∀ m x, c (x + m * p) = c x := fun m => by
      induction m with
      | zero => intro x; simp
      | succ m ih => intro x; rw [Nat.succ_mul, ← Nat.add_assoc, cper, ih]
    have k1 := key (r + j * p - j)
    have hjp : j ≤ j * p := Nat.le_mul_of_pos_right j p0
    rw [show j + (r + j * p - j) = r + j * p by omega, show k + (r + j * p - j) = (r + (k - j)) + j * p by omega, e1, e1] at k1
    rw [k1]
  obtain ⟨j, j0, j1, hmin⟩ := exists_min (turnR c p) p0
  have hall : ∀ k, ltL (turnR c p k) (turnR c p j) = false := fun k => by
    have e : turnR c p (k + p) = turnR c p (k % p + p) := by
      have : ∀ m x, turnR c p (x + m * p) = turnR c p x := fun m => by
        induction m with
        | zero => intro x; simp
        | succ m ih => intro x; rw [Nat.succ_mul, ← Nat.add_assoc, Rper, ih]
      rw [Rper, Rper]
      have := this (k / p) (k % p)
      rw [Nat.mul_comm, Nat.mod_add_div] at this
      exact this
    rw [← Rper k, e, Rper]
    by_cases hz : k % p = 0
    · have := hmin p p0 (Nat.le_refl _)
      have e2 := Rper 0
      rw [Nat.zero_add] at e2
      rw [hz, ← e2]; exact this
    · exact hmin (k % p) (by omega) (Nat.le_of_lt (Nat.mod_lt _ p0))
  refine ⟨f + j, by omega, by omega, p0, by simp; omega, fun q q0 q1 => ?_, ?_⟩
  · have hlt : ltL (turnR c p j) (turnR c p (j + q)) = true := by
      cases hl : ltL (turnR c p j) (turnR c p (j + q)) with
      | true => rfl
      | false => exact absurd (ltL_tri hl (hall _)) (inj j (j + q) (by omega) (by omega))
    obtain ⟨t, ht, h1, h2⟩ := turnR_lt hlt
    by_cases hq : q + t < p
    · refine ltL_of (t := t) (b := c (j + q + t)) (fun s hs => ?_) ?_ (fun a ha => ?_)
      · rw [List.drop_drop, List.getElem?_drop, List.getElem?_drop, show f + j + s = f + (j + s) by omega, show f + j + q + s = f + (j + q + s) by omega, cw _ (by omega), cw _ (by omega), h1 s hs]
      · rw [List.drop_drop, List.getElem?_drop, show f + j + q + t = f + (j + q + t) by omega, cw _ (by omega)]
      · rw [List.getElem?_drop, show f + j + t = f + (j + t) by omega, cw _ (by omega)] at ha
        simp at ha; omega
    · -- a border: a turn that is less
      exfalso
      have hlt2 : ltL (turnR c p (j + (p - q))) (turnR c p j) = true := by
        refine turnR_of (t := t - (p - q)) (by omega) (fun s hs => ?_) ?_
        · have := h1 (p - q + s) (by omega)
          rw [show j + q + (p - q + s) = j + s + p by omega, cper] at this
          rw [← this]; congr 1; omega
        · rw [show j + q + t = j + (t - (p - q)) + p by omega, cper] at h2
          rw [show j + (p - q) + (t - (p - q)) = j + t by omega]
          exact h2
      rw [hall] at hlt2; cases hlt2
  · rw [List.drop_drop]
    have hlen : f + j + p ≤ l := by omega
    have same : ∀ s, s < l - (f + j + p) → (w.drop (f + j + p))[s]? = (w.drop (f + j))[s]? := fun s hs => by
      rw [List.getElem?_drop, List.getElem?_drop]
      have := h.per (f + j + s) (by omega) (by omega)
      rw [this]; congr 1; omega
    rcases hr with e | ⟨a, b, ha, hb, hab⟩
    · have hb : ∃ b, w[l - p]? = some b := ⟨_, List.getElem?_eq_getElem (by omega)⟩
      obtain ⟨b, hb⟩ := hb
      refine ltL_of (t := l - (f + j + p)) (b := b) same ?_ (fun a ha => ?_)
      · rw [List.getElem?_drop, show f + j + (l - (f + j + p)) = l - p by omega, hb]
      · rw [List.getElem?_drop, show f + j + p + (l - (f + j + p)) = l by omega, e] at ha
        simp at ha
    · refine ltL_of (t := l - (f + j + p)) (b := b) same ?_ (fun a' ha' => ?_)
      · rw [List.getElem?_drop, show f + j + (l - (f + j + p)) = l - p by omega, hb]
      · rw [List.getElem?_drop, show f + j + p + (l - (f + j + p)) = l by omega, ha] at ha'
        simp at ha'; omega

/-- each run is a stretch of one of the two words, from a place behind its first one -/
theorem Run.found {K : Nat} {w : List Nat} (hK : ∀ c ∈ w, c ≤ K) {f l p : Nat} (h : Run w f l p) :
    ∃ i, f < i ∧ Strt w i p f l ∧ (NssL (w.drop i) p ∨ NssL ((turnW K w).drop i) p) := by
  have p0 := h.pos; have hfl := h.fl; have hln := h.ln
  by_cases hlt : l = w.length ∨ ∃ a b, w[l]? = some a ∧ w[l - p]? = some b ∧ a < b
  · obtain ⟨i, h1, h2, h3⟩ := h.root hlt
    exact ⟨i, h1, h.strt (by omega) h2, .inl h3⟩
  · have h4 : l = (turnW K w).length ∨ ∃ a b, (turnW K w)[l]? = some a ∧ (turnW K w)[l - p]? = some b ∧ a < b := by
      rcases h.rgt with e | e
      · exact .inl (by rw [turn_len]; exact e)
      · refine .inr ?_
        have hlw : l < w.length := by
          rcases Nat.lt_or_ge l w.length with q | q
          · exact q
          · exact absurd (.inl (by omega)) hlt
        have ea := List.getElem?_eq_getElem hlw
        have eb := List.getElem?_eq_getElem (show l - p < w.length by omega)
        have ka := hK _ (List.getElem_mem hlw)
        have kb := hK _ (List.getElem_mem (show l - p < w.length by omega))
        refine ⟨K - w[l], K - w[l - p], by simp [turnW, ea], by simp [turnW, eb], ?_⟩
        rcases Nat.lt_trichotomy w[l] w[l - p] with q | q | q
        · exact absurd (.inr ⟨_, _, ea, eb, q⟩) hlt
        · exact absurd (by rw [ea, eb, q]) e
        · omega
    obtain ⟨i, h1, h2, h3⟩ := (turn_run hK h).root h4
    exact ⟨i, h1, h.strt (by omega) h2, .inr h3⟩
end Mine
end

section
open PySem PySem.W PyProof.Rows
set_option maxRecDepth 100000
set_option linter.unusedSimpArgs false
set_option maxHeartbeats 1000000
namespace Mine

theorem ofString_inj {a b : String} (h : Str.ofString a = Str.ofString b) : a = b := by
  rw [Str.ofString_eq_toList, Str.ofString_eq_toList] at h
  have h1 : a.toList.map Char.toNat = b.toList.map Char.toNat := by simpa using h
  have h2 : a.toList = b.toList := List.map_inj_right (fun x y e => Char.toNat_inj.mp e) |>.mp h1
  exact String.toList_inj.mp h2
theorem ofString_beq (a b : String) : (Str.ofString a == Str.ofString b) = (a == b) := by
  by_cases h : a = b
  · subst h; simp
  · rw [beq_eq_false_iff_ne.mpr h, beq_eq_false_iff_ne.mpr fun e => h (ofString_inj e)]
theorem ofString_eq (a b : String) : (Str.ofString a = Str.ofString b) = (a = b) := propext ⟨ofString_inj, fun h => by rw [h]⟩

section
variable {O : Oracle} {m : Loc} {σ : Sto} {p q : Pos} {k : Nat}
theorem bind1_some {α β : Type} (a : α) (f : α → Option β) : bind1 (some a) f = f a := rfl
theorem bind2_some {α β γ : Type} (a : α) (b : β) (f : α → β → Option γ) : bind2 (some (a, b)) f = f a b := rfl
theorem ev_const (c : Const) : ev O m (.Constant c k p) σ = bind1 (constAV c) fun v => some (v, σ) := rfl
theorem const_int (i : Int) : constAV (.int i) = some (.int i) := rfl
theorem const_str (s : Str) : constAV (.str s) = some (.str s.cps.toList) := rfl
theorem ev_name (x : Str) : ev O m (.Name x p) σ = bind1 (m.lookup x) fun v => some (v, σ) := rfl
theorem ev_boolop (op : BoolOp) (vs : List PySem.Expr) : ev O m (.BoolOp op vs p) σ = evBool O m op vs σ := rfl
theorem ev_binop (l r : PySem.Expr) (op : Operator) : ev O m (.BinOp l op r p) σ = bind2 (ev O m l σ) fun a σ1 => bind2 (ev O m r σ1) fun b σ2 => binop op a b σ2 := rfl
theorem ev_usub (x : PySem.Expr) : ev O m (.UnaryOp .USub x p) σ = bind2 (ev O m x σ) fun v σ1 => bind1 (asInt v) fun i => some (.int (-i), σ1) := rfl
theorem ev_list (es : List PySem.Expr) : ev O m (.List es p) σ = bind2 (evs O m es σ) fun vs σ1 => if sizeOk vs.length then some (.ref σ1.length, σ1 ++ [.list vs]) else none := rfl
theorem ev_tuple (es : List PySem.Expr) : ev O m (.Tuple es k p) σ = bind2 (evs O m es σ) fun vs σ1 => if sizeOk vs.length then some (.tup vs, σ1) else none := rfl
theorem ev_cmp (l r : PySem.Expr) (op : CmpOp) : ev O m (.Compare l [op] [r] p) σ = if isQ l then (if isQ r then bind2 (evQ O m l σ) fun a σ1 => bind2 (evQ O m r σ1) fun b σ2 => bind1 (cmpQ op a b) fun c => some (.bool c, σ2) else none)
      else bind2 (ev O m l σ) fun a σ1 => bind2 (ev O m r σ1) fun b σ2 => bind1 (cmpop op a b σ2) fun c => some (.bool c, σ2) := rfl
theorem isQ_name (x : Str) : isQ (.Name x p) = false := rfl
theorem isQ_const (c : Const) : isQ (.Constant c k p) = false := rfl
theorem isQ_sub (v i : PySem.Expr) : isQ (.Subscript v i p) = false := rfl
theorem isQ_bin (l r : PySem.Expr) (op : Operator) : isQ (.BinOp l op r p) = false := rfl
theorem isQ_comp (e : PySem.Expr) (g : List Comprehension) (s : Scope) : isQ (.ListComp e g s p) = false := rfl
theorem isQ_attr (o : PySem.Expr) (x : Str) (args : List PySem.Expr) (ks : List Keyword) : isQ (.Call (.Attribute o x p) args ks q) = false := rfl
theorem isQ_call (x : Str) (args : List PySem.Expr) (ks : List Keyword) : isQ (.Call (.Name x p) args ks q) = (x == qname && args.length == 1 && ks.isEmpty) := rfl
theorem evQ_call (f : PySem.Expr) (args : List PySem.Expr) (ks : List Keyword) : evQ O m (.Call f args ks p) σ = bind2 (evs O m args σ) fun vs σ1 => bind1 (one vs) fun v => some (v, σ1) := rfl
theorem one_one (v : AV) : one [v] = some v := rfl
theorem ev_callN (g : Str) (args : List PySem.Expr) : ev O m (.Call (.Name g p) args [] q) σ = if (m.lookup g).isSome then none else bind2 (evs O m args σ) fun vs σ1 => match bifOf g with
          | some b => builtin O b vs σ1
          | none => O g vs σ1 := rfl
theorem ev_callA (o : PySem.Expr) (x : Str) (args : List PySem.Expr) : ev O m (.Call (.Attribute o x p) args [] q) σ = bind1 (mthOf x) fun mt => bind2 (ev O m o σ) fun ov σ1 => if recv mt ov σ1 then (bind2 (evs O m args σ1) fun vs σ2 => methCall O mt ov vs σ2) else none := rfl
theorem ev_subSl (v : PySem.Expr) (lo hi st : Option PySem.Expr) : ev O m (.Subscript v (.Slice lo hi st q) p) σ = bind2 (ev O m v σ) fun a σ1 => bind2 (evOpt O m lo σ1) fun x σ2 => bind2 (evOpt O m hi σ2) fun y σ3 => bind2 (evOpt O m st σ3) fun z σ4 =>
      bind1 (bound x) fun x' => bind1 (bound y) fun y' => bind1 (bound z) fun z' => slc a x' y' z' σ4 := by
  show bind2 (ev O m v σ) (fun a σ1 => bind2 (bind2 (evOpt O m lo σ1) fun x σ2 => bind2 (evOpt O m hi σ2) fun y σ3 => bind2 (evOpt O m st σ3) fun z σ4 =>
      bind1 (bound x) fun x' => bind1 (bound y) fun y' => bind1 (bound z) fun z' => some ((x', y', z'), σ4)) fun z σ4 => slc a z.1 z.2.1 z.2.2 σ4) = _
  congr 1; funext a σ1
  cases evOpt O m lo σ1 with
  | none => rfl
  | some r => cases r with | mk x σ2 =>
    simp only [bind2_some]
    cases evOpt O m hi σ2 with
    | none => rfl
    | some r => cases r with | mk y σ3 =>
      simp only [bind2_some]
      cases evOpt O m st σ3 with
      | none => rfl
      | some r => cases r with | mk z σ4 =>
        simp only [bind2_some]
        cases bound x with
        | none => rfl
        | some x' =>
          cases bound y with
          | none => rfl
          | some y' => cases bound z <;> rfl
theorem ev_subN (v : PySem.Expr) (x : Str) : ev O m (.Subscript v (.Name x q) p) σ = bind2 (ev O m v σ) fun a σ1 => bind2 (ev O m (.Name x q) σ1) fun b σ2 => bind1 (subs a b σ2) fun v => some (v, σ2) := rfl
theorem ev_subC (v : PySem.Expr) (c : Const) : ev O m (.Subscript v (.Constant c k q) p) σ = bind2 (ev O m v σ) fun a σ1 => bind2 (ev O m (.Constant c k q) σ1) fun b σ2 => bind1 (subs a b σ2) fun v => some (v, σ2) := rfl
theorem ev_subB (v l r : PySem.Expr) (op : Operator) : ev O m (.Subscript v (.BinOp l op r q) p) σ = bind2 (ev O m v σ) fun a σ1 => bind2 (ev O m (.BinOp l op r q) σ1) fun b σ2 => bind1 (subs a b σ2) fun v => some (v, σ2) := rfl
theorem evs_nil : evs O m [] σ = some ([], σ) := rfl
theorem evs_cons (e : PySem.Expr) (r : List PySem.Expr) : evs O m (e :: r) σ = bind2 (ev O m e σ) fun v σ1 => bind2 (evs O m r σ1) fun vs σ2 => some (v :: vs, σ2) := rfl
theorem evOpt_none : evOpt O m none σ = some (none, σ) := rfl
theorem evOpt_some (e : PySem.Expr) : evOpt O m (some e) σ = bind2 (ev O m e σ) fun v σ1 => some (some v, σ1) := rfl
theorem evBool_one (op : BoolOp) (e : PySem.Expr) : evBool O m op [e] σ = ev O m e σ := rfl
theorem evBool_cons (op : BoolOp) (e b : PySem.Expr) (r : List PySem.Expr) : evBool O m op (e :: b :: r) σ = bind2 (ev O m e σ) fun v σ1 => bind1 (asBool v) fun c => if stops op c then some (.bool c, σ1) else evBool O m op (b :: r) σ1 := rfl
theorem stops_and (b : Bool) : stops .And b = !b := rfl
theorem tr_not (x : PySem.Expr) (w : Option (AV × Sto)) : tr O m (.UnaryOp .Not x p) σ w = bind2 (tr O m x σ (ev O m x σ)) fun b σ1 => some (!b, σ1) := rfl
theorem tr_boolop (op : BoolOp) (vs : List PySem.Expr) (w : Option (AV × Sto)) : tr O m (.BoolOp op vs p) σ w = trAll O m op vs σ := rfl
theorem tr_cmp (l : PySem.Expr) (ops : List CmpOp) (rs : List PySem.Expr) (w : Option (AV × Sto)) : tr O m (.Compare l ops rs p) σ w = byV w := rfl
theorem tr_name (x : Str) (w : Option (AV × Sto)) : tr O m (.Name x p) σ w = byV w := rfl
theorem trAll_nil (op : BoolOp) : trAll O m op [] σ = some (stops op false, σ) := rfl
theorem trAll_cons (op : BoolOp) (e : PySem.Expr) (r : List PySem.Expr) : trAll O m op (e :: r) σ = bind2 (tr O m e σ (ev O m e σ)) fun b σ1 => if stops op b then some (b, σ1) else trAll O m op r σ1 := rfl
theorem trs_nil : trs O m [] σ = some (true, σ) := rfl
theorem trs_cons (e : PySem.Expr) (r : List PySem.Expr) : trs O m (e :: r) σ = bind2 (tr O m e σ (ev O m e σ)) fun b σ1 => if b then trs O m r σ1 else some (false, σ1) := rfl
theorem byV_bool (b : Bool) : byV (some (.bool b, σ)) = some (b, σ) := rfl
theorem as_int (i : Int) : asInt (.int i) = some i := rfl
theorem as_bool (b : Bool) : asBool (.bool b) = some b := rfl
theorem ex_assign (x : Str) (e : PySem.Expr) : ex O m (.Assign [.Name x q] e p) σ = bind2 (ev O m e σ) fun v σ1 => some (.next, setL m x v, σ1) := rfl
theorem ex_expr (e : PySem.Expr) : ex O m (.Expr e p) σ = bind2 (ev O m e σ) fun _ σ1 => some (.next, m, σ1) := rfl
theorem ex_return (e : PySem.Expr) : ex O m (.Return (some e) p) σ = bind2 (ev O m e σ) fun v σ1 => some (.ret v, m, σ1) := rfl
theorem ex_if (t : PySem.Expr) (b o : List PySem.Stmt) : ex O m (.If t b o p) σ = bind2 (tr O m t σ (ev O m t σ)) fun c σ1 => if c then exs O m b σ1 else exs O m o σ1 := rfl
theorem ex_break : ex O m (.Break p) σ = some (.brk, m, σ) := rfl
theorem exs_nil : exs O m [] σ = some (.next, m, σ) := rfl
theorem exs_more (s : PySem.Stmt) (r : List PySem.Stmt) : exs O m (s :: r) σ = match ex O m s σ with
    | some (.next, m', σ') => exs O m' r σ'
    | x => x := rfl
theorem add_int' (x y : Int) : binop .Add (.int x) (.int y) σ = some (.int (x + y), σ) := rfl
theorem sub_int' (x y : Int) : binop .Sub (.int x) (.int y) σ = some (.int (x - y), σ) := rfl
theorem mul_int' (x y : Int) : binop .Mult (.int x) (.int y) σ = if intOk x && intOk y then some (.int (x * y), σ) else none := rfl
theorem fdiv_int' (x y : Int) : binop .FloorDiv (.int x) (.int y) σ = if 0 < y ∧ y < 1000000000 then some (.int (x / y), σ) else none := rfl
theorem mod_int2 (x y : Int) : binop .Mod (.int x) (.int y) σ = if 0 < y then some (.int (x % y), σ) else none := rfl
theorem add_str' (x y : List Nat) : binop .Add (.str x) (.str y) σ = if sizeOk (x.length + y.length) then some (.str (x ++ y), σ) else none := rfl
theorem mul_str' (x : Int) (y : List Nat) : binop .Mult (.int x) (.str y) σ = if sizeOk x.natAbs && sizeOk y.length && sizeOk (x.natAbs * y.length) then some (.str (mulText x y), σ) else none := rfl
theorem cmp_eq (a b : AV) : cmpop .Eq a b σ = eqTop a b σ := rfl
theorem cmp_ne (a b : AV) : cmpop .NotEq a b σ = bind1 (eqTop a b σ) fun c => some (!c) := rfl
theorem cmp_notin (a : AV) (r : Nat) : cmpop .NotIn a (.ref r) σ = bind1 (listAt σ r) fun xs => bind1 (anyEq a xs) fun c => some (!c) := rfl
theorem cmp_lt (x y : Int) : cmpop .Lt (.int x) (.int y) σ = some (decide (x < y)) := rfl
theorem cmp_gt (x y : Int) : cmpop .Gt (.int x) (.int y) σ = some (decide (y < x)) := rfl
theorem cmp_le (x y : Int) : cmpop .LtE (.int x) (.int y) σ = some (!decide (y < x)) := rfl
theorem cmp_ge (x y : Int) : cmpop .GtE (.int x) (.int y) σ = some (!decide (x < y)) := rfl
theorem eqTop_int (x y : Int) : eqTop (.int x) (.int y) σ = some (x == y) := rfl
theorem eqTop_str (x y : List Nat) : eqTop (.str x) (.str y) σ = some (x == y) := rfl
theorem eqTop_tup (x y : List AV) : eqTop (.tup x) (.tup y) σ = eq0s x y := rfl
theorem eqTop_ref (r q : Nat) : eqTop (.ref r) (.ref q) σ = bind1 (listAt σ r) fun xs => bind1 (listAt σ q) fun ys => if xs.length = ys.length then eqAVs xs ys else some false := rfl
theorem recv_append (r : Nat) : recv .append (.ref r) σ = (listAt σ r).isSome := rfl
theorem recv_push (r : Nat) : recv .push (.ref r) σ = isAccAt σ r := rfl
theorem recv_pop (r : Nat) : recv .pop (.ref r) σ = isAccAt σ r := rfl
theorem recv_pc (r : Nat) : recv .partCount (.ref r) σ = isAccAt σ r := rfl
theorem recv_join (l : List Nat) : recv .join (.str l) σ = true := rfl
theorem meth_push (r : Nat) (args : List AV) : methCall O .push (.ref r) args σ = if isAccAt σ r then O "#push" (.ref r :: args) σ else none := rfl
theorem meth_pop (r : Nat) (args : List AV) : methCall O .pop (.ref r) args σ = if isAccAt σ r then O "#pop" (.ref r :: args) σ else none := rfl
theorem meth_pc (r : Nat) (args : List AV) : methCall O .partCount (.ref r) args σ = if isAccAt σ r then O "#part_count" (.ref r :: args) σ else none := rfl
theorem b_new (args : List AV) : builtin O .accum args σ = O "#new" args σ := rfl
theorem b_sorted (args : List AV) : builtin O .sorted args σ = O "#sorted" args σ := rfl
theorem bindT_name (x : Str) (v : AV) : bindT (.Name x p) v m = some (setL m x v) := rfl
theorem bindT_tup {p3 : Pos} {x y : Str} (h : x ≠ y) (a b : AV) : bindT (.Tuple [.Name x p, .Name y q] k p3) (.tup [a, b]) m = some (setL (setL m x a) y b) := by
  show (bind2 (if x = y then none else some (x, y)) fun x y => some (setL (setL m x a) y b)) = _
  rw [if_neg h]
  rfl
theorem slc_str' (l : List Nat) (lo hi st : Option Int) : slc (.str l) lo hi st σ = if st = some 0 then none else if sizeOk l.length then some (.str (pickL l lo hi st), σ) else none := rfl
theorem slc_frz (xs : List AV) (lo hi st : Option Int) : slc (.frz xs) lo hi st σ = if st = some 0 then none else if sizeOk xs.length then some (.ref σ.length, σ ++ [.list (pickL xs lo hi st)]) else none := rfl
theorem slc_ref (r : Nat) (lo hi st : Option Int) : slc (.ref r) lo hi st σ = if st = some 0 then none else bind1 (listAt σ r) fun xs => if sizeOk xs.length then some (.ref σ.length, σ ++ [.list (pickL xs lo hi st)]) else none := rfl
theorem bound_i (i : Int) : bound (some (.int i)) = if intOk i then some (some i) else none := rfl
theorem listAt_of {r : Nat} {xs : List AV} (h : σ[r]? = some (.list xs)) : listAt σ r = some xs := by unfold listAt; rw [h]
end
end Mine
end

section
open PySem PySem.W PyProof.Rows
set_option Elab.async false
set_option maxRecDepth 100000
set_option linter.unusedSimpArgs false
set_option maxHeartbeats 8000000
namespace Mine
open_top hd3 for PySem.Challenge.rw_wu0020_03
end Mine
end

section
open PySem PySem.W PyProof.Rows PySem.Calls PySem.SeqAt
set_option maxRecDepth 100000
set_option linter.unusedSimpArgs false
set_option maxHeartbeats 4000000
namespace Mine.L3

noncomputable abbrev K (p : Params) : Frag := Mine.hd3.heap_39 p
noncomputable def fdOf (o : Option Obj) : FuncData := match o with
  | some ⟨_, _, .func fd, _⟩ => fd
  | _ => default
noncomputable def prog : Program := PySem.Challenge.rw_wu0020_03.row.prog
noncomputable def fnOf (f : Str) : Fn := ((defsOf prog f).getD ⟨[], []⟩)
noncomputable def fd (p : Params) (a : Addr) : FuncData := fdOf ((K p).lookup a)
noncomputable def ob (p : Params) (a : Addr) : Obj := ((K p).lookup a).getD default
end Mine.L3
end

section
open PySem PySem.W PyProof.Rows PySem.Calls PySem.SeqAt
set_option maxRecDepth 100000
set_option linter.unusedSimpArgs false
set_option maxHeartbeats 4000000
namespace Mine.L3

noncomputable def N : Nm := ⟨118, 62, 78, 115, fun f => if f = "_indent" then 135 else if f = "_law_steps" then 220 else if f = "_law_stretch" then 227 else if f = "_law_due" then 234 else if f = "law" then 239 else 0⟩
noncomputable def names : List Str := ["_indent", "_law_steps", "_law_stretch", "_law_due", "law"]
noncomputable def kn (g : Str) : Bool := names.contains g
noncomputable def fns (f : Str) : Option Fn := if f = "_law_steps" ∨ f = "_law_stretch" ∨ f = "_law_due" ∨ f = "law" then some (fnOf f) else none

section
variable {w : World} {hB : Heap} {os : OsState} {mg mb : Str → Option Value}

theorem fns_is {f : Str} {fn : Fn} (h : fns f = some fn) : fn = fnOf f ∧ (f = "_law_steps" ∨ f = "_law_stretch" ∨ f = "_law_due" ∨ f = "law") := by
  unfold fns at h
  by_cases q : f = "_law_steps" ∨ f = "_law_stretch" ∨ f = "_law_due" ∨ f = "law"
  · rw [if_pos q] at h; cases h; exact ⟨rfl, q⟩
  · rw [if_neg q] at h; cases h

theorem vcons {vals : List Value} {n : Nat} (h : vals.length = n + 1) : ∃ a t, vals = a :: t ∧ t.length = n := by
  cases vals with
  | nil => cases h
  | cons a t => exact ⟨a, t, rfl, Nat.succ.inj h⟩
theorem one {vals : List Value} (h : vals.length = 1) : ∃ a, vals = [a] := by
  obtain ⟨a, t, e, k⟩ := vcons h
  subst e
  exact ⟨a, by rw [List.eq_nil_of_length_eq_zero k]⟩
theorem two {vals : List Value} (h : vals.length = 2) : ∃ a b, vals = [a, b] := by
  obtain ⟨a, t, e, k⟩ := vcons h
  subst e
  obtain ⟨b, rfl⟩ := one k
  exact ⟨a, b, rfl⟩
theorem three {vals : List Value} (h : vals.length = 3) : ∃ a b c, vals = [a, b, c] := by
  obtain ⟨a, t, e, k⟩ := vcons h
  subst e
  obtain ⟨b, c, rfl⟩ := two k
  exact ⟨a, b, c, rfl⟩

theorem fnAt (KX : (K w.params).In hB) {f : Str} {fn : Fn} (h : fns f = some fn) : N.val f = .ref (N.fn f) ∧ FnAt hB (N.fn f) fn (ob w.params (N.fn f)) (fd w.params (N.fn f)) ∧ okSs kn (fd w.params (N.fn f)).scope fn.body = true := by
  obtain ⟨rfl, hf⟩ := fns_is h
  rcases hf with rfl | rfl | rfl | rfl
  · refine ⟨by kernel_rfl, ⟨KX _ _ (by kernel_rfl), by kernel_rfl, by kernel_rfl, by kernel_rfl, by kernel_rfl, by kernel_rfl, by kernel_rfl, by kernel_rfl, by kernel_rfl, codeRec_of KX (by kernel_rfl), fun vals hv => ?_, of_decide_eq_true (by kernel_rfl), of_decide_eq_true (by kernel_rfl), of_decide_eq_true (by kernel_rfl), of_decide_eq_true (by kernel_rfl)⟩, by kernel_rfl⟩
    obtain ⟨a, b, rfl⟩ := two (hv.trans (by kernel_rfl))
    kernel_rfl
  · refine ⟨by kernel_rfl, ⟨KX _ _ (by kernel_rfl), by kernel_rfl, by kernel_rfl, by kernel_rfl, by kernel_rfl, by kernel_rfl, by kernel_rfl, by kernel_rfl, by kernel_rfl, codeRec_of KX (by kernel_rfl), fun vals hv => ?_, of_decide_eq_true (by kernel_rfl), of_decide_eq_true (by kernel_rfl), of_decide_eq_true (by kernel_rfl), of_decide_eq_true (by kernel_rfl)⟩, by kernel_rfl⟩
    obtain ⟨a, b, c, rfl⟩ := three (hv.trans (by kernel_rfl))
    kernel_rfl
  · refine ⟨by kernel_rfl, ⟨KX _ _ (by kernel_rfl), by kernel_rfl, by kernel_rfl, by kernel_rfl, by kernel_rfl, by kernel_rfl, by kernel_rfl, by kernel_rfl, by kernel_rfl, codeRec_of KX (by kernel_rfl), fun vals hv => ?_, of_decide_eq_true (by kernel_rfl), of_decide_eq_true (by kernel_rfl), of_decide_eq_true (by kernel_rfl), of_decide_eq_true (by kernel_rfl)⟩, by kernel_rfl⟩
    obtain ⟨a, rfl⟩ := one (hv.trans (by kernel_rfl))
    kernel_rfl
  · refine ⟨by kernel_rfl, ⟨KX _ _ (by kernel_rfl), by kernel_rfl, by kernel_rfl, by kernel_rfl, by kernel_rfl, by kernel_rfl, by kernel_rfl, by kernel_rfl, by kernel_rfl, codeRec_of KX (by kernel_rfl), fun vals hv => ?_, of_decide_eq_true (by kernel_rfl), of_decide_eq_true (by kernel_rfl), of_decide_eq_true (by kernel_rfl), of_decide_eq_true (by kernel_rfl)⟩, by kernel_rfl⟩
    obtain ⟨a, rfl⟩ := one (hv.trans (by kernel_rfl))
    kernel_rfl

theorem makes118 (KX : (K w.params).In hB) : MakesL (model prog w) hB 118 := by
  have h118 : ∃ oc od cd sl, (K w.params).lookup 118 = some ⟨oc, od, .cls cd, sl⟩ ∧ cd.abstract = false ∧ cd.hasDel = false ∧ cd.mro.isEmpty = false ∧ cd.hasDict = true := ⟨_, _, _, _, by rfl, by rfl, by rfl, by rfl, by rfl⟩
  obtain ⟨oc, od, cd, sl, a, b⟩ := h118
  refine ⟨⟨oc, od, cd, sl, KX _ _ a, b⟩, .of_peek KX (by kernel_rfl), .of_peek KX (by kernel_rfl), looks_subIn KX (by kernel_rfl), looks_subIn KX (by kernel_rfl), looks_specialIn KX (by kernel_rfl), looks_instIn KX (by kernel_rfl), .of_peek KX (by kernel_rfl)⟩

noncomputable def cdOf (o : Option ClassData) : ClassData := o.getD default
noncomputable def cd118 (p : Params) : ClassData := cdOf (clsIn (K p) 118)
noncomputable def cd209 (p : Params) : ClassData := cdOf (clsIn (K p) 209)
theorem acc118 : AccC prog w (K w.params) 118 (cd118 w.params) :=
  ⟨by kernel_rfl, fun h X => looks_opaque X (by kernel_rfl), by kernel_rfl, by kernel_rfl, by kernel_rfl, by kernel_rfl, by kernel_rfl, by kernel_rfl, by kernel_rfl, fun y => by kernel_rfl⟩
theorem gaK : GaK (K w.params) 118 := ⟨by kernel_rfl, by kernel_rfl⟩
theorem qcls : QCls (K w.params) 209 (cd209 w.params) := by
  constructor <;> first | kernel_rfl | exact fun _ => by kernel_rfl
end
end Mine.L3
end

section
open PySem PySem.W PyProof.Rows PySem.Calls PySem.SeqAt
set_option maxRecDepth 100000
set_option linter.unusedSimpArgs false
set_option maxHeartbeats 4000000
namespace Mine.L3

noncomputable def arOf (fd : FuncData) : Arg := ((fd.params.posonlyargs ++ fd.params.args).head?).getD ⟨"", .none, default⟩
section
variable {w : World} {hB : Heap} {os : OsState} {mg mb : Str → Option Value}

structure Here (w : World) (hB : Heap) (mg mb : Str → Option Value) : Prop where
  K : (K w.params).In hB
  Tg : hB.Ns mainGlobals mg
  Tb : hB.Ns builtinsNs mb
  lim : hB.NoLimit
  bi : ∀ x : Str, x ≠ "__name__" → mb x = bootBuiltins x

theorem bi_of (H : Here w hB mg mb) {x : Str} {v : Value} (h : (x == ("__name__" : Str)) = false) (e : bootBuiltins x = some v) : mb x = some v := (H.bi x (by simpa using h)).trans e

theorem sup55 (H : Here w hB mg mb) : SupFn prog hB mg mb (K w.params) 55 118 (arOf (fd w.params 55)) (fd w.params 55) :=
  ⟨⟨(ob w.params 55).cls, (ob w.params 55).dict, (ob w.params 55).slots, by kernel_rfl⟩, ⟨42, by kernel_rfl, ⟨(ob w.params 42).cls, (ob w.params 42).dict, (ob w.params 42).slots, by kernel_rfl⟩⟩, ⟨_, _, _, _, _, _, _, by rfl, by rfl, by rfl, by kernel_rfl⟩, codeRec_of H.K (by kernel_rfl), by kernel_rfl, by kernel_rfl, by kernel_rfl, of_decide_eq_true (by kernel_rfl), by kernel_rfl, by kernel_rfl, by kernel_rfl, by kernel_rfl, by kernel_rfl, by kernel_rfl, by kernel_rfl, H.Tg, H.Tb, mg_none_of H.K H.Tg (by kernel_rfl), bi_of H (by kernel_rfl) (by kernel_rfl)⟩
theorem sup78 (H : Here w hB mg mb) : SupFn prog hB mg mb (K w.params) 78 118 (arOf (fd w.params 78)) (fd w.params 78) :=
  ⟨⟨(ob w.params 78).cls, (ob w.params 78).dict, (ob w.params 78).slots, by kernel_rfl⟩, ⟨42, by kernel_rfl, ⟨(ob w.params 42).cls, (ob w.params 42).dict, (ob w.params 42).slots, by kernel_rfl⟩⟩, ⟨_, _, _, _, _, _, _, by rfl, by rfl, by rfl, by kernel_rfl⟩, codeRec_of H.K (by kernel_rfl), by kernel_rfl, by kernel_rfl, by kernel_rfl, of_decide_eq_true (by kernel_rfl), by kernel_rfl, by kernel_rfl, by kernel_rfl, by kernel_rfl, by kernel_rfl, by kernel_rfl, by kernel_rfl, H.Tg, H.Tb, mg_none_of H.K H.Tg (by kernel_rfl), bi_of H (by kernel_rfl) (by kernel_rfl)⟩
theorem sup115 (H : Here w hB mg mb) : SupFn prog hB mg mb (K w.params) 115 118 (arOf (fd w.params 115)) (fd w.params 115) :=
  ⟨⟨(ob w.params 115).cls, (ob w.params 115).dict, (ob w.params 115).slots, by kernel_rfl⟩, ⟨42, by kernel_rfl, ⟨(ob w.params 42).cls, (ob w.params 42).dict, (ob w.params 42).slots, by kernel_rfl⟩⟩, ⟨_, _, _, _, _, _, _, by rfl, by rfl, by rfl, by kernel_rfl⟩, codeRec_of H.K (by kernel_rfl), by kernel_rfl, by kernel_rfl, by kernel_rfl, of_decide_eq_true (by kernel_rfl), by kernel_rfl, by kernel_rfl, by kernel_rfl, by kernel_rfl, by kernel_rfl, by kernel_rfl, by kernel_rfl, H.Tg, H.Tb, mg_none_of H.K H.Tg (by kernel_rfl), bi_of H (by kernel_rfl) (by kernel_rfl)⟩

noncomputable def X (w : World) (hB : Heap) (os : OsState) : Cx := ⟨prog, w, hB, os, N, 209, 0, fun _ _ _ => none, kn⟩

theorem body115 : ∃ p0 p1 p2 p3 p4, (fd w.params 115).body = .stmts [.Return (some (.Call (.Attribute (.Call (.Name "super" p0) [] [] p1) "__len__" p2) [] [] p3)) p4] ∧ (p2.endLine == p3.line) = true := ⟨_, _, _, _, _, by rfl, by rfl⟩

theorem accFns (H : Here w hB mg mb) : ∃ p0 p1 p2 p3 p4, AccFns (X w hB os) mg mb (K w.params) (cd118 w.params) (arOf (fd w.params 115)) (fd w.params 115) p0 p1 p2 p3 p4 := by
  obtain ⟨p0, p1, p2, p3, p4, hb, hl⟩ := body115 (w := w)
  exact ⟨p0, p1, p2, p3, p4, ⟨H.K, H.lim, acc118, sup115 H, hb, hl, fun v => by kernel_rfl, kp_of H.K (by kernel_rfl), fun h a dd size vs k at_ pl => meth_of H.K gaK (by kernel_rfl) (by kernel_rfl) (by decide) k at_ pl⟩⟩

theorem pcPrim (H : Here w hB mg mb) {A : Around} {ρ : Rho} {σ : Sto} {s : Shared} {r : Nat} {size : Int} {xs : List AV} {vals : List Value} (hA : AOk 1 A) (G : StG hB os 118 ρ σ s) (R : RelVs hB ρ s.heap [.ref r] vals)
    (hc : σ[r]? = some (.acc size xs)) : wpAny (model prog w) A (call (.ref 115) vals) (PostV hB os 118 ρ s (.int xs.length) σ) Fls s := by
  obtain ⟨p0, p1, p2, p3, p4, FF⟩ := accFns (os := os) H
  exact partcount_ok FF hA G R hc

inductive B78 (w : World) : Prop
  | mk (q1 q2 q3 q4 q5 q6 q7 q8 q9 q10 r0 r1 r2 r3 r4 : Pos) (k0 k1 k2 k3 : Nat) (es : Str) : (fd w.params 78).body = .stmts [.If (.Compare (.Call (.Attribute (.Name (arOf (fd w.params 78)).arg q1) "part_count" q2) [] [] q3) [.Eq] [.Constant (.int 0) k0 q4] q5) [.Return (some (.Tuple [.Constant (.str es) k1 q6, .Constant (.str es) k2 q7] k3 q8)) q9] [] q10,
      .Return (some (.Call (.Attribute (.Call (.Name "super" r0) [] [] r1) "pop" r2) [] [] r3)) r4] → es.cps = #[] → (q2.endLine == q3.line) = true → (r2.endLine == r3.line) = true → B78 w
theorem body78 : B78 w := ⟨_, _, _, _, _, _, _, _, _, _, _, _, _, _, _, _, _, _, _, _, by rfl, by rfl, by rfl, by rfl⟩

theorem popPrim (H : Here w hB mg mb) {A : Around} {ρ : Rho} {σ : Sto} {s : Shared} {r : Nat} {size : Int} {xs : List AV} {vals : List Value} (hA : AOk 2 A) (G : StG hB os 118 ρ σ s) (R : RelVs hB ρ s.heap [.ref r] vals)
    (hc : σ[r]? = some (.acc size xs)) (hsz : sizeOk xs.length = true) {Q : Value → Shared → Prop}
    (hQ0 : xs = [] → ∀ v s', PostV hB os 118 ρ s emptyPair σ v s' → Q v s') (hQ1 : ∀ x, xs.getLast? = some x → ∀ v s', PostV hB os 118 ρ s x (σ.set r (.acc size xs.dropLast)) v s' → Q v s') :
    wpAny (model prog w) A (call (.ref 78) vals) Q Fls s := by
  obtain ⟨p0, p1, p2, p3, p4, FF⟩ := accFns (os := os) H
  obtain ⟨q1, q2, q3, q4, q5, q6, q7, q8, q9, q10, r0, r1, r2, r3, r4, k0, k1, k2, k3, es, hb, he, h1, h2⟩ := body78 (w := w)
  exact pop_ok FF (sup78 H) hb he h1 h2 (by kernel_rfl) (fun v => by kernel_rfl) hA G R hc hsz hQ0 hQ1
end
end Mine.L3
end

section
open PySem PySem.W PyProof.Rows PySem.Calls PySem.SeqAt
set_option maxRecDepth 100000
set_option linter.unusedSimpArgs false
set_option maxHeartbeats 4000000
namespace Mine.L3

section
variable {w : World} {hB : Heap} {os : OsState} {mg mb : Str → Option Value}

inductive F62 (w : World) (hB : Heap) : Prop
  | mk (sn fw st : Str) (p1 p2 p3 p4 p5 p6 p7 : Pos) (k : Nat) : FnAt hB 62 ⟨[sn, fw, st], [.Expr (.Call (.Attribute (.Name sn p1) "append" p2) [.Tuple [.Name fw p3, .Name st p4] k p5] [] p6) p7]⟩ (ob w.params 62) (fd w.params 62) →
    okE kn (fd w.params 62).scope (.Call (.Attribute (.Name sn p1) "append" p2) [.Tuple [.Name fw p3, .Name st p4] k p5] [] p6) = true → (sn ≠ fw ∧ sn ≠ st ∧ fw ≠ st) → F62 w hB
theorem fn62 (KX : (K w.params).In hB) : F62 w hB := by
  refine ⟨_, _, _, _, _, _, _, _, _, _, _, ⟨KX _ _ (by kernel_rfl), by kernel_rfl, by rfl, by kernel_rfl, by kernel_rfl, by kernel_rfl, by kernel_rfl, by kernel_rfl, by kernel_rfl, codeRec_of KX (by kernel_rfl), fun vals hv => ?_, of_decide_eq_true (by kernel_rfl), of_decide_eq_true (by kernel_rfl), of_decide_eq_true (by kernel_rfl), of_decide_eq_true (by kernel_rfl)⟩, by kernel_rfl, of_decide_eq_true (by kernel_rfl)⟩
  obtain ⟨a, b, c, rfl⟩ := three hv
  kernel_rfl

theorem pushPrim (H : Here w hB mg mb) {A : Around} {ρ : Rho} {σ : Sto} {s : Shared} {r : Nat} {size : Int} {xs : List AV} {a b : AV} {vals : List Value} (hA : AOk 1 A) (G : StG hB os 118 ρ σ s) (R : RelVs hB ρ s.heap [.ref r, a, b] vals)
    (hc : σ[r]? = some (.acc size xs)) (hsz : sizeOk xs.length = true) : wpAny (model prog w) A (call (.ref 62) vals) (PostV hB os 118 ρ s .none (σ.set r (.acc size (xs ++ [.tup [a, b]])))) Fls s := by
  obtain ⟨sn, fw, st, p1, p2, p3, p4, p5, p6, p7, k, F, ok, hn⟩ := fn62 H.K
  exact push_ok (X := X w hB os) H.K gaK (by kernel_rfl) (by kernel_rfl) H.lim F ok hn hA G R hc hsz

inductive B55 (w : World) : Prop
  | mk (sz : Str) (p1 p2 p3 p4 r0 r1 r2 r3 r4 : Pos) : (fd w.params 55).body = .stmts [.Assign [.Attribute (.Name (arOf (fd w.params 55)).arg p1) "_initial_size" p2] (.Name sz p3) p4, .Expr (.Call (.Attribute (.Call (.Name "super" r0) [] [] r1) "__init__" r2) [] [] r3) r4] → (r2.endLine == r3.line) = true → (sz == ("__debug__" : Str)) = false → sz ≠ (arOf (fd w.params 55)).arg → (fd w.params 55).scope.names.lookup sz = some .local → (∀ S (x : Addr) (i : Int) (t : Tok), peek (K w.params) S (bindArgs (fd w.params 55) ⟨[.ref x, .int i t], []⟩) = some [((arOf (fd w.params 55)).arg, .ref x), (sz, .int i t)]) → B55 w
theorem body55 : B55 w :=
  ⟨_, _, _, _, _, _, _, _, _, _, by rfl, by rfl, by kernel_rfl, of_decide_eq_true (by kernel_rfl), by kernel_rfl, fun S x i t => by kernel_rfl⟩

theorem newPrim (H : Here w hB mg mb) {A : Around} {ρ : Rho} {σ : Sto} {s : Shared} {size : Int} {vals : List Value} (hA : AOk 2 A) (G : StG hB os 118 ρ σ s) (R : RelVs hB ρ s.heap [.int size] vals) :
    wpAny (model prog w) A (call (.ref 118) vals) (PostV hB os 118 ρ s (.ref σ.length) (σ ++ [.acc size []])) Fls s := by
  obtain ⟨sz, p1, p2, p3, p4, r0, r1, r2, r3, r4, hb, hl, h1, h2, h3, h4⟩ := body55 (w := w)
  exact new_ok (X := X w hB os) H.K H.lim (makes118 H.K) acc118 (sup55 H) (by kernel_rfl) (by kernel_rfl) hb hl (by kernel_rfl) h1 h2 h3 (fun M x i t => .of_peek H.K (h4 _ x i t)) (by kernel_rfl) (fun self => by kernel_rfl) (by kernel_rfl) (by kernel_rfl) (by kernel_rfl) hA G R

theorem pl (a : Addr) (KX : (K w.params).In hB) (h1 : (K w.params).lookup a = some (ob w.params a)) (h2 : (ob w.params a).data = .func (fd w.params a)) (h3 : (fd w.params a).closure = []) (h4 : codeIn (K w.params) (fd w.params a).code (fd w.params a).qualname = true)
    (h5 : (fd w.params a).globals = mainGlobals) (h6 : (fd w.params a).builtins = builtinsNs) (h7 : (fd w.params a).scope.kind = .function) (h8 : ∀ x ∈ (fd w.params a).scope.names, x.2 ≠ .cell) (h9 : (fd w.params a).scope.isCoroutine = false) (h10 : (fd w.params a).scope.isGenerator = false) : PlFn hB a (fd w.params a) :=
  ⟨⟨_, KX _ _ h1, h2⟩, h3, codeRec_of KX h4, h5, h6, h7, h8, h9, h10⟩

theorem patAt (KX : (K w.params).In hB) : PatAt hB 127 := by
  have h : ∃ (o oc : Obj) (c : Addr) (pt fl gi gn : Value) (t0 t6 : Tok) (items : Array Value) (n : Nat), (K w.params).lookup 127 = some o ∧ o.cls = .type "re.Pattern" ∧ o.dict = none ∧ o.data = .fields #[pt, fl, .int 0 t0, gi, gn, .ref c, .int 0 t6] ∧
      (K w.params).lookup c = some oc ∧ oc.data = .seq items n ∧ (items.map Builtin.Re.reRawOf).map (·.toNat) = ic := ⟨_, _, _, _, _, _, _, _, _, _, _, by rfl, by rfl, by rfl, by rfl, by rfl, by rfl, by kernel_rfl⟩
  obtain ⟨o, oc, c, pt, fl, gi, gn, t0, t6, items, n, a, b, c', d, e, f, g⟩ := h
  exact ⟨o, oc, c, pt, fl, gi, gn, t0, t6, items, n, KX _ _ a, b, c', d, KX _ _ e, f, g⟩

inductive B135 (w : World) : Prop
  | mk (g iv sv : Str) (kd : Nat) (p1 p2 p3 p4 p5 p6 p7 p8 : Pos) : (fd w.params 135).body = .stmts [.Return (some (.Call (.Attribute (.Name g p1) "sub" p2) [.BinOp (.Name iv p3) .Mult (.Constant (.str ⟨#[32]⟩) kd p4) p5, .Name sv p6] [] p7)) p8] →
    (p2.endLine == p7.line) = true → ((g == ("__debug__" : Str)) = false ∧ (iv == ("__debug__" : Str)) = false ∧ (sv == ("__debug__" : Str)) = false) → sv ≠ iv →
    ((fd w.params 135).scope.names.lookup g = some .globalImplicit ∧ (fd w.params 135).scope.names.lookup iv = some .local ∧ (fd w.params 135).scope.names.lookup sv = some .local) →
    okEs (fun _ => true) (fd w.params 135).scope [.BinOp (.Name iv p3) .Mult (.Constant (.str ⟨#[32]⟩) kd p4) p5, .Name sv p6] = true →
    (∀ S (a : Str) (t : Tok) (i : Int) (u : Tok), peek (K w.params) S (bindArgs (fd w.params 135) ⟨[.str a t, .int i u], []⟩) = some [(sv, .str a t), (iv, .int i u)]) → nsIn (K w.params) mainGlobals g = some (some (.ref 127)) → B135 w
theorem body135 : B135 w :=
  ⟨_, _, _, _, _, _, _, _, _, _, _, _, by rfl, by rfl, ⟨by kernel_rfl, by kernel_rfl, by kernel_rfl⟩, of_decide_eq_true (by kernel_rfl), ⟨by kernel_rfl, by kernel_rfl, by kernel_rfl⟩, by kernel_rfl, fun S a t i u => by kernel_rfl, by kernel_rfl⟩

theorem indentPrim (H : Here w hB mg mb) {A : Around} {ρ : Rho} {σ : Sto} {s : Shared} {T : List Nat} {i : Int} {vals : List Value} (hA : AOk 2 A) (G : StG hB os 118 ρ σ s) (R : RelVs hB ρ s.heap [.str T, .int i] vals)
    (h1 : T.length ≤ 1000000) (h2 : i.natAbs ≤ 1000000) (h3 : (T.length + 1) * (i.natAbs + 1) ≤ 1000000) : wpAny (model prog w) A (call (.ref 135) vals) (PostV hB os 118 ρ s (.str (indentL i.toNat true T)) σ) Fls s := by
  obtain ⟨va, vb, rfl, ra, rb⟩ := RelVs.two R
  obtain ⟨_, rfl⟩ := ra.strE
  obtain ⟨_, rfl⟩ := rb.intE
  obtain ⟨g, iv, sv, kd, p1, p2, p3, p4, p5, p6, p7, p8, hb, hl, hd, hne, hk, hok, hbd, hg⟩ := body135 (w := w)
  have F : PlFn hB 135 (fd w.params 135) := pl 135 H.K (by kernel_rfl) (by kernel_rfl) (by kernel_rfl) (by kernel_rfl) (by kernel_rfl) (by kernel_rfl) (by kernel_rfl) (of_decide_eq_true (by kernel_rfl)) (by kernel_rfl) (by kernel_rfl)
  refine wpAny_mono (indent_goes F H.lim hb hl hd hne hk hok (fun M a t i u => .of_peek H.K (hbd _ a t i u)) H.Tg (mg_of H.K H.Tg hg) (patAt H.K) G.base hA.room h1 h2 h3) (fun v s' h => ?_) fun _ _ x => x
  obtain ⟨⟨tv, rfl⟩, g⟩ := h
  obtain ⟨G', T'⟩ := g.step G
  exact ⟨ρ, T', G', .str _ _⟩
end
end Mine.L3
end

section
open PySem PySem.W PyProof.Rows PySem.Calls PySem.SeqAt
set_option maxRecDepth 100000
set_option linter.unusedSimpArgs false
set_option maxHeartbeats 4000000
namespace Mine.L3

/-- where a class's own def lies -/
noncomputable def defAt (p : Params) (C : Addr) (x : Str) : Addr := match findIn (K p) (.ref C) x with
  | some (some (.ref a)) => a
  | _ => 0

section
variable {w : World} {hB : Heap} {os : OsState} {mg mb : Str → Option Value}

theorem qfnGe (H : Here w hB mg mb) : ∃ g fd sn on, QFn (X w hB os) (K w.params) .GtE g fd sn on := by
  refine ⟨defAt w.params 209 "__ge__", fd w.params (defAt w.params 209 "__ge__"), _, _, pl _ H.K (by kernel_rfl) (by kernel_rfl) (by kernel_rfl) (by kernel_rfl) (by kernel_rfl) (by kernel_rfl) (by kernel_rfl) (of_decide_eq_true (by kernel_rfl)) (by kernel_rfl) (by kernel_rfl),
    by kernel_rfl, by kernel_rfl, ⟨_, _, _, _, _, _, _, _, _, _, _, _, by rfl⟩, of_decide_eq_true (by kernel_rfl), ⟨by kernel_rfl, by kernel_rfl⟩, by kernel_rfl, by kernel_rfl, by kernel_rfl, by kernel_rfl, fun a b => by kernel_rfl⟩
theorem qfnLe (H : Here w hB mg mb) : ∃ g fd sn on, QFn (X w hB os) (K w.params) .LtE g fd sn on := by
  refine ⟨defAt w.params 209 "__le__", fd w.params (defAt w.params 209 "__le__"), _, _, pl _ H.K (by kernel_rfl) (by kernel_rfl) (by kernel_rfl) (by kernel_rfl) (by kernel_rfl) (by kernel_rfl) (by kernel_rfl) (of_decide_eq_true (by kernel_rfl)) (by kernel_rfl) (by kernel_rfl),
    by kernel_rfl, by kernel_rfl, ⟨_, _, _, _, _, _, _, _, _, _, _, _, by rfl⟩, of_decide_eq_true (by kernel_rfl), ⟨by kernel_rfl, by kernel_rfl⟩, by kernel_rfl, by kernel_rfl, by kernel_rfl, by kernel_rfl, fun a b => by kernel_rfl⟩

theorem qall (H : Here w hB mg mb) : QAll (X w hB os) (K w.params) (cd209 w.params) mg mb :=
  ⟨H.K, H.lim, qcls, H.Tg, H.Tb, ⟨mg_none_of H.K H.Tg (by kernel_rfl), bi_of H (by kernel_rfl) (by kernel_rfl)⟩, mg_of H.K H.Tg (by kernel_rfl), qfnGe H, qfnLe H⟩

theorem body150 : ∃ tg tx ar : Str, ∃ q1 q2 p1 p2 p3 p4 : Pos, ∃ bi, (fd w.params 150).body = .stmts [.If (.Name tg q1) bi [] q2, .Assign [.Attribute (.Name ar p1) "text" p2] (.Name tx p3) p4] ∧
    (ar == ("__debug__" : Str)) = false ∧ (tx == ("__debug__" : Str)) = false ∧ (tg == ("__debug__" : Str)) = false ∧ (tx ≠ ar ∧ tg ≠ ar ∧ tg ≠ tx) ∧
    ((fd w.params 150).scope.names.lookup ar = some .local ∧ (fd w.params 150).scope.names.lookup tx = some .local ∧ (fd w.params 150).scope.names.lookup tg = some .local) ∧
    (∀ S (x : Addr) (a : Str) (t : Tok), peek (K w.params) S (bindArgs (fd w.params 150) ⟨[.ref x, .str a t], []⟩) = some [(ar, .ref x), (tx, .str a t), (tg, .none)]) :=
  ⟨_, _, _, _, _, _, _, _, _, _, by rfl, by kernel_rfl, by kernel_rfl, by kernel_rfl, of_decide_eq_true (by kernel_rfl), ⟨by kernel_rfl, by kernel_rfl, by kernel_rfl⟩, fun S x a t => by kernel_rfl⟩

theorem qok (H : Here w hB mg mb) : QOk prog w hB os N 209 1 := by
  obtain ⟨tg, tx, ar, q1, q2, p1, p2, p3, p4, bi, hb, h1, h2, h3, h4, h5, h6⟩ := body150 (w := w)
  have F : PlFn hB 150 (fd w.params 150) := pl 150 H.K (by kernel_rfl) (by kernel_rfl) (by kernel_rfl) (by kernel_rfl) (by kernel_rfl) (by kernel_rfl) (by kernel_rfl) (of_decide_eq_true (by kernel_rfl)) (by kernel_rfl) (by kernel_rfl)
  exact q_ok (qall (os := os) H) F (by kernel_rfl) (by kernel_rfl) hb h1 h2 h3 h4 h5 fun M x a t => .of_peek H.K (h6 _ x a t)

theorem kn_is {g : Str} (h : kn g = true) : g = "_indent" ∨ g = "_law_steps" ∨ g = "_law_stretch" ∨ g = "_law_due" ∨ g = "law" := by
  simpa [kn, names] using h

theorem pick_if {g x : Str} {α : Type} {a b : α} {o : Option α} {P : Prop} (h1 : g = x → a = b → P) (h2 : o = some b → P) (e : (if g = x then some a else o) = some b) : P := by
  by_cases q : g = x
  · rw [if_pos q] at e; exact h1 q (Option.some.inj e)
  · rw [if_neg q] at e; exact h2 e
theorem kn_cases {C : Str → Prop} {g : Str} (h : kn g = true) (h0 : C "_indent") (h1 : C "_law_steps") (h2 : C "_law_stretch") (h3 : C "_law_due") (h4 : C "law") : C g := by
  rcases kn_is h with rfl | rfl | rfl | rfl | rfl
  · exact h0
  · exact h1
  · exact h2
  · exact h3
  · exact h4
theorem wld_b (H : Here w hB mg mb) {g : Str} {b : Bif} (e : bifOf g = some b) {env : Env} (he : env.globals = mainGlobals) (hb : env.builtins = builtinsNs) : Looks (model prog w) hB (loadGlobal env g) (bifVal N b) := by
  unfold bifOf at e
  refine pick_if (fun q r => ?_) (pick_if (fun q r => ?_) (pick_if (fun q r => ?_) (pick_if (fun q r => ?_) (pick_if (fun q r => ?_) (pick_if (fun q r => ?_) fun e => nn e))))) e
  · subst q; subst r; exact looks_builtin H.Tg H.Tb (mg_none_of H.K H.Tg (by kernel_rfl)) (bi_of H (by kernel_rfl) (by kernel_rfl)) env he hb
  · subst q; subst r; exact looks_builtin H.Tg H.Tb (mg_none_of H.K H.Tg (by kernel_rfl)) (bi_of H (by kernel_rfl) (by kernel_rfl)) env he hb
  · subst q; subst r; exact looks_builtin H.Tg H.Tb (mg_none_of H.K H.Tg (by kernel_rfl)) (bi_of H (by kernel_rfl) (by kernel_rfl)) env he hb
  · subst q; subst r; exact looks_builtin H.Tg H.Tb (mg_none_of H.K H.Tg (by kernel_rfl)) (bi_of H (by kernel_rfl) (by kernel_rfl)) env he hb
  · subst q; subst r; exact looks_builtin H.Tg H.Tb (mg_none_of H.K H.Tg (by kernel_rfl)) (bi_of H (by kernel_rfl) (by kernel_rfl)) env he hb
  · subst q; subst r; exact looks_global H.Tg (mg_of H.K H.Tg (by kernel_rfl)) env he
theorem wld_m (H : Here w hB mg mb) {name : Str} {m : Mth} (e1 : mthOf name = some m) (e2 : isAcc m = true) {h : Heap} {a dd : Addr} {size : Int} {vs : Array Value} (k : ∀ b o, hB.get? b = some o → h.get? b = some o) (at_ : AccAt 118 h a dd size vs) (pl : Sem Bool) :
    Looks (model prog w) h (getMethod (.ref a) name pl) (mthVal N m, [.ref a]) := by
  unfold mthOf at e1
  refine pick_if (fun _ r => ?_) (pick_if (fun _ r => ?_) (pick_if (fun q r => ?_) (pick_if (fun q r => ?_) (pick_if (fun q r => ?_) fun e => nn e)))) e1
  · subst r; exact ff e2
  · subst r; exact ff e2
  · subst q; subst r; exact meth_of H.K gaK (by kernel_rfl) (by kernel_rfl) (by decide) k at_ pl
  · subst q; subst r; exact meth_of H.K gaK (by kernel_rfl) (by kernel_rfl) (by decide) k at_ pl
  · subst q; subst r; exact meth_of H.K gaK (by kernel_rfl) (by kernel_rfl) (by decide) k at_ pl
theorem kpM (H : Here w hB mg mb) : ∀ m, isAcc m = true → ∃ k, (k = Keeper.frame ∨ k = Keeper.machine ∨ k = Keeper.boundFrame) ∧ Looks (model prog w) hB (keeperOf (mthVal N m)) k
  | .push, _ => kp_of H.K (by kernel_rfl)
  | .pop, _ => kp_of H.K (by kernel_rfl)
  | .partCount, _ => kp_of H.K (by kernel_rfl)
theorem wld (H : Here w hB mg mb) : Wld prog w hB N 209 kn :=
  ⟨fun _ _ e _ he hb => wld_b H e he hb,
    fun _ e env he hb => kn_cases (C := fun g => Looks (model prog w) hB (loadGlobal env g) (N.val g)) e (looks_global H.Tg (mg_of H.K H.Tg (by kernel_rfl)) env he) (looks_global H.Tg (mg_of H.K H.Tg (by kernel_rfl)) env he) (looks_global H.Tg (mg_of H.K H.Tg (by kernel_rfl)) env he) (looks_global H.Tg (mg_of H.K H.Tg (by kernel_rfl)) env he) (looks_global H.Tg (mg_of H.K H.Tg (by kernel_rfl)) env he),
    fun env he hb => looks_global H.Tg (mg_of H.K H.Tg (by kernel_rfl)) env he,
    fun _ e => kn_cases (C := fun g => ∃ k, (k = Keeper.frame ∨ k = Keeper.machine ∨ k = Keeper.boundFrame) ∧ Looks (model prog w) hB (keeperOf (N.val g)) k) e (kp_of H.K (by kernel_rfl)) (kp_of H.K (by kernel_rfl)) (kp_of H.K (by kernel_rfl)) (kp_of H.K (by kernel_rfl)) (kp_of H.K (by kernel_rfl)),
    kp_of H.K (by kernel_rfl), kp_of H.K (by kernel_rfl), kpM H, fun _ _ e1 e2 _ _ _ _ _ k at_ pl => wld_m H e1 e2 k at_ pl⟩
end
end Mine.L3
end

section
open PySem PySem.W PyProof.Rows PySem.Calls PySem.SeqAt
set_option maxRecDepth 100000
set_option linter.unusedSimpArgs false
set_option maxHeartbeats 4000000
namespace Mine.L3

noncomputable def prims : List Str := ["_indent", "#new", "#push", "#pop", "#part_count", "#sorted"]

noncomputable def accAt (σ : Sto) (r : Nat) : Option (Int × List AV) := match σ[r]? with
  | some (.acc n xs) => some (n, xs)
  | _ => none
theorem accAt_of {σ : Sto} {r : Nat} {n : Int} {xs : List AV} (h : σ[r]? = some (.acc n xs)) : accAt σ r = some (n, xs) := by
  unfold accAt; rw [h]
theorem accAt_inv {σ : Sto} {r : Nat} {n : Int} {xs : List AV} (h : accAt σ r = some (n, xs)) : σ[r]? = some (.acc n xs) := by
  unfold accAt at h
  cases h1 : σ[r]? with
  | none => rw [h1] at h; cases h
  | some c => rw [h1] at h; cases c <;> cases h; rfl
noncomputable def pIndent (vs : List AV) (σ : Sto) : Option (AV × Sto) := bind2 (Mine.two vs) fun a b => bind1 (asStr a) fun s => bind1 (asInt b) fun k =>
  if sizeOk s.length ∧ sizeOk k.natAbs ∧ sizeOk ((s.length + 1) * (k.natAbs + 1)) then some (.str (indentL k.toNat true s), σ) else none
noncomputable def pNew (vs : List AV) (σ : Sto) : Option (AV × Sto) := bind1 (Mine.one vs) fun a => bind1 (asInt a) fun n => some (.ref σ.length, σ ++ [.acc n []])
noncomputable def pPush (vs : List AV) (σ : Sto) : Option (AV × Sto) := bind1 vs.head? fun v => bind1 (asRef v) fun r => bind2 (Mine.two vs.tail) fun a b => bind2 (accAt σ r) fun n xs =>
  if sizeOk xs.length then some (.none, σ.set r (.acc n (xs ++ [.tup [a, b]]))) else none
noncomputable def popped (σ : Sto) (r : Nat) (n : Int) (xs : List AV) (o : Option AV) : AV × Sto := match o with
  | some v => (v, σ.set r (.acc n xs.dropLast))
  | none => (emptyPair, σ)
noncomputable def pPop (vs : List AV) (σ : Sto) : Option (AV × Sto) := bind1 (Mine.one vs) fun v => bind1 (asRef v) fun r => bind2 (accAt σ r) fun n xs =>
  if sizeOk xs.length then some (popped σ r n xs xs.getLast?) else none
noncomputable def pCount (vs : List AV) (σ : Sto) : Option (AV × Sto) := bind1 (Mine.one vs) fun v => bind1 (asRef v) fun r => bind2 (accAt σ r) fun _ xs =>
  if sizeOk xs.length then some (.int xs.length, σ) else none
noncomputable def pSorted (vs : List AV) (σ : Sto) : Option (AV × Sto) := bind1 (Mine.one vs) fun v => bind1 (asRef v) fun r => bind1 (listAt σ r) fun xs =>
  if xs.length < 64 then bind1 (sortAV xs) fun ys => some (.ref σ.length, σ ++ [.list ys]) else none

/-- the rarer calls that the law needs -/
noncomputable def pr : Oracle := fun f vs σ =>
  if f = "_indent" then pIndent vs σ else if f = "#new" then pNew vs σ else if f = "#push" then pPush vs σ else if f = "#pop" then pPop vs σ else if f = "#part_count" then pCount vs σ
  else if f = "#sorted" then pSorted vs σ else none
theorem prim0 (vs : List AV) (σ : Sto) : pr "_indent" vs σ = pIndent vs σ := if_pos rfl
theorem prim1 (vs : List AV) (σ : Sto) : pr "#new" vs σ = pNew vs σ := rfl
theorem prim2 (vs : List AV) (σ : Sto) : pr "#push" vs σ = pPush vs σ := rfl
theorem prim3 (vs : List AV) (σ : Sto) : pr "#pop" vs σ = pPop vs σ := rfl
theorem prim4 (vs : List AV) (σ : Sto) : pr "#part_count" vs σ = pCount vs σ := rfl
theorem prim7 (vs : List AV) (σ : Sto) : pr "#sorted" vs σ = pSorted vs σ := rfl
theorem pr_in {f : Str} {vs : List AV} {σ : Sto} {x : AV × Sto} (e : pr f vs σ = some x) : f = "_indent" ∨ f = "#new" ∨ f = "#push" ∨ f = "#pop" ∨ f = "#part_count" ∨ f = "#sorted" := by
  refine Classical.byContradiction fun hn => ?_
  simp only [not_or] at hn
  obtain ⟨h0, h1, h2, h3, h4, h5⟩ := hn
  rw [show pr f vs σ = none from (if_neg h0).trans ((if_neg h1).trans ((if_neg h2).trans ((if_neg h3).trans ((if_neg h4).trans (if_neg h5)))))] at e
  cases e
theorem pIndent_inv {vs : List AV} {σ : Sto} {x : AV × Sto} (e : pIndent vs σ = some x) : ∃ T i, vs = [.str T, .int i] ∧ T.length ≤ 1000000 ∧ i.natAbs ≤ 1000000 ∧ (T.length + 1) * (i.natAbs + 1) ≤ 1000000 ∧ (.str (indentL i.toNat true T), σ) = x := by
  obtain ⟨a, b, h1, e⟩ := bind2_inv e
  obtain ⟨T, h2, e⟩ := bind1_inv e
  obtain ⟨i, h3, e⟩ := bind1_inv e
  obtain ⟨⟨k1, k2, k3⟩, e⟩ := guard_inv e
  exact ⟨T, i, by rw [two_inv h1, asStr_inv h2, asInt_inv h3], sizeOk_le k1, sizeOk_le k2, sizeOk_le k3, Option.some.inj e⟩
theorem pNew_inv {vs : List AV} {σ : Sto} {x : AV × Sto} (e : pNew vs σ = some x) : ∃ n, vs = [.int n] ∧ (.ref σ.length, σ ++ [.acc n []]) = x := by
  obtain ⟨a, h1, e⟩ := bind1_inv e
  obtain ⟨n, h2, e⟩ := bind1_inv e
  exact ⟨n, by rw [one_inv h1, asInt_inv h2], Option.some.inj e⟩
theorem pPush_inv {vs : List AV} {σ : Sto} {x : AV × Sto} (e : pPush vs σ = some x) : ∃ r a b n xs, vs = [.ref r, a, b] ∧ σ[r]? = some (.acc n xs) ∧ sizeOk xs.length = true ∧ (.none, σ.set r (.acc n (xs ++ [.tup [a, b]]))) = x := by
  obtain ⟨v, h1, e⟩ := bind1_inv e
  obtain ⟨r, h2, e⟩ := bind1_inv e
  obtain ⟨a, b, h3, e⟩ := bind2_inv e
  obtain ⟨n, xs, h4, e⟩ := bind2_inv e
  obtain ⟨h5, e⟩ := guard_inv e
  refine ⟨r, a, b, n, xs, ?_, accAt_inv h4, h5, Option.some.inj e⟩
  cases vs with
  | nil => cases h1
  | cons u t =>
    have h3' := two_inv h3
    simp at h1 h3'
    rw [h1, h3', asRef_inv h2]
theorem ref_inv {vs : List AV} {v : AV} {r : Nat} (h1 : Mine.one vs = some v) (h2 : asRef v = some r) : vs = [.ref r] := by rw [one_inv h1, asRef_inv h2]

section
variable {w : World} {hB : Heap} {os : OsState} {mg mb : Str → Option Value}

section
variable {vs : List AV} {σ : Sto} {v : AV} {σ' : Sto} {A : Around} {ρ : Rho} {s : Shared} {vals : List Value}
theorem pokIndent (H : Here w hB mg mb) (e : pIndent vs σ = some (v, σ')) (hA : AOk 2 A) (G : StG hB os N.acc ρ σ s) (R : RelVs hB ρ s.heap vs vals) : wpAny (model prog w) A (call (N.val "_indent") vals) (PostV hB os N.acc ρ s v σ') Fls s := by
  rw [show N.val "_indent" = .ref 135 from by kernel_rfl]
  obtain ⟨T, i, rfl, h1, h2, h3, h4⟩ := pIndent_inv e
  obtain ⟨rfl, rfl⟩ := Prod.mk.inj h4
  exact indentPrim H hA G R h1 h2 h3
theorem pokNew (H : Here w hB mg mb) (e : pNew vs σ = some (v, σ')) (hA : AOk 2 A) (G : StG hB os N.acc ρ σ s) (R : RelVs hB ρ s.heap vs vals) : wpAny (model prog w) A (call (N.val "#new") vals) (PostV hB os N.acc ρ s v σ') Fls s := by
  rw [show N.val "#new" = .ref 118 from by kernel_rfl]
  obtain ⟨n, rfl, h4⟩ := pNew_inv e
  obtain ⟨rfl, rfl⟩ := Prod.mk.inj h4
  exact newPrim H hA G R
theorem pokPush (H : Here w hB mg mb) (e : pPush vs σ = some (v, σ')) (hA : AOk 2 A) (G : StG hB os N.acc ρ σ s) (R : RelVs hB ρ s.heap vs vals) : wpAny (model prog w) A (call (N.val "#push") vals) (PostV hB os N.acc ρ s v σ') Fls s := by
  rw [show N.val "#push" = .ref 62 from by kernel_rfl]
  obtain ⟨r, a, b, n, xs, rfl, hc, hk, h4⟩ := pPush_inv e
  obtain ⟨rfl, rfl⟩ := Prod.mk.inj h4
  exact pushPrim H (hA.mono (by omega)) G R hc hk
theorem pokPop (H : Here w hB mg mb) (e : pPop vs σ = some (v, σ')) (hA : AOk 2 A) (G : StG hB os N.acc ρ σ s) (R : RelVs hB ρ s.heap vs vals) : wpAny (model prog w) A (call (N.val "#pop") vals) (PostV hB os N.acc ρ s v σ') Fls s := by
  rw [show N.val "#pop" = .ref 78 from by kernel_rfl]
  obtain ⟨u, h1, e⟩ := bind1_inv e
  obtain ⟨r, h2, e⟩ := bind1_inv e
  obtain ⟨n, xs, h3, e⟩ := bind2_inv e
  obtain ⟨hk, e⟩ := guard_inv e
  rw [ref_inv h1 h2] at R
  have e := Option.some.inj e
  refine popPrim H hA G R (accAt_inv h3) hk (fun hx v' s' h => ?_) (fun x hx v' s' h => ?_)
  · rw [hx] at e
    obtain ⟨rfl, rfl⟩ := Prod.mk.inj e
    exact h
  · rw [hx] at e
    obtain ⟨rfl, rfl⟩ := Prod.mk.inj e
    exact h
theorem pokCount (H : Here w hB mg mb) (e : pCount vs σ = some (v, σ')) (hA : AOk 2 A) (G : StG hB os N.acc ρ σ s) (R : RelVs hB ρ s.heap vs vals) : wpAny (model prog w) A (call (N.val "#part_count") vals) (PostV hB os N.acc ρ s v σ') Fls s := by
  rw [show N.val "#part_count" = .ref 115 from by kernel_rfl]
  obtain ⟨u, h1, e⟩ := bind1_inv e
  obtain ⟨r, h2, e⟩ := bind1_inv e
  obtain ⟨n, xs, h3, e⟩ := bind2_inv e
  obtain ⟨hk, e⟩ := guard_inv e
  rw [ref_inv h1 h2] at R
  obtain ⟨rfl, rfl⟩ := Prod.mk.inj (Option.some.inj e)
  exact pcPrim H (hA.mono (by omega)) G R (accAt_inv h3)
theorem pokSorted (e : pSorted vs σ = some (v, σ')) (G : StG hB os N.acc ρ σ s) (R : RelVs hB ρ s.heap vs vals) : wpAny (model prog w) A (call (N.val "#sorted") vals) (PostV hB os N.acc ρ s v σ') Fls s := by
  rw [show N.val "#sorted" = .builtin "sorted" from by kernel_rfl]
  obtain ⟨u, h1, e⟩ := bind1_inv e
  obtain ⟨r, h2, e⟩ := bind1_inv e
  obtain ⟨xs, h3, e⟩ := bind1_inv e
  obtain ⟨h64, e⟩ := guard_inv e
  obtain ⟨ys, hs, e⟩ := bind1_inv e
  rw [ref_inv h1 h2] at R
  obtain ⟨rfl, rfl⟩ := Prod.mk.inj (Option.some.inj e)
  exact sorted_ok G R (listAt_inv h3) h64 hs
end
theorem pr_cases {C : Str → Prop} {f : Str} {vs : List AV} {σ : Sto} {x : AV × Sto} (e : pr f vs σ = some x) (h0 : pIndent vs σ = some x → C "_indent") (h1 : pNew vs σ = some x → C "#new") (h2 : pPush vs σ = some x → C "#push") (h3 : pPop vs σ = some x → C "#pop")
    (h4 : pCount vs σ = some x → C "#part_count") (h5 : pSorted vs σ = some x → C "#sorted") : C f := by
  rcases pr_in e with rfl | rfl | rfl | rfl | rfl | rfl
  · exact h0 ((prim0 _ _).symm.trans e)
  · exact h1 ((prim1 _ _).symm.trans e)
  · exact h2 ((prim2 _ _).symm.trans e)
  · exact h3 ((prim3 _ _).symm.trans e)
  · exact h4 ((prim4 _ _).symm.trans e)
  · exact h5 ((prim7 _ _).symm.trans e)
theorem pok (H : Here w hB mg mb) : POk prog w hB os N 2 pr := fun _ _ _ v σ' e A ρ s vals hA G R =>
  pr_cases (C := fun f => wpAny (model prog w) A (call (N.val f) vals) (PostV hB os N.acc ρ s v σ') Fls s) e (fun e => pokIndent H e hA G R) (fun e => pokNew H e hA G R) (fun e => pokPush H e hA G R) (fun e => pokPop H e hA G R) (fun e => pokCount H e hA G R) fun e => pokSorted e G R

theorem text (H : Here w hB mg mb) : Text prog w hB os N 209 kn pr fns 2 :=
  ⟨wld H, (qok H).mono (by omega), pok H, H.lim, fun f fn h => by
    obtain ⟨a, b, c⟩ := fnAt H.K h
    exact ⟨a, _, _, b, c⟩, by
    have e : qname = ("QName" : Str) := rfl
    unfold fns
    rw [if_neg (by decide)], fun vs σ => by
    rfl⟩

/-- the law's call -/
theorem law_call (H : Here w hB mg mb) {A : Around} {s : Shared} {vs : List AV} {vals : List Value} {σ' : Sto} {v : AV} (n : Nat) (e : calls pr fns n "law" vs [] = some (v, σ')) (hA : AOk (n + 2) A) (hs : s.heap = hB) (hos : s.os = os) (hg : AllBare s.gens)
    (R : RelVs hB [] s.heap vs vals) : wpAny (model prog w) A (call (.ref 239) vals) (PostV hB os 118 [] s v σ') Fls s := by
  have C := (calls_ok (text (os := os) H) n).call
  have G : StG hB os 118 [] [] s := ⟨fun b o e => hs ▸ e, rfl, fun r c p e => by simp at e, fun p hp => by simp at hp, by simp, hg, hos, fun p hp => by simp at hp⟩
  have : wpAny (model prog w) A (call (N.val "law") vals) (PostV hB os 118 [] s v σ') Fls s := C "law" vs [] v σ' e A [] s vals hA G R
  rw [show N.val "law" = .ref 239 from by kernel_rfl] at this
  exact this
end
end Mine.L3
end

section
open PySem PySem.W PyProof.Rows PySem.Calls PySem.SeqAt
set_option Elab.async false
set_option maxRecDepth 100000
set_option linter.unusedSimpArgs false
set_option maxHeartbeats 8000000
namespace Mine.L3
theorem intsRel {h₀ h : Heap} {ρ : Rho} : ∀ {vs : List Value} {zs : List Int}, IntsAre vs zs → RelVs h₀ ρ h (zs.map .int) vs
  | _, _, .nil => .nil
  | _, _, .cons _ _ r => .cons (.int _ _) (intsRel r)
theorem law_args {w : World} {s₀ s₁ : Shared} {args : List WData} {vals : List Value} {as : List Addr} (hpre : Challenge.rw_wu0020_03.row.claim.pre args = true) (hlay : WData.layableAll args = true)
    (hrd : ReadsAllW Challenge.rw_wu0020_03.row.records (classAt s₀.heap) s₁.heap vals args as) (hwl : WellAll w.params s₁.heap vals args) (hlo : ∀ (a : Addr), a ∈ as → (a == sysModules) = false) :
    ∃ l : Addr, vals = [.ref l] ∧ ∃ zs : List Int, zs.length ≤ 63 ∧ RelVs s₁.heap [] s₁.heap [.frz (zs.map .int)] [.ref l] := by
  wrow_args hpre hlay hrd hwl hlo
  rename_i zs _ _ _ _ _ _ _ l vals _ hL _ _ _ hI _ hlen _
  refine ⟨l, rfl, zs, by omega, .cons (.frz ?_ hL (intsRel hI)) .nil⟩
  obtain ⟨o, ho, _⟩ := hL
  rw [ho]; rfl
theorem law_top (pure_ : ∀ zs : List Int, zs.length ≤ 63 → ∃ σ', calls pr fns 3 "law" [.frz (zs.map .int)] [] = some (.bool true, σ')) : PySem.Challenge.rw_wu0020_03.Holds := by
  refine Mine.hd3 ?_
  intro w s₀ s₁ mg mb G Y fa o pm cd doc dV kV ho hd hcd hD hmg hg args vals as hpre hlay hrd hwl hlo
  have KX := kIn_of Y
  have H : Here w s₁.heap mg mb := ⟨KX, G.T.g, G.T.b, G.T.nolimit, G.T.builtins⟩
  have hfa : fa = 239 := by
    have hmg' : mg "law" = some (.ref 239) := mg_of KX G.T.g (by kernel_rfl)
    have := hmg'.symm.trans hmg
    exact (Value.ref.inj (Option.some.inj this)).symm
  clear hd hcd hD ho hmg
  subst hfa
  obtain ⟨l, rfl, zs, hlen, R⟩ := law_args hpre hlay hrd hwl hlo
  refine (pure_ zs hlen).elim fun σ' e => wpAny_mono (law_call (os := s₁.os) H 3 e ⟨rfl, by decide, by decide⟩ rfl rfl (.of_eq hg) R) (fun v s' h => ?_) fun _ _ x => x.elim
  obtain ⟨ρ', T, G', r⟩ := h
  cases r
  exact ⟨.inl ⟨.bool true, .bool true, [], rfl, fun cls => by kernel_rfl, .bool _, by kernel_rfl, fun _ => ⟨List.nodup_nil, fun a ha => by cases ha⟩⟩, .of_keep G'.base, G'.os, G'.gens⟩
end Mine.L3
end

section
open PySem PySem.W PyProof.Rows
set_option maxRecDepth 100000
set_option linter.unusedSimpArgs false
set_option maxHeartbeats 1000000
namespace Mine

namespace L3
variable (O : Oracle) (σ : Sto)
noncomputable def stB (i : Nat) : PySem.Stmt := ((fnOf "_law_stretch").body[i]?).getD (.Pass default)
noncomputable def tOf : PySem.Stmt → PySem.Expr
  | .While t _ _ _ => t
  | _ => .Constant .none 0 default
noncomputable def bOf : PySem.Stmt → List PySem.Stmt
  | .While _ b _ _ => b
  | _ => []
noncomputable abbrev locS (w : List Nat) (place step first : Int) : Loc := [("word", .str w), ("place", .int place), ("step", .int step), ("first", .int first)]
theorem getIx_nat {n : Nat} (h : n ≤ 1000000) : getIx (n : Int) = some n := by
  show (if sizeOk n then some n else none) = _
  rw [if_pos (show sizeOk n = true from Nat.ble_eq_true_of_le h)]
theorem subs_str {w : List Nat} {n : Nat} {i : Int} (hi : i = n) (hn : n < w.length) (hw : w.length ≤ 1000) : subs (.str w) (.int i) σ = some (.str [w[n]]) := by
  subst hi
  have h1 : n ≤ 1000000 := by omega
  show (bind1 (getIx (n : Int)) fun n => bind1 w[n]? fun c => some (AV.str [c])) = _
  rw [getIx_nat h1, bind1_some, List.getElem?_eq_getElem hn]
  rfl
theorem eqTop_str (x y : List Nat) : eqTop (.str x) (.str y) σ = some (x == y) := rfl

/-- the two loops of _law_stretch -/
noncomputable def downP (w : List Nat) (step : Nat) : Nat → Nat
  | 0 => 0
  | f + 1 => if w[f]? = w[f + step]? then downP w step f else f + 1
theorem downP_s {w : List Nat} {step f : Nat} : downP w step (f + 1) = if w[f]? = w[f + step]? then downP w step f else f + 1 := rfl
noncomputable def upP (w : List Nat) (step : Nat) : Nat → Nat → Nat
  | 0, l => l
  | k + 1, l => if w[l]? = w[l - step]? then upP w step k (l + 1) else l
theorem upP_0 {w : List Nat} {step l : Nat} : upP w step 0 l = l := rfl
theorem upP_s {w : List Nat} {step k l : Nat} : upP w step (k + 1) l = if w[l]? = w[l - step]? then upP w step k (l + 1) else l := rfl

theorem stretch_t1 {w : List Nat} {place : Int} {step f : Nat} (hf : f + step < w.length) (hw : w.length ≤ 1000) :
    tr O (locS w place step (f + 1 : Nat)) (tOf (stB 1)) σ (ev O (locS w place step (f + 1 : Nat)) (tOf (stB 1)) σ) = some (decide (w[f]? = w[f + step]?), σ) := by
  (have e : tOf (stB 1) = tOf (stB 1) := rfl; conv at e => rhs; whnf)
  rw [e]
  simp only [tr_boolop, tr_cmp, trAll_nil, trAll_cons, ev_const, const_int, ev_name, ev_boolop, ev_binop, ev_cmp, isQ_name, isQ_const, isQ_sub, ev_subB, evBool_one, evBool_cons, List.lookup, ofString_beq, String.reduceBEq, bind1_some, bind2_some, byV_bool, as_bool, stops_and, add_int', sub_int', cmp_eq, cmp_gt, if_false, Bool.false_eq_true, Bool.not_false]
  have h1 : decide ((0 : Int) < ((f + 1 : Nat) : Int)) = true := decide_eq_true (by omega)
  simp only [h1, subs_str σ (show ((f + 1 : Nat) : Int) - 1 = (f : Nat) by omega) (show f < w.length by omega) hw, subs_str σ (show ((f + 1 : Nat) : Int) - 1 + (step : Int) = ((f + step : Nat) : Int) by omega) hf hw, bind1_some, bind2_some, byV_bool, eqTop_str, if_false, Bool.false_eq_true, Bool.not_true]
  rw [List.getElem?_eq_getElem hf, List.getElem?_eq_getElem (show f < w.length by omega)]
  cases hb : ([w[f]] == [w[f + step]]) with
  | true => simp at hb; simp [hb]
  | false => simp at hb; simp [hb]
theorem stretch_t0 (w : List Nat) (place step : Int) : tr O (locS w place step 0) (tOf (stB 1)) σ (ev O (locS w place step 0) (tOf (stB 1)) σ) = some (false, σ) := by
  (have e : tOf (stB 1) = tOf (stB 1) := rfl; conv at e => rhs; whnf)
  rw [e]
  simp only [tr_boolop, tr_cmp, trAll_nil, trAll_cons, ev_const, const_int, ev_name, ev_boolop, ev_binop, ev_cmp, isQ_name, isQ_const, isQ_sub, ev_subB, evBool_one, evBool_cons, List.lookup, ofString_beq, String.reduceBEq, bind1_some, bind2_some, byV_bool, as_bool, stops_and, add_int', sub_int', cmp_eq, cmp_gt, if_false, Bool.false_eq_true, Bool.not_false]
  rfl
theorem stretch_b1 (w : List Nat) (place step first : Int) : exs O (locS w place step first) (bOf (stB 1)) σ = some (.next, locS w place step (first - 1), σ) := by
  (have e : bOf (stB 1) = bOf (stB 1) := rfl; conv at e => rhs; whnf)
  rw [e]
  simp only [ev_const, const_int, ev_name, ev_binop, ex_assign, exs_nil, exs_more, List.lookup, setL, ofString_beq, ofString_eq, String.reduceBEq, String.reduceEq, bind1_some, bind2_some, sub_int', if_true, if_false]
theorem stretch_l1 {w : List Nat} {place : Int} {step : Nat} (hw : w.length ≤ 1000) : ∀ (f fuel : Nat), f + step ≤ w.length → f < fuel →
    whileN (fun m σ => tr O m (tOf (stB 1)) σ (ev O m (tOf (stB 1)) σ)) (fun m σ => exs O m (bOf (stB 1)) σ) fuel (locS w place step f) σ = some (.next, locS w place step (downP w step f), σ)
  | f, 0, _, h => by omega
  | 0, fuel + 1, _, _ => by
    show whileN _ _ (fuel + 1) (locS w place step 0) σ = _
    simp only [whileN_eq, stretch_t0]
    rfl
  | f + 1, fuel + 1, hf, h => by
    simp only [whileN_eq, stretch_t1 O σ (show f + step < w.length by omega) hw, downP_s]
    by_cases hq : w[f]? = w[f + step]?
    · have e : (((f + 1 : Nat) : Int) - 1) = (f : Nat) := by omega
      simp only [hq, decide_true, stretch_b1, e, if_true]
      exact stretch_l1 hw f fuel (by omega) (by omega)
    · simp only [hq, decide_false, if_false]

noncomputable abbrev locT (w : List Nat) (place step first last : Int) : Loc := [("word", .str w), ("place", .int place), ("step", .int step), ("first", .int first), ("last", .int last)]
theorem len_str {w : List Nat} (hw : w.length ≤ 1000) : builtin O .len [.str w] σ = some (.int w.length, σ) := by
  show (if sizeOk w.length then some (AV.int w.length, σ) else none) = _
  rw [if_pos (show sizeOk w.length = true from Nat.ble_eq_true_of_le (by omega))]
theorem bif_len : bifOf (Str.ofString "len") = some .len := by rfl
theorem stretch_t3 {w : List Nat} {place first : Int} {step l : Nat} (hs : step ≤ l) (hl : l < w.length) (hw : w.length ≤ 1000) :
    tr O (locT w place step first l) (tOf (stB 3)) σ (ev O (locT w place step first l) (tOf (stB 3)) σ) = some (decide (w[l]? = w[l - step]?), σ) := by
  (have e : tOf (stB 3) = tOf (stB 3) := rfl; conv at e => rhs; whnf)
  rw [e]
  simp only [tr_boolop, tr_cmp, trAll_nil, trAll_cons, ev_name, ev_boolop, ev_binop, ev_cmp, isQ_name, isQ_sub, isQ_call, evQ_call, ev_callN, ev_subN, ev_subB, evs_nil, evs_cons, evBool_one, evBool_cons, qname, List.lookup, ofString_beq, String.reduceBEq, Bool.false_and, List.length_cons, List.length_nil, List.isEmpty_nil, Nat.reduceAdd, Nat.reduceBEq, bind1_some, bind2_some, one_one, stops_and, sub_int', cmp_eq, if_false, Bool.false_eq_true, Bool.not_false]
  simp only [bif_len, len_str O σ hw, Option.isSome_none, if_false, Bool.false_eq_true]
  have h1 : decide ((l : Int) < (w.length : Int)) = true := decide_eq_true (by omega)
  simp only [h1, subs_str σ (show (l : Int) = (l : Nat) from rfl) hl hw, subs_str σ (show (l : Int) - (step : Int) = ((l - step : Nat) : Int) by omega) (show l - step < w.length by omega) hw, bind1_some, bind2_some, byV_bool, cmp_lt, eqTop_str, if_false, Bool.false_eq_true, Bool.not_true]
  rw [List.getElem?_eq_getElem hl, List.getElem?_eq_getElem (show l - step < w.length by omega)]
  cases hb : ([w[l]] == [w[l - step]]) with
  | true => simp at hb; simp [hb]
  | false => simp at hb; simp [hb]
theorem stretch_t3e {w : List Nat} {place first : Int} {step : Int} (hw : w.length ≤ 1000) :
    tr O (locT w place step first w.length) (tOf (stB 3)) σ (ev O (locT w place step first w.length) (tOf (stB 3)) σ) = some (false, σ) := by
  (have e : tOf (stB 3) = tOf (stB 3) := rfl; conv at e => rhs; whnf)
  rw [e]
  simp only [tr_boolop, tr_cmp, trAll_nil, trAll_cons, ev_name, ev_boolop, ev_binop, ev_cmp, isQ_name, isQ_sub, isQ_call, evQ_call, ev_callN, ev_subN, ev_subB, evs_nil, evs_cons, evBool_one, evBool_cons, qname, List.lookup, ofString_beq, String.reduceBEq, Bool.false_and, List.length_cons, List.length_nil, List.isEmpty_nil, Nat.reduceAdd, Nat.reduceBEq, bind1_some, bind2_some, one_one, stops_and, sub_int', cmp_eq, if_false, Bool.false_eq_true, Bool.not_false]
  simp only [bif_len, len_str O σ hw, Option.isSome_none, if_false, Bool.false_eq_true]
  have h1 : decide ((w.length : Int) < (w.length : Int)) = false := decide_eq_false (by omega)
  simp only [h1, bind1_some, bind2_some, byV_bool, cmp_lt, if_true, Bool.not_false]
theorem stretch_b3 (w : List Nat) (place step first last : Int) : exs O (locT w place step first last) (bOf (stB 3)) σ = some (.next, locT w place step first (last + 1), σ) := by
  (have e : bOf (stB 3) = bOf (stB 3) := rfl; conv at e => rhs; whnf)
  rw [e]
  simp only [ev_const, const_int, ev_name, ev_binop, ex_assign, exs_nil, exs_more, List.lookup, setL, ofString_beq, ofString_eq, String.reduceBEq, String.reduceEq, bind1_some, bind2_some, add_int', if_true, if_false]
theorem stretch_l3 {w : List Nat} {place first : Int} {step : Nat} (hw : w.length ≤ 1000) : ∀ (k l fuel : Nat), l + k = w.length → step ≤ l → k < fuel →
    whileN (fun m σ => tr O m (tOf (stB 3)) σ (ev O m (tOf (stB 3)) σ)) (fun m σ => exs O m (bOf (stB 3)) σ) fuel (locT w place step first l) σ = some (.next, locT w place step first (upP w step k l), σ)
  | k, l, 0, _, _, h => by omega
  | 0, l, fuel + 1, hl, _, _ => by
    have : l = w.length := by omega
    subst this
    simp only [whileN_eq, stretch_t3e O σ hw, upP_0]
  | k + 1, l, fuel + 1, hl, hs, h => by
    simp only [whileN_eq, stretch_t3 O σ hs (show l < w.length by omega) hw, upP_s]
    by_cases hq : w[l]? = w[l - step]?
    · have e : ((l : Nat) : Int) + 1 = ((l + 1 : Nat) : Int) := by omega
      simp only [hq, decide_true, stretch_b3, e, if_true]
      exact stretch_l3 hw k (l + 1) fuel (by omega) (by omega) (by omega)
    · simp only [hq, decide_false, if_false]

theorem exs_cons (m : Loc) (s : PySem.Stmt) (r : List PySem.Stmt) : exs O m (s :: r) σ = match ex O m s σ with
    | some (.next, m', σ') => exs O m' r σ'
    | x => x := rfl
theorem stretch_body : (fnOf "_law_stretch").body = [stB 0, stB 1, stB 2, stB 3, stB 4] := by kernel_rfl
theorem stretch_pars : (fnOf "_law_stretch").params = [Str.ofString "word", Str.ofString "place", Str.ofString "step"] := by kernel_rfl
theorem stretch_0 (w : List Nat) (place step : Int) : ex O [("word", .str w), ("place", .int place), ("step", .int step)] (stB 0) σ = some (.next, locS w place step place, σ) := by
  (have e : stB 0 = stB 0 := rfl; conv at e => rhs; whnf)
  rw [e]
  simp only [ev_name, ex_assign, List.lookup, setL, ofString_beq, ofString_eq, String.reduceBEq, String.reduceEq, bind1_some, bind2_some, if_false]
theorem stretch_1 (m : Loc) : ex O m (stB 1) σ = whileN (fun m σ => tr O m (tOf (stB 1)) σ (ev O m (tOf (stB 1)) σ)) (fun m σ => exs O m (bOf (stB 1)) σ) 100 m σ := by rfl
theorem stretch_2 (w : List Nat) (place step first : Int) : ex O (locS w place step first) (stB 2) σ = some (.next, locT w place step first (place + step), σ) := by
  (have e : stB 2 = stB 2 := rfl; conv at e => rhs; whnf)
  rw [e]
  simp only [ev_name, ev_binop, ex_assign, List.lookup, setL, ofString_beq, ofString_eq, String.reduceBEq, String.reduceEq, bind1_some, bind2_some, add_int', if_false]
theorem stretch_3 (m : Loc) : ex O m (stB 3) σ = whileN (fun m σ => tr O m (tOf (stB 3)) σ (ev O m (tOf (stB 3)) σ)) (fun m σ => exs O m (bOf (stB 3)) σ) 100 m σ := by rfl
theorem stretch_4 (w : List Nat) (place step first last : Int) : ex O (locT w place step first last) (stB 4) σ = some (.ret (.tup [.int first, .int last, .int step]), locT w place step first last, σ) := by
  (have e : stB 4 = stB 4 := rfl; conv at e => rhs; whnf)
  rw [e]
  simp only [ev_name, ev_tuple, evs_nil, evs_cons, ex_return, List.lookup, ofString_beq, String.reduceBEq, List.length_cons, List.length_nil, Nat.reduceAdd, bind1_some, bind2_some]
  rfl

/-- the run of _law_stretch -/
theorem stretch_run {w : List Nat} {place step : Nat} (hw : w.length ≤ 90) (h : place + step ≤ w.length) :
    callFn O (fnOf "_law_stretch") [.str w, .int place, .int step] σ = some (.tup [.int (downP w step place), .int (upP w step (w.length - (place + step)) (place + step)), .int step], σ) := by
  rw [callFn_eq stretch_pars stretch_body rfl]
  have e1 : ((place : Int) + (step : Int)) = ((place + step : Nat) : Int) := by omega
  have z : [Str.ofString "word", Str.ofString "place", Str.ofString "step"].zip [AV.str w, AV.int place, AV.int step] = ([("word", .str w), ("place", .int place), ("step", .int step)] : Loc) := rfl
  rw [z, exs_cons, stretch_0]
  simp only
  rw [exs_cons, stretch_1, stretch_l1 O σ (by omega) place 100 h (by omega)]
  simp only
  rw [exs_cons, stretch_2, e1]
  simp only
  rw [exs_cons, stretch_3, stretch_l3 O σ (by omega) (w.length - (place + step)) (place + step) 100 (by omega) (by omega) (by omega)]
  simp only
  rw [exs_cons, stretch_4]
  rfl
end L3
end Mine
end

section
open PySem PySem.W PyProof.Rows
set_option maxRecDepth 100000
set_option linter.unusedSimpArgs false
set_option maxHeartbeats 1000000
namespace Mine


namespace L3

/-- the oracle at the text's primitives -/
structure OPr (O : Oracle) : Prop where
  p : ∀ f vs σ, f ∈ prims → O f vs σ = pr f vs σ
theorem opr (k : Nat) : OPr (calls pr fns k) := ⟨fun f vs σ h => by
  cases k with
  | zero => rfl
  | succ k =>
    have : fns f = none := by
      unfold fns
      rw [if_neg]
      simp only [prims, List.mem_cons, List.not_mem_nil, or_false] at h
      rcases h with rfl | rfl | rfl | rfl | rfl | rfl <;> decide
    show (match fns f with | some fn => _ | none => pr f vs σ) = _
    rw [this]⟩
end L3
end Mine
end

section
open PySem PySem.W PyProof.Rows
set_option maxRecDepth 100000
set_option linter.unusedSimpArgs false
set_option maxHeartbeats 1000000
namespace Mine.L3
noncomputable def sp (i : Nat) : PySem.Stmt := ((fnOf "_law_steps").body[i]?).getD (.Pass default)
noncomputable def forB : PySem.Stmt → List PySem.Stmt
  | .For _ _ b _ _ => b
  | _ => []
noncomputable def fb (i : Nat) : PySem.Stmt := ((forB (sp 2))[i]?).getD (.Pass default)
theorem mth_pc : mthOf (Str.ofString "part_count") = some .partCount := by rfl
theorem mth_pop : mthOf (Str.ofString "pop") = some .pop := by rfl
theorem mth_push : mthOf (Str.ofString "push") = some .push := by rfl
theorem mth_join : mthOf (Str.ofString "join") = some .join := by rfl
theorem mth_append : mthOf (Str.ofString "append") = some .append := by rfl
variable {O : Oracle} {σ : Sto} {m : Loc} {a : Nat} {size : Int} {xs : List AV} {v : AV}

theorem pc_call (P : OPr O) (h : σ[a]? = some (.acc size xs)) (hx : xs.length ≤ 1000) : O (Str.ofString "#part_count") [.ref a] σ = some (.int xs.length, σ) := by
  rw [P.p _ _ _ (by decide), prim4]
  show bind2 (accAt σ a) (fun _ xs => if sizeOk xs.length then some (AV.int xs.length, σ) else none) = _
  rw [accAt_of h]
  exact if_pos (show sizeOk xs.length = true from Nat.ble_eq_true_of_le (by omega))

theorem steps_t (P : OPr O) (hm : m.lookup (Str.ofString "pile") = some (.ref a)) (h : σ[a]? = some (.acc size xs)) (hx : xs.length ≤ 1000) :
    tr O m (tOf (fb 1)) σ (ev O m (tOf (fb 1)) σ) = some (decide (0 < xs.length), σ) := by
  (have e : tOf (fb 1) = tOf (fb 1) := rfl; conv at e => rhs; whnf)
  rw [e]
  simp only [tr_cmp, ev_const, const_int, ev_name, ev_cmp, isQ_const, isQ_attr, evQ_call, ev_callA, evs_nil, bind1_some, bind2_some, if_false, Bool.false_eq_true]
  simp only [mth_pc, hm, bind1_some, bind2_some, byV_bool, cmp_gt, recv_pc, meth_pc, isAccAt, if_true, h, if_true, pc_call P h hx]
  simp

theorem pop_call (P : OPr O) (h : σ[a]? = some (.acc size (xs ++ [v]))) (hx : xs.length ≤ 1000) : O (Str.ofString "#pop") [.ref a] σ = some (v, σ.set a (.acc size xs)) := by
  rw [P.p _ _ _ (by decide), prim3]
  show bind2 (accAt σ a) (fun n xs => if sizeOk xs.length then some (popped σ a n xs xs.getLast?) else none) = _
  rw [accAt_of h]
  refine (if_pos (show sizeOk (xs ++ [v]).length = true from Nat.ble_eq_true_of_le (by simp; omega))).trans ?_
  rw [List.getLast?_concat]
  show some (v, σ.set a (.acc size (xs ++ [v]).dropLast)) = _
  rw [List.dropLast_concat]
theorem push_call (P : OPr O) {x y : AV} (h : σ[a]? = some (.acc size xs)) (hx : xs.length ≤ 1000) : O (Str.ofString "#push") [.ref a, x, y] σ = some (.none, σ.set a (.acc size (xs ++ [.tup [x, y]]))) := by
  rw [P.p _ _ _ (by decide), prim2]
  show bind2 (accAt σ a) (fun n xs => if sizeOk xs.length then some (AV.none, σ.set a (.acc n (xs ++ [.tup [x, y]]))) else none) = _
  rw [accAt_of h]
  exact if_pos (show sizeOk xs.length = true from Nat.ble_eq_true_of_le (by omega))
noncomputable def wb (i : Nat) : PySem.Stmt := ((bOf (fb 1))[i]?).getD (.Pass default)
theorem wb_is : bOf (fb 1) = [wb 0, wb 1, wb 2] := by kernel_rfl
theorem steps_w0 (P : OPr O) (hm : m.lookup (Str.ofString "pile") = some (.ref a)) (h : σ[a]? = some (.acc size (xs ++ [v]))) (hx : xs.length ≤ 1000) :
    ex O m (wb 0) σ = some (.next, setL m (Str.ofString "below") v, σ.set a (.acc size xs)) := by
  (have e : wb 0 = wb 0 := rfl; conv at e => rhs; whnf)
  rw [e]
  simp only [ev_name, ev_callA, evs_nil, ex_assign, bind2_some]
  simp only [mth_pop, hm, bind1_some, bind2_some, recv_pop, meth_pop, isAccAt, if_true, h, if_true, pop_call P h hx]
theorem join2 {x y : List Nat} (hx : x.length + y.length ≤ 1000) : methCall O .join (.str []) [.tup [.str x, .str y]] σ = some (.str (x ++ y), σ) := by
  show (if sizeOk (total [x, y] + ([] : List Nat).length * [x, y].length) then some (AV.str (joinL [] [x, y]), σ) else none) = _
  have h1 : total [x, y] = x.length + y.length := by simp [total]
  rw [h1, if_pos (show sizeOk _ = true from Nat.ble_eq_true_of_le (by simp; omega))]
  simp [joinL_1, joinL_2]
theorem emptyStr : (Str.ofString "").cps.toList = [] := by decide
theorem subs_t0 (x y : AV) : subs (.tup [x, y]) (.int 0) σ = some x := rfl
theorem subs_t1 (x y : AV) : subs (.tup [x, y]) (.int 1) σ = some y := rfl
theorem steps_w1 {x y u v : List Nat} (P : OPr O) (hm : m.lookup (Str.ofString "pile") = some (.ref a)) (hp : m.lookup (Str.ofString "piece") = some (.tup [.str x, .str y])) (hb : m.lookup (Str.ofString "below") = some (.tup [.str u, .str v]))
    (h : σ[a]? = some (.acc size xs)) (hx : xs.length ≤ 1000) (h1 : x.length + y.length ≤ 1000) (h2 : u.length + v.length ≤ 1000) :
    ex O m (wb 1) σ = if ltL (x ++ y) (u ++ v) then some (.next, m, σ) else some (.brk, m, σ.set a (.acc size (xs ++ [.tup [.str u, .str v]]))) := by
  (have e : wb 1 = wb 1 := rfl; conv at e => rhs; whnf)
  rw [e]
  simp only [tr_cmp, ev_const, const_int, const_str, ev_name, ev_cmp, isQ_call, evQ_call, ev_callN, ev_callA, ev_subC, evs_nil, evs_cons, ex_expr, ex_if, ex_break, exs_nil, exs_more, qname, ofString_beq, String.reduceBEq, Bool.true_and, List.length_cons, List.length_nil, List.isEmpty_nil, Nat.reduceAdd, Nat.reduceBEq, bind1_some, bind2_some, if_true]
  simp only [mth_join, emptyStr, hp, hb, bind1_some, bind2_some, one_one, byV_bool, recv_join, if_true, if_true, join2 h1, join2 h2, cmpQ_ge]
  cases hl : ltL (x ++ y) (u ++ v) with
  | true => simp
  | false =>
    simp only [Bool.not_false, mth_push, hm, bind1_some, bind2_some, recv_push, meth_push, isAccAt, if_true, if_false, Bool.false_eq_true, Bool.not_false, h, if_true, subs_t0, subs_t1, push_call P h hx, Bool.false_eq_true, if_false]
theorem tup2 {x y : AV} : sizeOk [x, y].length = true := rfl
theorem steps_w2 {x y u v : List Nat} (hp : m.lookup (Str.ofString "piece") = some (.tup [.str x, .str y])) (hb : m.lookup (Str.ofString "below") = some (.tup [.str u, .str v]))
    (h1 : x.length + y.length ≤ 1000) (h2 : u.length + v.length ≤ 1000) :
    ex O m (wb 2) σ = some (.next, setL m (Str.ofString "piece") (.tup [.str (x ++ y), .str (u ++ v)]), σ) := by
  (have e : wb 2 = wb 2 := rfl; conv at e => rhs; whnf)
  rw [e]
  simp only [ev_const, const_str, ev_name, ev_tuple, ev_callA, evs_nil, evs_cons, ex_assign, bind1_some, bind2_some]
  simp only [mth_join, emptyStr, hp, hb, bind1_some, bind2_some, recv_join, if_true, if_true, join2 h1, join2 h2, tup2]
theorem wb_tail {x y u v : List Nat} (P : OPr O) (hm : m.lookup (Str.ofString "pile") = some (.ref a)) (hp : m.lookup (Str.ofString "piece") = some (.tup [.str x, .str y]))
    (h : σ[a]? = some (.acc size (xs ++ [.tup [.str u, .str v]]))) (hx : xs.length ≤ 1000) (h1 : x.length + y.length ≤ 1000) (h2 : u.length + v.length ≤ 1000) :
    exs O m (bOf (fb 1)) σ = if ltL (x ++ y) (u ++ v) then some (.next, setL (setL m (Str.ofString "below") (.tup [.str u, .str v])) (Str.ofString "piece") (.tup [.str (x ++ y), .str (u ++ v)]), σ.set a (.acc size xs))
      else some (.brk, setL m (Str.ofString "below") (.tup [.str u, .str v]), σ) := by
  have hl : a < σ.length := (List.getElem?_eq_some_iff.mp h).1
  have g1 : (σ.set a (Cell.acc size xs))[a]? = some (.acc size xs) := by simp [hl]
  have k1 : (setL m (Str.ofString "below") (.tup [.str u, .str v])).lookup (Str.ofString "pile") = some (.ref a) := by rw [lookup_setL, if_neg (by decide)]; exact hm
  have k2 : (setL m (Str.ofString "below") (.tup [.str u, .str v])).lookup (Str.ofString "piece") = some (.tup [.str x, .str y]) := by rw [lookup_setL, if_neg (by decide)]; exact hp
  have k3 : (setL m (Str.ofString "below") (.tup [.str u, .str v])).lookup (Str.ofString "below") = some (.tup [.str u, .str v]) := by rw [lookup_setL, if_pos rfl]
  rw [wb_is, exs_cons, steps_w0 P hm h hx]
  simp only
  rw [exs_cons, steps_w1 P k1 k2 k3 g1 hx h1 h2]
  cases hl : ltL (x ++ y) (u ++ v) with
  | true =>
    simp only [if_true]
    rw [exs_cons, steps_w2 k2 k3 h1 h2]
    rfl
  | false =>
    simp only [Bool.false_eq_true, if_false, List.set_set]
    have : σ.set a (Cell.acc size (xs ++ [.tup [.str u, .str v]])) = σ := by
      obtain ⟨_, hg⟩ := List.getElem?_eq_some_iff.mp h
      rw [← hg]; simp
    rw [this]
end Mine.L3
end

section
open PySem PySem.W PyProof.Rows
set_option maxRecDepth 100000
set_option linter.unusedSimpArgs false
set_option maxHeartbeats 1000000
namespace Mine.L3

noncomputable abbrev Pr := List Nat × List Nat
noncomputable abbrev prV (p : Pr) : AV := .tup [.str p.1, .str p.2]
/-- the loop that takes pieces together: the stack's top is at the list's head -/
noncomputable def mergeP : List Pr → Pr → List Pr × Pr
  | [], p => ([], p)
  | b :: r, p => if ltL (p.1 ++ p.2) (b.1 ++ b.2) then mergeP r (p.1 ++ p.2, b.1 ++ b.2) else (b :: r, p)
theorem mergeP_0 {p : Pr} : mergeP [] p = ([], p) := rfl
theorem mergeP_s {b p : Pr} {r : List Pr} : mergeP (b :: r) p = if ltL (p.1 ++ p.2) (b.1 ++ b.2) then mergeP r (p.1 ++ p.2, b.1 ++ b.2) else (b :: r, p) := rfl

variable {O : Oracle} {a : Nat} {size : Int}

noncomputable def stk (st : List Pr) : List AV := (st.map prV).reverse
noncomputable def wt (st : List Pr) : Nat := (st.map fun p => p.1.length + p.2.length).sum

theorem steps_loop (P : OPr O) : ∀ (st : List Pr) (p : Pr) (fuel : Nat) (m : Loc) (σ : Sto), m.lookup (Str.ofString "pile") = some (.ref a) → m.lookup (Str.ofString "piece") = some (prV p) → σ[a]? = some (.acc size (stk st)) →
    st.length < fuel → st.length ≤ 1000 → p.1.length + p.2.length + wt st ≤ 1000 →
    ∃ m', whileN (fun m σ => tr O m (tOf (fb 1)) σ (ev O m (tOf (fb 1)) σ)) (fun m σ => exs O m (bOf (fb 1)) σ) fuel m σ = some (.next, m', σ.set a (.acc size (stk (mergeP st p).1))) ∧
      m'.lookup (Str.ofString "piece") = some (prV (mergeP st p).2) ∧ ∀ x, x ≠ Str.ofString "piece" → x ≠ Str.ofString "below" → m'.lookup x = m.lookup x := by
  intro st
  induction st with
  | nil =>
    intro p fuel m σ hm hp h hf hl hw
    obtain ⟨f, rfl⟩ : ∃ f, fuel = f + 1 := ⟨fuel - 1, by simp at hf; omega⟩
    refine ⟨m, ?_, hp, fun _ _ _ => rfl⟩
    simp only [whileN_eq, steps_t P hm h (by simp [stk]), stk, mergeP_0]
    have : σ.set a (Cell.acc size (stk [])) = σ := by
      obtain ⟨_, hg⟩ := List.getElem?_eq_some_iff.mp h
      rw [← hg]; simp
    simp [stk] at this
    simp [this]
  | cons b r ih =>
    intro p fuel m σ hm hp h hf hl hw
    obtain ⟨f, rfl⟩ : ∃ f, fuel = f + 1 := ⟨fuel - 1, by simp at hf; omega⟩
    have hs : stk (b :: r) = stk r ++ [prV b] := by simp [stk]
    have hsl : (stk r).length = r.length := by simp [stk]
    simp only [List.length_cons] at hf hl
    have hwt : wt (b :: r) = b.1.length + b.2.length + wt r := by simp [wt]
    rw [hwt] at hw
    rw [hs] at h
    simp only [whileN_eq, steps_t P hm h (by simp [hsl]; omega)]
    have hpos : decide (0 < (stk r ++ [prV b]).length) = true := by simp
    rw [hpos]
    simp only
    rw [wb_tail P hm hp h (by omega) (by omega) (by omega)]
    simp only [mergeP_s]
    cases hlt : ltL (p.1 ++ p.2) (b.1 ++ b.2) with
    | true =>
      have hla : a < σ.length := (List.getElem?_eq_some_iff.mp h).1
      simp only [if_true]
      obtain ⟨m', e1, e2, e3⟩ := ih (p.1 ++ p.2, b.1 ++ b.2) f (setL (setL m (Str.ofString "below") (prV b)) (Str.ofString "piece") (.tup [.str (p.1 ++ p.2), .str (b.1 ++ b.2)])) (σ.set a (.acc size (stk r)))
        (by rw [lookup_setL, if_neg (by decide), lookup_setL, if_neg (by decide)]; exact hm) (by rw [lookup_setL, if_pos rfl]) (by simp [hla]) (by omega) (by omega) (by simp only [List.length_append]; omega)
      refine ⟨m', ?_, e2, fun x h1 h2 => ?_⟩
      · rw [List.set_set] at e1
        exact e1
      · rw [e3 x h1 h2, lookup_setL, if_neg h1, lookup_setL, if_neg h2]
    | false =>
      simp only [Bool.false_eq_true, if_false]
      refine ⟨setL m (Str.ofString "below") (prV b), ?_, ?_, fun x h1 h2 => ?_⟩
      · have : σ.set a (Cell.acc size (stk (b :: r))) = σ := by
          rw [hs]
          obtain ⟨_, hg⟩ := List.getElem?_eq_some_iff.mp h
          rw [← hg]; simp
        rw [this]
      · rw [lookup_setL, if_neg (by decide)]; exact hp
      · rw [lookup_setL, if_neg h2]
end Mine.L3
end

section
open PySem PySem.W PyProof.Rows
set_option maxRecDepth 100000
set_option linter.unusedSimpArgs false
set_option maxHeartbeats 1000000
namespace Mine.L3
variable {O : Oracle} {a b : Nat} {size : Int} {σ : Sto} {m : Loc} {xs : List AV}
theorem fb_is : forB (sp 2) = [fb 0, fb 1, fb 2, fb 3] := by kernel_rfl
theorem steps_f0 {x : List Nat} (h : m.lookup (Str.ofString "sign") = some (.str x)) : ex O m (fb 0) σ = some (.next, setL m (Str.ofString "piece") (.tup [.str x, .str []]), σ) := by
  (have e : fb 0 = fb 0 := rfl; conv at e => rhs; whnf)
  rw [e]
  simp only [ev_const, const_str, ev_name, ev_tuple, evs_nil, evs_cons, ex_assign, bind1_some, bind2_some]
  simp only [h, bind1_some, bind2_some, if_true, emptyStr, tup2, if_true]
theorem steps_f1 (m : Loc) : ex O m (fb 1) σ = whileN (fun m σ => tr O m (tOf (fb 1)) σ (ev O m (tOf (fb 1)) σ)) (fun m σ => exs O m (bOf (fb 1)) σ) 100 m σ := by rfl
theorem steps_f2 {x y : List Nat} (P : OPr O) (hm : m.lookup (Str.ofString "pile") = some (.ref a)) (hp : m.lookup (Str.ofString "piece") = some (.tup [.str x, .str y])) (h : σ[a]? = some (.acc size xs)) (hx : xs.length ≤ 1000) :
    ex O m (fb 2) σ = some (.next, m, σ.set a (.acc size (xs ++ [.tup [.str x, .str y]]))) := by
  (have e : fb 2 = fb 2 := rfl; conv at e => rhs; whnf)
  rw [e]
  simp only [ev_const, const_int, ev_name, ev_callA, ev_subC, evs_nil, evs_cons, ex_expr, bind1_some, bind2_some]
  simp only [mth_push, hm, hp, bind1_some, bind2_some, recv_push, meth_push, isAccAt, if_true, h, if_true, subs_t0, subs_t1, push_call P h hx]
theorem append_call {v : AV} (h : σ[b]? = some (.list xs)) (hx : xs.length ≤ 1000) : methCall O .append (.ref b) [v] σ = some (.none, σ.set b (.list (xs ++ [v]))) := by
  show (bind1 (listAt σ b) fun xs => if sizeOk xs.length then some (AV.none, σ.set b (.list (xs ++ [v]))) else none) = _
  rw [listAt_of h, bind1_some, if_pos (show sizeOk xs.length = true from Nat.ble_eq_true_of_le (by omega))]
theorem steps_f3 {x y : List Nat} (hm : m.lookup (Str.ofString "steps") = some (.ref b)) (hp : m.lookup (Str.ofString "piece") = some (.tup [.str x, .str y])) (hl : m.lookup (Str.ofString "len") = none) (h : σ[b]? = some (.list xs)) (hx : xs.length ≤ 1000) (h1 : x.length + y.length ≤ 1000) :
    ex O m (fb 3) σ = some (.next, m, σ.set b (.list (xs ++ [.int (x ++ y).length]))) := by
  (have e : fb 3 = fb 3 := rfl; conv at e => rhs; whnf)
  rw [e]
  simp only [ev_const, const_str, ev_name, ev_callN, ev_callA, evs_nil, evs_cons, ex_expr, bind1_some, bind2_some]
  simp only [mth_append, mth_join, emptyStr, hm, hp, hl, bind1_some, bind2_some, recv_append, recv_join, listAt, Option.isSome_some, if_true, if_false, Bool.false_eq_true, h, if_true, Option.isSome_none, Bool.false_eq_true, if_false, bif_len, join2 h1, len_str O σ (w := x ++ y) (by simp; omega), append_call h hx]
end Mine.L3
end

section
open PySem PySem.W PyProof.Rows
set_option maxRecDepth 100000
set_option linter.unusedSimpArgs false
set_option maxHeartbeats 1000000
namespace Mine.L3
variable {O : Oracle} {a b : Nat} {size : Int}

noncomputable def signP (s : List Pr × List Nat) (c : Nat) : List Pr × List Nat :=
  ((mergeP s.1 ([c], [])).2 :: (mergeP s.1 ([c], [])).1, s.2 ++ [((mergeP s.1 ([c], [])).2.1 ++ (mergeP s.1 ([c], [])).2.2).length])

theorem merge_len : ∀ (st : List Pr) (p : Pr), (mergeP st p).1.length ≤ st.length ∧ wt (mergeP st p).1 + ((mergeP st p).2.1.length + (mergeP st p).2.2.length) = wt st + (p.1.length + p.2.length)
  | [], p => ⟨Nat.le_refl _, rfl⟩
  | b :: r, p => by
    simp only [mergeP_s]
    have hw : wt (b :: r) = b.1.length + b.2.length + wt r := by simp [wt]
    split
    · obtain ⟨h1, h2⟩ := merge_len r (p.1 ++ p.2, b.1 ++ b.2)
      simp only [List.length_append] at h2
      refine ⟨by simp only [List.length_cons]; omega, by omega⟩
    · exact ⟨Nat.le_refl _, rfl⟩

structure InvS (m : Loc) (σ : Sto) (a b : Nat) (size : Int) (s : List Pr × List Nat) : Prop where
  pile : m.lookup (Str.ofString "pile") = some (.ref a)
  steps : m.lookup (Str.ofString "steps") = some (.ref b)
  len : m.lookup (Str.ofString "len") = none
  acc : σ[a]? = some (.acc size (stk s.1))
  out : σ[b]? = some (.list (s.2.map fun (n : Nat) => AV.int n))
  ne : a ≠ b

theorem steps_turn (P : OPr O) {m : Loc} {σ : Sto} {s : List Pr × List Nat} (c : Nat) (I : InvS m σ a b size s) (h1 : s.1.length ≤ 90) (h2 : wt s.1 ≤ 90) (h3 : s.2.length ≤ 90) :
    ∃ m', exs O (setL m (Str.ofString "sign") (.str [c])) (forB (sp 2)) σ = some (.next, m', (σ.set a (.acc size (stk (signP s c).1))).set b (.list ((signP s c).2.map fun (n : Nat) => AV.int n))) ∧
      InvS m' ((σ.set a (.acc size (stk (signP s c).1))).set b (.list ((signP s c).2.map fun (n : Nat) => AV.int n))) a b size (signP s c) := by
  obtain ⟨hl, hw⟩ := merge_len s.1 ([c], [])
  have hla : a < σ.length := (List.getElem?_eq_some_iff.mp I.acc).1
  have hlb : b < σ.length := (List.getElem?_eq_some_iff.mp I.out).1
  simp only [List.length_singleton, List.length_nil] at hw
  have k0 : (setL m (Str.ofString "sign") (.str [c])).lookup (Str.ofString "sign") = some (.str [c]) := by rw [lookup_setL, if_pos rfl]
  generalize hm0 : setL (setL m (Str.ofString "sign") (.str [c])) (Str.ofString "piece") (.tup [.str [c], .str []]) = m0
  have f0 : ∀ x, x ≠ Str.ofString "sign" → x ≠ Str.ofString "piece" → m0.lookup x = m.lookup x := fun x q1 q2 => by
    rw [← hm0, lookup_setL, if_neg q2, lookup_setL, if_neg q1]
  have kp : m0.lookup (Str.ofString "piece") = some (prV ([c], [])) := by rw [← hm0, lookup_setL, if_pos rfl]
  obtain ⟨m1, e1, e2, e3⟩ := steps_loop P s.1 ([c], []) 100 m0 σ ((f0 _ (by decide) (by decide)).trans I.pile) kp I.acc (by omega) (by omega) (by simp; omega)
  have g : ∀ x, x ≠ Str.ofString "piece" → x ≠ Str.ofString "below" → x ≠ Str.ofString "sign" → m1.lookup x = m.lookup x := fun x q1 q2 q3 => (e3 x q1 q2).trans (f0 x q3 q1)
  have s1 : (σ.set a (Cell.acc size (stk (mergeP s.1 ([c], [])).1)))[a]? = some (.acc size (stk (mergeP s.1 ([c], [])).1)) := by simp [hla]
  have hsl : (stk (mergeP s.1 ([c], [])).1).length = (mergeP s.1 ([c], [])).1.length := by simp [stk]
  refine ⟨m1, ?_, ⟨(g _ (by decide) (by decide) (by decide)).trans I.pile, (g _ (by decide) (by decide) (by decide)).trans I.steps, (g _ (by decide) (by decide) (by decide)).trans I.len, ?_, ?_, I.ne⟩⟩
  · rw [fb_is, exs_cons, steps_f0 k0, hm0]
    simp only
    rw [exs_cons, steps_f1, e1]
    simp only
    rw [exs_cons, steps_f2 P ((g _ (by decide) (by decide) (by decide)).trans I.pile) e2 s1 (by omega)]
    simp only [List.set_set]
    have s2 : (σ.set a (Cell.acc size (stk (mergeP s.1 ([c], [])).1 ++ [.tup [.str (mergeP s.1 ([c], [])).2.1, .str (mergeP s.1 ([c], [])).2.2]])))[b]? = some (.list (s.2.map fun (n : Nat) => AV.int n)) := by
      rw [List.getElem?_set_ne I.ne]; exact I.out
    rw [exs_cons, steps_f3 ((g _ (by decide) (by decide) (by decide)).trans I.steps) e2 ((g _ (by decide) (by decide) (by decide)).trans I.len) s2 (by simp; omega) (by omega)]
    simp only [exs_nil]
    have t1 : stk (signP s c).1 = stk (mergeP s.1 ([c], [])).1 ++ [.tup [.str (mergeP s.1 ([c], [])).2.1, .str (mergeP s.1 ([c], [])).2.2]] := by simp [signP, stk]
    have t2 : ((signP s c).2.map fun (n : Nat) => AV.int n) = (s.2.map fun (n : Nat) => AV.int n) ++ [.int ((mergeP s.1 ([c], [])).2.1 ++ (mergeP s.1 ([c], [])).2.2).length] := by simp [signP]
    rw [t1, t2]
  · rw [List.getElem?_set_ne (Ne.symm I.ne)]; simp [hla]
  · simp [hlb]
end Mine.L3
end

section
open PySem PySem.W PyProof.Rows
set_option maxRecDepth 100000
set_option linter.unusedSimpArgs false
set_option maxHeartbeats 1000000
namespace Mine.L3
variable {O : Oracle} {a b : Nat} {size : Int}

/-- a loop over a text's signs -/
theorem forN_str {body : AV → Loc → Sto → Option (AFlow × Loc × Sto)} {S : Type} {Inv : S → Nat → Loc → Sto → Prop} {f : S → Nat → S} (l : List Nat)
    (h : ∀ s i m σ (hi : i < l.length), Inv s i m σ → ∃ m' σ', body (.str [l[i]]) m σ = some (.next, m', σ') ∧ Inv (f s l[i]) (i + 1) m' σ') :
    ∀ (k i fuel : Nat) (s : S) (m : Loc) (σ : Sto), i + k = l.length → k < fuel → Inv s i m σ → ∃ m' σ', forN (nextOf (.str l)) body fuel i m σ = some (.next, m', σ') ∧ Inv ((l.drop i).foldl f s) l.length m' σ'
  | k, i, 0, s, m, σ, _, hf, _ => by omega
  | 0, i, fuel + 1, s, m, σ, hi, _, I => by
    have : i = l.length := by omega
    subst this
    refine ⟨m, σ, ?_, by simpa using I⟩
    simp [forN_eq, nextOf_str]
  | k + 1, i, fuel + 1, s, m, σ, hi, hf, I => by
    have hlt : i < l.length := by omega
    obtain ⟨m', σ', e, I'⟩ := h s i m σ hlt I
    obtain ⟨m'', σ'', e2, I2⟩ := forN_str l h k (i + 1) fuel (f s l[i]) m' σ' (by omega) (by omega) I'
    refine ⟨m'', σ'', ?_, ?_⟩
    · simp only [forN_eq, nextOf_str, List.getElem?_eq_getElem hlt, Option.map_some, e]
      exact e2
    · rw [List.drop_eq_getElem_cons hlt, List.foldl_cons]
      exact I2
end Mine.L3
end

section
open PySem PySem.W PyProof.Rows
set_option maxRecDepth 100000
set_option linter.unusedSimpArgs false
set_option maxHeartbeats 1000000
namespace Mine.L3
variable {O : Oracle} {size : Int}

noncomputable def stepsP (w : List Nat) : List Nat := (w.reverse.foldl signP ([], [])).2.reverse
theorem steps_body : (fnOf "_law_steps").body = [sp 0, sp 1, sp 2, sp 3] := by kernel_rfl
theorem steps_pars : (fnOf "_law_steps").params = [Str.ofString "text", Str.ofString "size"] := by kernel_rfl
theorem bif_acc : bifOf (Str.ofString "_Accumulator") = some .accum := by rfl
theorem new_call {σ : Sto} (P : OPr O) : O (Str.ofString "#new") [.int size] σ = some (.ref σ.length, σ ++ [.acc size []]) := by
  rw [P.p _ _ _ (by decide), prim1]
  rfl
noncomputable abbrev la (w : List Nat) (size : Int) : Loc := [("text", .str w), ("size", .int size)]
noncomputable abbrev lb (w : List Nat) (size : Int) (r : Nat) : Loc := [("text", .str w), ("size", .int size), ("pile", .ref r)]
noncomputable abbrev lc (w : List Nat) (size : Int) (r q : Nat) : Loc := [("text", .str w), ("size", .int size), ("pile", .ref r), ("steps", .ref q)]
theorem steps_0 {σ : Sto} (P : OPr O) (w : List Nat) : ex O (la w size) (sp 0) σ = some (.next, lb w size σ.length, σ ++ [.acc size []]) := by
  (have e : sp 0 = sp 0 := rfl; conv at e => rhs; whnf)
  rw [e]
  simp only [ev_name, ev_callN, evs_nil, evs_cons, ex_assign, List.lookup, setL, ofString_beq, ofString_eq, String.reduceBEq, String.reduceEq, bind1_some, bind2_some, if_false]
  simp only [bif_acc, new_call P, Option.isSome_none, bind2_some, b_new, if_false, Bool.false_eq_true]
theorem steps_1 {σ : Sto} (w : List Nat) (r : Nat) : ex O (lb w size r) (sp 1) σ = some (.next, lc w size r σ.length, σ ++ [.list []]) := by
  (have e : sp 1 = sp 1 := rfl; conv at e => rhs; whnf)
  rw [e]
  simp only [ev_list, evs_nil, ex_assign, setL, ofString_eq, String.reduceEq, List.length_nil, bind2_some, if_false]
  rfl
theorem range_pick {α : Type} (l : List α) : (List.range l.length).filterMap (l[·]?) = l := by
  induction l with
  | nil => rfl
  | cons x l ih =>
    rw [List.length_cons, List.range_succ_eq_map, List.filterMap_cons, List.filterMap_map]
    simp only [List.getElem?_cons_zero]
    congr 1
theorem pick_rev {α : Type} (l : List α) : pickL l none none (some (-1)) = l.reverse := by
  unfold pickL
  rw [show (some (-1 : Int)).getD 1 = -1 from rfl, picked_rev]
  have h : ((List.range l.length).map fun k => l.length - 1 - k) = (List.range l.length).reverse := by
    refine List.ext_getElem (by simp) fun i h1 h2 => ?_
    simp
  rw [h, List.filterMap_reverse, range_pick]
theorem pick_plain {α : Type} (l : List α) {a b : Nat} (hab : a ≤ b) (hb : b ≤ l.length) : pickL l (some (a : Int)) (some (b : Int)) none = (l.drop a).take (b - a) := by
  unfold pickL
  rw [show (none : Option Int).getD 1 = 1 from rfl, StrLaws.strSliceIndices_plain hab hb]
  exact StrLaws.picks l (b - a) a (by omega)
theorem pick_to {α : Type} (l : List α) {b : Nat} (hb : b ≤ l.length) : pickL l none (some (b : Int)) none = l.take b := by
  have h := pick_plain l (Nat.zero_le b) hb
  have e : pickL l none (some (b : Int)) none = pickL l (some ((0 : Nat) : Int)) (some (b : Int)) none := by
    unfold pickL
    rw [show (none : Option Int).getD 1 = 1 from rfl, StrLaws.sliceIdx_none_lo]
    rfl
  rw [e, h]
  simp

/-- what a call leaves of the store: all that was there -/
noncomputable def Keeps (σ σ' : Sto) : Prop := ∀ (i : Nat) (c : Cell), σ[i]? = some c → σ'[i]? = some c
theorem Keeps.refl (σ : Sto) : Keeps σ σ := fun _ _ h => h
theorem Keeps.trans {σ σ' σ'' : Sto} (h : Keeps σ σ') (k : Keeps σ' σ'') : Keeps σ σ'' := fun i c e => k i c (h i c e)
theorem Keeps.app (σ t : Sto) : Keeps σ (σ ++ t) := fun i c e => by
  have h := (List.getElem?_eq_some_iff.mp e).1
  rw [List.getElem?_append_left h]; exact e
theorem Keeps.setNew {σ σ' : Sto} {r : Nat} (c : Cell) (h : Keeps σ σ') (hr : σ.length ≤ r) : Keeps σ (σ'.set r c) := fun i d e => by
  have hi := (List.getElem?_eq_some_iff.mp e).1
  rw [List.getElem?_set_ne (by omega)]; exact h i d e

theorem bound_none : bound none = some none := rfl
theorem bound_int {i : Int} (h : intOk i = true) : bound (some (.int i)) = some (some i) := by rw [bound_i, if_pos h]
theorem intOk_of {i : Int} (h : i.natAbs ≤ 1000000000000) : intOk i = true := Nat.ble_eq_true_of_le h
theorem sizeOk_of {n : Nat} (h : n ≤ 1000000) : sizeOk n = true := Nat.ble_eq_true_of_le h
theorem no0 : ¬ (some (-1 : Int) = some 0) := by decide
theorem slc_rev {σ : Sto} {w : List Nat} (hw : w.length ≤ 1000) : slc (.str w) none none (some (-1)) σ = some (.str w.reverse, σ) := by
  show (if some (-1 : Int) = some 0 then none else if sizeOk w.length then some (AV.str (pickL w none none (some (-1))), σ) else none) = _
  rw [if_neg no0, if_pos (sizeOk_of (show w.length ≤ 1000000 by omega)), pick_rev]
theorem slc_revL {σ : Sto} {r : Nat} {xs : List AV} (h : σ[r]? = some (.list xs)) (hw : xs.length ≤ 1000) : slc (.ref r) none none (some (-1)) σ = some (.ref σ.length, σ ++ [.list xs.reverse]) := by
  show (if some (-1 : Int) = some 0 then none else bind1 (listAt σ r) fun xs => if sizeOk xs.length then some (AV.ref σ.length, σ ++ [Cell.list (pickL xs none none (some (-1)))]) else none) = _
  rw [if_neg no0, listAt_of h, bind1_some, if_pos (sizeOk_of (show xs.length ≤ 1000000 by omega)), pick_rev]

noncomputable def forI : PySem.Stmt → PySem.Expr
  | .For _ i _ _ _ => i
  | _ => .Constant .none 0 default
theorem ex_for {O : Oracle} {m : Loc} {t i : PySem.Expr} {b : List PySem.Stmt} {p : _} {σ σ1 : Sto} {src : AV} (h : ev O m i σ = some (src, σ1)) (hs : srcOk t src σ1 = true) :
    ex O m (.For t i b [] p) σ = forN (nextOf src) (fun v m σ => bind1 (bindT t v m) fun m' => exs O m' b σ) (fuelOf src σ1) 0 m σ1 := by
  show (bind2 (ev O m i σ) fun src σ1 => if srcOk t src σ1 then forN (nextOf src) (fun v m σ => bind1 (bindT t v m) fun m' => exs O m' b σ) (fuelOf src σ1) 0 m σ1 else none) = _
  rw [h, bind2_some, if_pos hs]
theorem steps_i2 {σ : Sto} {m : Loc} {w : List Nat} (hm : m.lookup (Str.ofString "text") = some (.str w)) (hw : w.length ≤ 1000) : ev O m (forI (sp 2)) σ = some (.str w.reverse, σ) := by
  (have e : forI (sp 2) = forI (sp 2) := rfl; conv at e => rhs; whnf)
  rw [e]
  simp only [ev_const, const_int, ev_name, ev_usub, ev_subSl, evOpt_none, evOpt_some, bind1_some, bind2_some, as_int]
  simp only [hm, bind1_some, bind2_some, bound_none, bound_int (show intOk (-1) = true from rfl), slc_rev hw]
theorem steps_2 {σ : Sto} {m : Loc} {w : List Nat} (hm : m.lookup (Str.ofString "text") = some (.str w)) (hw : w.length ≤ 1000) :
    ex O m (sp 2) σ = forN (nextOf (.str w.reverse)) (fun v m σ => exs O (setL m (Str.ofString "sign") v) (forB (sp 2)) σ) (w.length + 1) 0 m σ := by
  have e : ∃ p q, sp 2 = .For (.Name "sign" p) (forI (sp 2)) (forB (sp 2)) [] q := ⟨_, _, by rfl⟩
  obtain ⟨p, q, e⟩ := e
  rw [show ex O m (sp 2) σ = _ from congrArg (fun s => ex O m s σ) e, ex_for (steps_i2 hm hw) rfl]
  simp only [bindT_name, bind1_some, fuelOf_str, List.length_reverse]
theorem steps_3 {σ : Sto} {m : Loc} {r : Nat} {xs : List AV} (hm : m.lookup (Str.ofString "steps") = some (.ref r)) (h : σ[r]? = some (.list xs)) (hx : xs.length ≤ 1000) :
    ex O m (sp 3) σ = some (.ret (.ref σ.length), m, σ ++ [.list xs.reverse]) := by
  (have e : sp 3 = sp 3 := rfl; conv at e => rhs; whnf)
  rw [e]
  simp only [ev_const, const_int, ev_name, ev_usub, ev_subSl, evOpt_none, evOpt_some, ex_return, bind1_some, bind2_some, as_int]
  simp only [hm, bind1_some, bind2_some, bound_none, bound_int (show intOk (-1) = true from rfl), slc_revL h hx]

theorem signP_len (s : List Pr × List Nat) (c : Nat) : (signP s c).1.length ≤ s.1.length + 1 ∧ wt (signP s c).1 = wt s.1 + 1 ∧ (signP s c).2.length = s.2.length + 1 := by
  obtain ⟨h1, h2⟩ := merge_len s.1 ([c], [])
  refine ⟨by simp only [signP, List.length_cons]; omega, ?_, by simp [signP]⟩
  simp only [signP, wt, List.map_cons, List.sum_cons] at *
  simp at h2
  omega

theorem steps_run (P : OPr O) {σ : Sto} {w : List Nat} (hw : w.length ≤ 80) :
    ∃ r σ', callFn O (fnOf "_law_steps") [.str w, .int size] σ = some (.ref r, σ') ∧ Keeps σ σ' ∧ σ'[r]? = some (.list ((stepsP w).map fun (n : Nat) => AV.int n)) := by
  rw [callFn_eq steps_pars steps_body rfl]
  have z : [Str.ofString "text", Str.ofString "size"].zip [AV.str w, AV.int size] = la w size := rfl
  rw [z, exs_cons, steps_0 P]
  simp only
  rw [exs_cons, steps_1]
  simp only
  generalize h2 : (σ ++ [Cell.acc size []] ++ [Cell.list []]) = σ2
  have hl1 : (σ ++ [Cell.acc size []]).length = σ.length + 1 := by simp
  have I0 : InvS (lc w size σ.length (σ ++ [Cell.acc size []]).length) σ2 σ.length (σ.length + 1) size ([], []) := by
    refine ⟨rfl, by rw [hl1]; rfl, rfl, ?_, ?_, by omega⟩
    · subst h2; simp [stk]
    · subst h2; simp
  have k0 : Keeps σ σ2 := by
    subst h2
    exact (Keeps.app _ _).trans (Keeps.app _ _)
  obtain ⟨m', σ', e, ⟨I, hk, _, _, _⟩⟩ := forN_str (f := signP) (body := fun v m σ => exs O (setL m (Str.ofString "sign") v) (forB (sp 2)) σ)
    (Inv := fun s i m σ' => InvS m σ' σ.length (σ.length + 1) size s ∧ Keeps σ σ' ∧ s.1.length ≤ i ∧ wt s.1 = i ∧ s.2.length = i) w.reverse
    (fun s i m σ' hi ⟨I, hk, l1, l2, l3⟩ => by
      have hi' : i < w.length := by simpa using hi
      obtain ⟨m', e, I'⟩ := steps_turn P w.reverse[i] I (by omega) (by omega) (by omega)
      obtain ⟨q1, q2, q3⟩ := signP_len s w.reverse[i]
      exact ⟨m', _, e, I', (hk.setNew _ (Nat.le_refl _)).setNew _ (by omega), by omega, by omega, by omega⟩)
    w.length 0 (w.length + 1) ([], []) _ σ2 (by simp) (by omega) ⟨I0, k0, by simp, by simp [wt], rfl⟩
  rw [exs_cons, steps_2 rfl (by omega), e]
  simp only
  have hlen : (((w.reverse.drop 0).foldl signP ([], [])).2.map fun (n : Nat) => AV.int n).length ≤ 1000 := by
    simp only [List.length_map]; simp only [List.length_reverse] at *; omega
  rw [exs_cons, steps_3 I.steps I.out hlen]
  refine ⟨_, _, rfl, hk.trans (Keeps.app _ _), ?_⟩
  simp [stepsP]
end Mine.L3
end

section
open PySem PySem.W PyProof.Rows
set_option maxRecDepth 100000
set_option linter.unusedSimpArgs false
set_option maxHeartbeats 1000000
namespace Mine.L3

/-- a loop over what is told as a list -/
theorem forN_list {src : AV} {L : List AV} {body : AV → Loc → Sto → Option (AFlow × Loc × Sto)} {S : Type} {Inv : S → Nat → Loc → Sto → Prop} {f : S → AV → S}
    (hn : ∀ s i m σ, Inv s i m σ → nextOf src i σ = some L[i]?)
    (h : ∀ s i m σ (hi : i < L.length), Inv s i m σ → ∃ m' σ', body L[i] m σ = some (.next, m', σ') ∧ Inv (f s L[i]) (i + 1) m' σ') :
    ∀ (k i fuel : Nat) (s : S) (m : Loc) (σ : Sto), i + k = L.length → k < fuel → Inv s i m σ → ∃ m' σ', forN (nextOf src) body fuel i m σ = some (.next, m', σ') ∧ Inv ((L.drop i).foldl f s) L.length m' σ'
  | k, i, 0, s, m, σ, _, hf, _ => by omega
  | 0, i, fuel + 1, s, m, σ, hi, _, I => by
    have : i = L.length := by omega
    subst this
    refine ⟨m, σ, ?_, by simpa using I⟩
    simp [forN_eq, hn _ _ _ _ I]
  | k + 1, i, fuel + 1, s, m, σ, hi, hf, I => by
    have hlt : i < L.length := by omega
    obtain ⟨m', σ', e, I'⟩ := h s i m σ hlt I
    obtain ⟨m'', σ'', e2, I2⟩ := forN_list hn h k (i + 1) fuel (f s L[i]) m' σ' (by omega) (by omega) I'
    refine ⟨m'', σ'', ?_, ?_⟩
    · simp only [forN_eq, hn _ _ _ _ I, List.getElem?_eq_getElem hlt, e]
      exact e2
    · rw [List.drop_eq_getElem_cons hlt, List.foldl_cons]
      exact I2

/-- the ints from a up to b -/
noncomputable def rngL (a b : Nat) : List AV := (List.range (b - a)).map fun i => .int ((a + i : Nat) : Int)
theorem rngL_len (a b : Nat) : (rngL a b).length = b - a := by simp [rngL]
theorem rngL_get {a b i : Nat} (h : i < (rngL a b).length) : (rngL a b)[i] = .int ((a + i : Nat) : Int) := by simp [rngL]
theorem next_rng (a b i : Nat) (σ : Sto) : nextOf (.rng a b 1) i σ = some (rngL a b)[i]? := by
  simp only [nextOf_rng]
  by_cases h : a + i < b
  · rw [if_pos (by omega), List.getElem?_eq_getElem (by rw [rngL_len]; omega), rngL_get]
    rfl
  · rw [if_neg (by omega), List.getElem?_eq_none (by rw [rngL_len]; omega)]
theorem fuel_rng (a b : Nat) (σ : Sto) : fuelOf (.rng a b 1) σ = (rngL a b).length + 1 := by
  simp only [fuelOf, rngL_len]
  omega
theorem next_list {σ : Sto} {r : Nat} {xs : List AV} (h : σ[r]? = some (.list xs)) (i : Nat) : nextOf (.ref r) i σ = some xs[i]? := by
  show (bind1 (listAt σ r) fun xs => some xs[i]?) = _
  rw [listAt_of h, bind1_some]
theorem srcOk_list {t : PySem.Expr} {σ : Sto} {r : Nat} {xs : List AV} (h : σ[r]? = some (.list xs)) : srcOk t (.ref r) σ = true := by
  show (listAt σ r).isSome = true
  rw [listAt_of h]
  rfl
theorem fuel_list {σ : Sto} {r : Nat} {xs : List AV} (h : σ[r]? = some (.list xs)) : fuelOf (.ref r) σ = xs.length + 1 := by simp only [fuelOf, h]

/-- a comprehension whose parts leave the store's cells as they are -/
theorem compN_keep {src : AV} {L : List AV} {elt : AV → Sto → Option (Option AV × Sto)} {g : AV → Option AV} {R : Sto → Prop}
    (hn : ∀ i σ, R σ → nextOf src i σ = some L[i]?) (hR : ∀ σ σ', R σ → Keeps σ σ' → R σ')
    (h : ∀ v, v ∈ L → ∀ σ, R σ → ∃ σ', elt v σ = some (g v, σ') ∧ Keeps σ σ') (hl : L.length ≤ 1000) :
    ∀ (k i fuel : Nat) (acc : List AV) (σ : Sto), i + k = L.length → k < fuel → acc.length ≤ i → R σ → ∃ σ', compN (nextOf src) elt fuel i acc σ = some (acc ++ (L.drop i).filterMap g, σ') ∧ Keeps σ σ'
  | k, i, 0, acc, σ, _, hf, _, _ => by omega
  | 0, i, fuel + 1, acc, σ, hi, _, _, I => by
    have : i = L.length := by omega
    subst this
    refine ⟨σ, ?_, Keeps.refl σ⟩
    simp [compN_eq, hn _ _ I]
  | k + 1, i, fuel + 1, acc, σ, hi, hf, ha, I => by
    have hlt : i < L.length := by omega
    obtain ⟨σ1, e, k1⟩ := h L[i] (List.getElem_mem hlt) σ I
    cases hg : g L[i] with
    | none =>
      obtain ⟨σ2, e2, k2⟩ := compN_keep hn hR h hl k (i + 1) fuel acc σ1 (by omega) (by omega) (by omega) (hR _ _ I k1)
      refine ⟨σ2, ?_, k1.trans k2⟩
      simp only [compN_eq, hn _ _ I, List.getElem?_eq_getElem hlt, e, hg]
      rw [e2, List.drop_eq_getElem_cons hlt, List.filterMap_cons, hg]
    | some y =>
      obtain ⟨σ2, e2, k2⟩ := compN_keep hn hR h hl k (i + 1) fuel (acc ++ [y]) σ1 (by omega) (by omega) (by simp; omega) (hR _ _ I k1)
      refine ⟨σ2, ?_, k1.trans k2⟩
      simp only [compN_eq, hn _ _ I, List.getElem?_eq_getElem hlt, e, hg, sizeOk_of (show acc.length ≤ 1000000 by omega), if_true]
      rw [e2, List.drop_eq_getElem_cons hlt, List.filterMap_cons, hg]
      simp

theorem lookup_filter {P : Str → Bool} {m : Loc} {x : Str} (h : P x = true) : (m.filter fun p => P p.1).lookup x = m.lookup x := by
  induction m with
  | nil => rfl
  | cons p r ih =>
    obtain ⟨k, v⟩ := p
    simp only [List.filter_cons]
    by_cases hk : P k = true
    · simp only [hk, if_true, List.lookup, ih]
    · have hne : (x == k) = false := by
        rw [beq_eq_false_iff_ne]
        intro e; subst e; exact hk h
      simp only [hk, List.lookup, hne, if_false, Bool.false_eq_true]
      exact ih
theorem lookup_sees {scope : Scope} {m : Loc} {x : Str} (h : scope.names.lookup x = some .free) : (sees scope m).lookup x = m.lookup x :=
  lookup_filter (P := fun y => scope.names.lookup y == some .free) (by rw [h]; rfl)
theorem lookup_sees_none {scope : Scope} {m : Loc} {x : Str} (h : m.lookup x = none) : (sees scope m).lookup x = none := by
  unfold sees
  induction m with
  | nil => rfl
  | cons p r ih =>
    obtain ⟨k, v⟩ := p
    simp only [List.lookup] at h
    cases hk : x == k with
    | true => rw [hk] at h; cases h
    | false =>
      rw [hk] at h
      simp only [List.filter_cons]
      split
      · simp only [List.lookup, hk]; exact ih h
      · exact ih h

/-- a turn of a comprehension -/
noncomputable def compF (O : Oracle) (m : Loc) (t : PySem.Expr) (ifs : List PySem.Expr) (elt : PySem.Expr) (scope : Scope) (v : AV) (σ2 : Sto) : Option (Option AV × Sto) :=
  bind1 (bindT t v (sees scope m)) fun m' => bind2 (trs O m' ifs σ2) fun c σ3 => if c then bind2 (ev O m' elt σ3) fun y σ4 => some (some y, σ4) else some (none, σ3)
theorem ev_comp {O : Oracle} {m : Loc} {elt t iter : PySem.Expr} {ifs : List PySem.Expr} {scope : Scope} {p : _} {σ σ1 σ2 : Sto} {src : AV} {ys : List AV}
    (h : ev O m iter σ = some (src, σ1)) (hs : srcOk t src σ1 = true) (hc : compN (nextOf src) (compF O m t ifs elt scope) (fuelOf src σ1) 0 [] σ1 = some (ys, σ2)) :
    ev O m (.ListComp elt [⟨t, iter, ifs, 0⟩] scope p) σ = some (.ref σ2.length, σ2 ++ [.list ys]) := by
  show (if (0 : Int) != 0 then none else bind2 (ev O m iter σ) fun src σ1 => if srcOk t src σ1 then bind2 (compN (nextOf src) (compF O m t ifs elt scope) (fuelOf src σ1) 0 [] σ1) fun ys σ2 => some (AV.ref σ2.length, σ2 ++ [Cell.list ys]) else none) = _
  rw [if_neg (by decide), h, bind2_some, if_pos hs, hc, bind2_some]
/-- a whole comprehension whose turns leave the store's cells as they are -/
theorem ev_comp_keep {O : Oracle} {m : Loc} {elt t iter : PySem.Expr} {ifs : List PySem.Expr} {scope : Scope} {p : _} {σ σ1 : Sto} {src : AV} {L : List AV} {g : AV → Option AV} (R : Sto → Prop)
    (h : ev O m iter σ = some (src, σ1)) (hs : srcOk t src σ1 = true) (hn : ∀ i σ, R σ → nextOf src i σ = some L[i]?) (hf : fuelOf src σ1 = L.length + 1)
    (hR : ∀ σ σ', R σ → Keeps σ σ' → R σ') (he : ∀ v, v ∈ L → ∀ σ, R σ → ∃ σ', compF O m t ifs elt scope v σ = some (g v, σ') ∧ Keeps σ σ') (hl : L.length ≤ 1000) (r1 : R σ1) :
    ∃ σ2, ev O m (.ListComp elt [⟨t, iter, ifs, 0⟩] scope p) σ = some (.ref σ2.length, σ2 ++ [.list (L.filterMap g)]) ∧ Keeps σ1 σ2 := by
  obtain ⟨σ2, e, k⟩ := compN_keep hn hR he hl L.length 0 (L.length + 1) [] σ1 (by omega) (by omega) (by simp) r1
  exact ⟨σ2, ev_comp h hs (by rw [hf, e]; rfl), k⟩
noncomputable def cElt : PySem.Expr → PySem.Expr
  | .ListComp e _ _ _ => e
  | _ => .Constant .none 0 default
noncomputable def cIter : PySem.Expr → PySem.Expr
  | .ListComp _ [g] _ _ => g.iter
  | _ => .Constant .none 0 default
noncomputable def cIfs : PySem.Expr → List PySem.Expr
  | .ListComp _ [g] _ _ => g.ifs
  | _ => []
noncomputable def asgE : PySem.Stmt → PySem.Expr
  | .Assign _ e _ => e
  | _ => .Constant .none 0 default
end Mine.L3
end

section
open PySem PySem.W PyProof.Rows
set_option maxRecDepth 100000
set_option linter.unusedSimpArgs false
set_option maxHeartbeats 1000000
namespace Mine.L3
noncomputable def ifT : PySem.Stmt → PySem.Expr
  | .If t _ _ _ => t
  | _ => .Constant .none 0 default
noncomputable def ifB : PySem.Stmt → List PySem.Stmt
  | .If _ b _ _ => b
  | _ => []
noncomputable def du (i : Nat) : PySem.Stmt := ((fnOf "_law_due").body[i]?).getD (.Pass default)
noncomputable def dI : PySem.Stmt := ((forB (du 1))[0]?).getD (.Pass default)
noncomputable def db (i : Nat) : PySem.Stmt := ((forB dI)[i]?).getD (.Pass default)
theorem db_is : forB dI = [db 0, db 1, db 2, db 3, db 4, db 5] := by kernel_rfl
theorem dI_is : forB (du 1) = [dI] := by kernel_rfl
theorem due_body : (fnOf "_law_due").body = [du 0, du 1, du 2] := by kernel_rfl
theorem due_pars : (fnOf "_law_due").params = [Str.ofString "word"] := by kernel_rfl

noncomputable def seg (w : List Nat) (a b : Nat) : List Nat := (w.drop a).take (b - a)
variable {O : Oracle} {σ : Sto} {m : Loc} {w : List Nat} {f l s : Nat}
theorem slc_seg {a b : Nat} {i j : Int} (hi : i = a) (hj : j = b) (hab : a ≤ b) (hb : b ≤ w.length) (hw : w.length ≤ 1000) : slc (.str w) (some i) (some j) none σ = some (.str (seg w a b), σ) := by
  subst hi; subst hj
  simp only [slc_str', if_neg (show ¬ ((none : Option Int) = some 0) by decide), sizeOk_of (show w.length ≤ 1000000 by omega), if_true, pick_plain w hab hb, seg, if_true]

structure LD (m : Loc) (w : List Nat) (f l : Nat) : Prop where
  word : m.lookup (Str.ofString "word") = some (.str w)
  first : m.lookup (Str.ofString "first") = some (.int f)
  last : m.lookup (Str.ofString "last") = some (.int l)
  len : m.lookup (Str.ofString "len") = none
theorem LD.set {x : Str} {v : AV} (h : LD m w f l) (h1 : Str.ofString "word" ≠ x) (h2 : Str.ofString "first" ≠ x) (h3 : Str.ofString "last" ≠ x) (h4 : Str.ofString "len" ≠ x) : LD (setL m x v) w f l :=
  ⟨by rw [lookup_setL, if_neg h1]; exact h.word, by rw [lookup_setL, if_neg h2]; exact h.first, by rw [lookup_setL, if_neg h3]; exact h.last, by rw [lookup_setL, if_neg h4]; exact h.len⟩

theorem due_wt (L : LD m w f l) (hs : m.lookup (Str.ofString "step") = some (.int s)) (h1 : f + s ≤ l) (hl : l ≤ w.length) (hw : w.length ≤ 1000) :
    tr O m (tOf (db 2)) σ (ev O m (tOf (db 2)) σ) = some (!(seg w (f + s) l == seg w f (l - s)), σ) := by
  (have e : tOf (db 2) = tOf (db 2) := rfl; conv at e => rhs; whnf)
  rw [e]
  simp only [tr_cmp, ev_name, ev_binop, ev_cmp, isQ_sub, ev_subSl, evOpt_none, evOpt_some, bind2_some, cmp_ne, if_false, Bool.false_eq_true]
  simp only [L.word, L.first, L.last, hs, bind1_some, bind2_some, byV_bool, add_int', sub_int', eqTop_str, bound_none, bound_int (show intOk ((f : Int) + (s : Int)) = true from intOk_of (by omega)), bound_int (show intOk (l : Int) = true from intOk_of (by omega)),
    bound_int (show intOk (f : Int) = true from intOk_of (by omega)), bound_int (show intOk ((l : Int) - (s : Int)) = true from intOk_of (by omega)),
    slc_seg (σ := σ) (show ((f : Int) + (s : Int)) = ((f + s : Nat) : Int) by omega) (show (l : Int) = (l : Nat) from rfl) h1 hl hw,
    slc_seg (σ := σ) (show (f : Int) = (f : Nat) from rfl) (show ((l : Int) - (s : Int)) = ((l - s : Nat) : Int) by omega) (show f ≤ l - s by omega) (show l - s ≤ w.length by omega) hw]
theorem due_wb (hs : m.lookup (Str.ofString "step") = some (.int s)) : exs O m (bOf (db 2)) σ = some (.next, setL m (Str.ofString "step") (.int (s + 1 : Nat)), σ) := by
  (have e : bOf (db 2) = bOf (db 2) := rfl; conv at e => rhs; whnf)
  rw [e]
  simp only [ev_const, const_int, ev_name, ev_binop, ex_assign, exs_nil, exs_more, bind1_some, bind2_some]
  simp only [hs, bind1_some, bind2_some, add_int']
  rfl
noncomputable def perP (w : List Nat) (f l : Nat) : Nat → Nat → Nat
  | 0, s => s
  | k + 1, s => if seg w (f + s) l = seg w f (l - s) then s else perP w f l k (s + 1)
theorem perP_0 {w : List Nat} {f l s : Nat} : perP w f l 0 s = s := rfl
theorem perP_s {w : List Nat} {f l k s : Nat} : perP w f l (k + 1) s = if seg w (f + s) l = seg w f (l - s) then s else perP w f l k (s + 1) := rfl
theorem due_wl (hl : l ≤ w.length) (hw : w.length ≤ 1000) : ∀ (k s fuel : Nat) (m : Loc), LD m w f l → m.lookup (Str.ofString "step") = some (.int s) → f + s + k = l → k < fuel →
    ∃ m', whileN (fun m σ => tr O m (tOf (db 2)) σ (ev O m (tOf (db 2)) σ)) (fun m σ => exs O m (bOf (db 2)) σ) fuel m σ = some (.next, m', σ) ∧ LD m' w f l ∧ m'.lookup (Str.ofString "step") = some (.int (perP w f l k s)) ∧
      ∀ x, x ≠ Str.ofString "step" → m'.lookup x = m.lookup x
  | k, s, 0, m, _, _, _, h => by omega
  | 0, s, fuel + 1, m, L, hs, hk, _ => by
    refine ⟨m, ?_, L, hs, fun _ _ => rfl⟩
    simp only [whileN_eq, due_wt L hs (by omega) hl hw]
    have : seg w (f + s) l == seg w f (l - s) := by
      have e1 : l - (f + s) = 0 := by omega
      have e2 : l - s - f = 0 := by omega
      simp [seg, e1, e2]
    simp [this]
  | k + 1, s, fuel + 1, m, L, hs, hk, hf => by
    simp only [whileN_eq, due_wt L hs (by omega) hl hw, perP_s]
    by_cases q : seg w (f + s) l = seg w f (l - s)
    · refine ⟨m, ?_, L, ?_, fun _ _ => rfl⟩
      · simp [q]
      · rw [if_pos q]; exact hs
    · have q' : (seg w (f + s) l == seg w f (l - s)) = false := beq_eq_false_iff_ne.mpr q
      simp only [q', Bool.not_false, due_wb hs, if_neg q]
      obtain ⟨m', e1, e2, e3, e4⟩ := due_wl hl hw k (s + 1) fuel (setL m (Str.ofString "step") (.int (s + 1 : Nat))) (L.set (by decide) (by decide) (by decide) (by decide)) (by rw [lookup_setL, if_pos rfl]) (by omega) (by omega)
      exact ⟨m', e1, e2, e3, fun x hx => by rw [e4 x hx, lookup_setL, if_neg hx]⟩

noncomputable def aheadP (w : List Nat) (f s : Nat) : Bool := decide (0 < f) && decide (w[f - 1]? = w[f - 1 + s]?)
noncomputable def behindP (w : List Nat) (l s : Nat) : Bool := decide (l < w.length) && decide (w[l]? = w[l - s]?)
theorem due_0 (L : LD m w f l) (h : f ≤ l) : ex O m (db 0) σ = some (.next, setL m (Str.ofString "size") (.int (l - f : Nat)), σ) := by
  (have e : db 0 = db 0 := rfl; conv at e => rhs; whnf)
  rw [e]
  simp only [ev_name, ev_binop, ex_assign]
  simp only [L.first, L.last, bind1_some, bind2_some, sub_int']
  rw [show ((l : Int) - (f : Int)) = ((l - f : Nat) : Int) by omega]
theorem due_1 : ex O m (db 1) σ = some (.next, setL m (Str.ofString "step") (.int 1), σ) := by
  (have e : db 1 = db 1 := rfl; conv at e => rhs; whnf)
  rw [e]
  simp only [ev_const, const_int, ex_assign, bind1_some, bind2_some]
theorem due_2 (m : Loc) : ex O m (db 2) σ = whileN (fun m σ => tr O m (tOf (db 2)) σ (ev O m (tOf (db 2)) σ)) (fun m σ => exs O m (bOf (db 2)) σ) 100 m σ := by rfl
theorem some_dec (a b : Nat) : ([a] == [b]) = decide (some a = some b) := by
  by_cases h : a = b
  · subst h; simp
  · simp [h]
theorem due_3 (L : LD m w f l) (hs : m.lookup (Str.ofString "step") = some (.int s)) (h0 : f + s ≤ w.length) (hw : w.length ≤ 1000) : ex O m (db 3) σ = some (.next, setL m (Str.ofString "ahead") (.bool (aheadP w f s)), σ) := by
  (have e : db 3 = db 3 := rfl; conv at e => rhs; whnf)
  rw [e]
  simp only [ev_const, const_int, ev_name, ev_boolop, ev_binop, ev_cmp, isQ_name, isQ_const, isQ_sub, ev_subB, evBool_one, evBool_cons, ex_assign, bind1_some, bind2_some, stops_and, cmp_eq, if_false, Bool.false_eq_true]
  simp only [L.first, L.word, hs, bind1_some, bind2_some, as_bool, add_int', sub_int', cmp_gt]
  cases f with
  | zero => rfl
  | succ f =>
    have h1 : decide ((0 : Int) < ((f + 1 : Nat) : Int)) = true := decide_eq_true (by omega)
    simp only [h1, subs_str σ (show ((f + 1 : Nat) : Int) - 1 = (f : Nat) by omega) (show f < w.length by omega) hw, subs_str σ (show ((f + 1 : Nat) : Int) - 1 + (s : Int) = ((f + s : Nat) : Int) by omega) (show f + s < w.length by omega) hw, bind1_some, bind2_some, eqTop_str, if_false, Bool.false_eq_true, Bool.not_true]
    have e1 := List.getElem?_eq_getElem (show f < w.length by omega)
    have e2 := List.getElem?_eq_getElem (show f + s < w.length by omega)
    simp only [aheadP, Nat.add_sub_cancel, e1, e2, some_dec]
    simp
theorem due_4 (L : LD m w f l) (hs : m.lookup (Str.ofString "step") = some (.int s)) (h0 : s ≤ l) (hl : l ≤ w.length) (hw : w.length ≤ 1000) : ex O m (db 4) σ = some (.next, setL m (Str.ofString "behind") (.bool (behindP w l s)), σ) := by
  (have e : db 4 = db 4 := rfl; conv at e => rhs; whnf)
  rw [e]
  simp only [ev_name, ev_boolop, ev_binop, ev_cmp, isQ_name, isQ_sub, isQ_call, evQ_call, ev_callN, ev_subN, ev_subB, evs_nil, evs_cons, evBool_one, evBool_cons, ex_assign, qname, ofString_beq, String.reduceBEq, Bool.false_and, List.length_cons, List.length_nil, List.isEmpty_nil, Nat.reduceAdd, Nat.reduceBEq, bind2_some, stops_and, cmp_eq, if_false, Bool.false_eq_true]
  simp only [L.last, L.word, hs, L.len, bind1_some, bind2_some, as_bool, sub_int', cmp_lt, if_false, Bool.false_eq_true, Option.isSome_none, Bool.false_eq_true, if_false, bif_len, len_str O σ hw]
  by_cases h : l < w.length
  · have h1 : decide ((l : Int) < (w.length : Int)) = true := decide_eq_true (by omega)
    simp only [h1, subs_str σ (show (l : Int) = (l : Nat) from rfl) h hw, subs_str σ (show ((l : Nat) : Int) - (s : Int) = ((l - s : Nat) : Int) by omega) (show l - s < w.length by omega) hw, bind1_some, bind2_some, eqTop_str, if_false, Bool.false_eq_true, Bool.not_true]
    have e1 := List.getElem?_eq_getElem h
    have e2 := List.getElem?_eq_getElem (show l - s < w.length by omega)
    simp only [behindP, e1, e2, some_dec, h]
    simp
  · have h1 : decide ((l : Int) < (w.length : Int)) = false := decide_eq_false (by omega)
    simp only [h1, bind2_some, if_true, Bool.not_false, behindP, h, decide_false, Bool.false_and]
end Mine.L3
end

section
open PySem PySem.W PyProof.Rows
set_option maxRecDepth 100000
set_option linter.unusedSimpArgs false
set_option maxHeartbeats 1000000
namespace Mine.L3
variable {O : Oracle} {σ : Sto} {m : Loc} {w : List Nat} {f l s r : Nat}
theorem mul_ok {n : Int} {y : List Nat} {k : Nat} (hn : n = k) (hk : k ≤ 1000) (hy : y.length ≤ 1000) : (sizeOk n.natAbs && sizeOk y.length && sizeOk (n.natAbs * y.length)) = true := by
  subst hn
  have h1 : ((k : Int).natAbs) = k := rfl
  have h2 : k * y.length ≤ 1000 * 1000 := Nat.mul_le_mul hk hy
  rw [h1, sizeOk_of (by omega), sizeOk_of (by omega), sizeOk_of (by omega)]
  rfl
theorem mul_blank (k : Nat) : mulText (k : Int) [32] = List.replicate k 32 := by
  simp only [mulText, Int.toNat_natCast]
  induction k with
  | zero => rfl
  | succ k ih => rw [List.replicate_succ, List.flatten_cons, ih]; rfl
theorem blankStr : (Str.ofString " ").cps.toList = [32] := by decide
theorem seg_len (a b : Nat) : (seg w a b).length ≤ w.length := by simp [seg]; omega

noncomputable def rowP (w : List Nat) (f l : Nat) : List Nat := List.replicate f 32 ++ seg w f l
noncomputable abbrev itemV (w : List Nat) (f l s : Nat) : AV := .tup [.int s, .str (rowP w f l)]
noncomputable def countsP (w : List Nat) (f l s : Nat) : Bool := decide (2 * s ≤ l - f) && !aheadP w f s && !behindP w l s
theorem due_5t (hst : m.lookup (Str.ofString "step") = some (.int s)) (hsz : m.lookup (Str.ofString "size") = some (.int (l - f : Nat)))
    (ha : m.lookup (Str.ofString "ahead") = some (.bool (aheadP w f s))) (hb : m.lookup (Str.ofString "behind") = some (.bool (behindP w l s))) (hs : s ≤ 1000) :
    tr O m (ifT (db 5)) σ (ev O m (ifT (db 5)) σ) = some (countsP w f l s, σ) := by
  (have e : ifT (db 5) = ifT (db 5) := rfl; conv at e => rhs; whnf)
  rw [e]
  simp only [tr_not, tr_boolop, tr_cmp, tr_name, trAll_nil, trAll_cons, ev_const, const_int, ev_name, ev_boolop, ev_binop, ev_cmp, isQ_name, isQ_bin, evBool_one, evBool_cons, bind1_some, bind2_some, stops_and, if_false, Bool.false_eq_true, Bool.not_false]
  simp only [hst, hsz, ha, hb, bind1_some, bind2_some, byV_bool, mul_int', cmp_le, if_true, (show (intOk 2 && intOk (s : Int)) = true by rw [intOk_of (i := (s : Int)) (by omega)]; rfl), if_true]
  have h1 : (!decide (((l - f : Nat) : Int) < 2 * (s : Int))) = decide (2 * s ≤ l - f) := by
    by_cases q : 2 * s ≤ l - f
    · rw [decide_eq_true q, decide_eq_false (by omega)]; rfl
    · rw [decide_eq_false q, decide_eq_true (by omega)]; rfl
  rw [h1]
  unfold countsP
  cases decide (2 * s ≤ l - f) <;> cases aheadP w f s <;> cases behindP w l s <;> rfl
theorem due_5b {xs : List AV} (L : LD m w f l) (hst : m.lookup (Str.ofString "step") = some (.int s)) (hd : m.lookup (Str.ofString "due") = some (.ref r)) (hr : σ[r]? = some (.list xs)) (hx : xs.length ≤ 1000)
    (hfl : f ≤ l) (hl : l ≤ w.length) (hw : w.length ≤ 500) : exs O m (ifB (db 5)) σ = some (.next, m, σ.set r (.list (xs ++ [itemV w f l s]))) := by
  (have e : ifB (db 5) = ifB (db 5) := rfl; conv at e => rhs; whnf)
  rw [e]
  simp only [ev_const, const_str, ev_name, ev_binop, ev_tuple, ev_callA, ev_subSl, evs_nil, evs_cons, evOpt_none, evOpt_some, ex_expr, exs_nil, exs_more, bind1_some, bind2_some]
  simp only [mth_append, L.word, L.first, L.last, hst, hd, hr, blankStr, bind1_some, bind2_some, add_str', mul_str', recv_append, listAt, Option.isSome_some, if_true, if_true, mul_ok (n := (f : Int)) (y := [32]) rfl (by omega) (by simp), mul_blank, bound_none,
    bound_int (show intOk (l : Int) = true from intOk_of (by omega)), bound_int (show intOk (f : Int) = true from intOk_of (by omega)),
    slc_seg (σ := σ) (show (f : Int) = (f : Nat) from rfl) (show (l : Int) = (l : Nat) from rfl) hfl hl (show w.length ≤ 1000 by omega)]
  have h1 : sizeOk ((List.replicate f 32).length + (seg w f l).length) = true := sizeOk_of (by have := seg_len (w := w) f l; simp; omega)
  simp only [h1, if_true, tup2, append_call hr hx, bind2_some, if_true]
  rfl
theorem due_5 {xs : List AV} (L : LD m w f l) (hst : m.lookup (Str.ofString "step") = some (.int s)) (hsz : m.lookup (Str.ofString "size") = some (.int (l - f : Nat)))
    (ha : m.lookup (Str.ofString "ahead") = some (.bool (aheadP w f s))) (hb : m.lookup (Str.ofString "behind") = some (.bool (behindP w l s))) (hs : s ≤ 1000)
    (hd : m.lookup (Str.ofString "due") = some (.ref r)) (hr : σ[r]? = some (.list xs)) (hx : xs.length ≤ 1000) (hfl : f ≤ l) (hl : l ≤ w.length) (hw : w.length ≤ 500) :
    ex O m (db 5) σ = some (.next, m, if countsP w f l s then σ.set r (.list (xs ++ [itemV w f l s])) else σ) := by
  have e : ∃ p, db 5 = .If (ifT (db 5)) (ifB (db 5)) [] p := ⟨_, by rfl⟩
  obtain ⟨p, e⟩ := e
  rw [show ex O m (db 5) σ = _ from congrArg (fun s => ex O m s σ) e]
  simp only [ex_if, due_5t hst hsz ha hb hs, bind2_some]
  cases hc : countsP w f l s with
  | true => simp only [due_5b L hst hd hr hx hfl hl hw, if_true, if_true]
  | false => simp only [exs_nil, if_false, Bool.false_eq_true, if_false, Bool.false_eq_true]

/-- what a pair of places adds -/
noncomputable def dueAt (w : List Nat) (f l : Nat) : List AV := if countsP w f l (perP w f l (l - f - 1) 1) then [itemV w f l (perP w f l (l - f - 1) 1)] else []
theorem perP_le : ∀ (k s : Nat), f + s + k = l → f + perP w f l k s ≤ l ∧ s ≤ perP w f l k s
  | 0, s, h => by simp only [perP_0]; omega
  | k + 1, s, h => by
    simp only [perP_s]
    split
    · omega
    · have := perP_le k (s + 1) (by omega)
      omega
theorem set_same {σ : Sto} {r : Nat} {c : Cell} (h : σ[r]? = some c) : σ.set r c = σ := by
  obtain ⟨_, hg⟩ := List.getElem?_eq_some_iff.mp h
  rw [← hg]; simp
/-- the body of the inner loop -/
theorem due_turn {xs : List AV} (L : LD m w f l) (hd : m.lookup (Str.ofString "due") = some (.ref r)) (hr : σ[r]? = some (.list xs)) (hx : xs.length ≤ 1000) (hfl : f + 1 ≤ l) (hl : l ≤ w.length) (hw : w.length ≤ 90) :
    ∃ m', exs O m (forB dI) σ = some (.next, m', σ.set r (.list (xs ++ dueAt w f l))) ∧ ∀ x, x ≠ Str.ofString "size" → x ≠ Str.ofString "step" → x ≠ Str.ofString "ahead" → x ≠ Str.ofString "behind" → m'.lookup x = m.lookup x := by
  generalize hm1 : setL m (Str.ofString "size") (.int (l - f : Nat)) = m1
  generalize hm2 : setL m1 (Str.ofString "step") (.int 1) = m2
  have L1 : LD m1 w f l := hm1 ▸ L.set (by decide) (by decide) (by decide) (by decide)
  have L2 : LD m2 w f l := hm2 ▸ L1.set (by decide) (by decide) (by decide) (by decide)
  have s2 : m2.lookup (Str.ofString "step") = some (.int (1 : Nat)) := by rw [← hm2, lookup_setL, if_pos rfl]; rfl
  obtain ⟨m3, e3, L3, s3, g3⟩ := due_wl (O := O) (σ := σ) hl (by omega) (l - f - 1) 1 100 m2 L2 s2 (by omega) (by omega)
  obtain ⟨b1, b2⟩ := perP_le (w := w) (f := f) (l := l) (l - f - 1) 1 (by omega)
  generalize hs : perP w f l (l - f - 1) 1 = s at *
  generalize hm4 : setL m3 (Str.ofString "ahead") (.bool (aheadP w f s)) = m4
  have L4 : LD m4 w f l := hm4 ▸ L3.set (by decide) (by decide) (by decide) (by decide)
  have s4 : m4.lookup (Str.ofString "step") = some (.int s) := by rw [← hm4, lookup_setL, if_neg (by decide)]; exact s3
  generalize hm5 : setL m4 (Str.ofString "behind") (.bool (behindP w l s)) = m5
  have L5 : LD m5 w f l := hm5 ▸ L4.set (by decide) (by decide) (by decide) (by decide)
  have d3 : m3.lookup (Str.ofString "due") = some (.ref r) := by
    rw [g3 _ (by decide), ← hm2, lookup_setL, if_neg (by decide), ← hm1, lookup_setL, if_neg (by decide)]; exact hd
  have d5 : m5.lookup (Str.ofString "due") = some (.ref r) := by
    rw [← hm5, lookup_setL, if_neg (by decide), ← hm4, lookup_setL, if_neg (by decide)]; exact d3
  have z3 : m3.lookup (Str.ofString "size") = some (.int (l - f : Nat)) := by
    rw [g3 _ (by decide), ← hm2, lookup_setL, if_neg (by decide), ← hm1, lookup_setL, if_pos rfl]
  have z5 : m5.lookup (Str.ofString "size") = some (.int (l - f : Nat)) := by
    rw [← hm5, lookup_setL, if_neg (by decide), ← hm4, lookup_setL, if_neg (by decide)]; exact z3
  have t5 : m5.lookup (Str.ofString "step") = some (.int s) := by rw [← hm5, lookup_setL, if_neg (by decide)]; exact s4
  have a5 : m5.lookup (Str.ofString "ahead") = some (.bool (aheadP w f s)) := by rw [← hm5, lookup_setL, if_neg (by decide), ← hm4, lookup_setL, if_pos rfl]
  have h5 : m5.lookup (Str.ofString "behind") = some (.bool (behindP w l s)) := by rw [← hm5, lookup_setL, if_pos rfl]
  refine ⟨m5, ?_, fun x q1 q2 q3 q4 => by
    rw [← hm5, lookup_setL, if_neg q4, ← hm4, lookup_setL, if_neg q3, g3 x q2, ← hm2, lookup_setL, if_neg q2, ← hm1, lookup_setL, if_neg q1]⟩
  rw [db_is, exs_cons, due_0 L (by omega), hm1]
  simp only
  rw [exs_cons, due_1, hm2]
  simp only
  rw [exs_cons, due_2, e3]
  simp only
  rw [exs_cons, due_3 L3 s3 (by omega) (by omega), hm4]
  simp only
  rw [exs_cons, due_4 L4 s4 (by omega) hl (by omega), hm5]
  simp only
  rw [exs_cons, due_5 L5 t5 z5 a5 h5 (by omega) d5 hr hx (by omega) hl (by omega)]
  simp only [exs_nil, dueAt, hs]
  cases countsP w f l s with
  | true => simp
  | false => simp [set_same hr]
end Mine.L3
end

section
open PySem PySem.W PyProof.Rows
set_option maxRecDepth 100000
set_option linter.unusedSimpArgs false
set_option maxHeartbeats 1000000
namespace Mine.L3
variable {O : Oracle} {σ : Sto} {m : Loc} {w : List Nat} {f l s r : Nat}
theorem bif_range : bifOf (Str.ofString "range") = some .range := by rfl
theorem range1 {n : Nat} (h : n ≤ 1000) : builtin O .range [.int n] σ = some (.rng 0 n 1, σ) := by
  show (if intOk (n : Int) then some (AV.rng 0 n 1, σ) else none) = _
  rw [if_pos (intOk_of (by omega))]
theorem range2 {a b : Nat} (h : a ≤ 1000) (h2 : b ≤ 1000) : builtin O .range [.int a, .int b] σ = some (.rng a b 1, σ) := by
  show (if (intOk (a : Int) && intOk (b : Int)) = true then some (AV.rng a b 1, σ) else none) = _
  rw [if_pos (by rw [intOk_of (by omega), intOk_of (by omega)]; rfl)]
structure LE (m : Loc) (w : List Nat) (r : Nat) : Prop where
  word : m.lookup (Str.ofString "word") = some (.str w)
  due : m.lookup (Str.ofString "due") = some (.ref r)
  len : m.lookup (Str.ofString "len") = none
  range : m.lookup (Str.ofString "range") = none
theorem due_iI (L : LE m w r) (hf : m.lookup (Str.ofString "first") = some (.int f)) (hfw : f ≤ w.length) (hw : w.length ≤ 90) :
    ev O m (forI dI) σ = some (.rng ((f + 2 : Nat) : Int) ((w.length + 1 : Nat) : Int) 1, σ) := by
  (have e : forI dI = forI dI := rfl; conv at e => rhs; whnf)
  rw [e]
  simp only [ev_const, const_int, ev_name, ev_binop, ev_callN, evs_nil, evs_cons, bind1_some, bind2_some]
  simp only [L.word, L.len, L.range, hf, bind1_some, bind2_some, add_int', if_false, Bool.false_eq_true, Option.isSome_none, Bool.false_eq_true, if_false, bif_len, bif_range, len_str O σ (show w.length ≤ 1000 by omega)]
  exact range2 (a := f + 2) (b := w.length + 1) (by omega) (by omega)
theorem due_i1 (L : LE m w r) (hw : w.length ≤ 90) : ev O m (forI (du 1)) σ = some (.rng ((0 : Nat) : Int) (w.length : Int) 1, σ) := by
  (have e : forI (du 1) = forI (du 1) := rfl; conv at e => rhs; whnf)
  rw [e]
  simp only [ev_name, ev_callN, evs_nil, evs_cons, bind2_some]
  simp only [L.word, L.len, L.range, bind1_some, bind2_some, if_false, Bool.false_eq_true, Option.isSome_none, Bool.false_eq_true, if_false, bif_len, bif_range, len_str O σ (show w.length ≤ 1000 by omega)]
  exact range1 (by omega)

noncomputable def toN : AV → Nat
  | .int i => i.toNat
  | _ => 0
theorem srcOk_rng {p : _} {k : Nat} {a b : Nat} (ha : a ≤ 1000) (hb : b ≤ 1000) {x : Str} : srcOk (.Name x p) (.rng (a : Int) (b : Int) 1) σ = true := by
  simp only [srcOk_rng1, intOk_of (i := (a : Int)) (by omega), intOk_of (i := (b : Int)) (by omega)]
  rfl
theorem due_I (L : LE m w r) (hf : m.lookup (Str.ofString "first") = some (.int f)) (hfw : f ≤ w.length) (hw : w.length ≤ 90) :
    ex O m dI σ = forN (nextOf (.rng ((f + 2 : Nat) : Int) ((w.length + 1 : Nat) : Int) 1)) (fun v m σ => exs O (setL m (Str.ofString "last") v) (forB dI) σ) ((rngL (f + 2) (w.length + 1)).length + 1) 0 m σ := by
  have e : ∃ p q, dI = .For (.Name "last" p) (forI dI) (forB dI) [] q := ⟨_, _, by rfl⟩
  obtain ⟨p, q, e⟩ := e
  rw [show ex O m dI σ = _ from congrArg (fun s => ex O m s σ) e, ex_for (due_iI L hf hfw hw) (srcOk_rng (k := 0) (by omega) (by omega)), fuel_rng]
  simp only [bindT_name, bind1_some]
theorem due_1f (L : LE m w r) (hw : w.length ≤ 90) :
    ex O m (du 1) σ = forN (nextOf (.rng ((0 : Nat) : Int) (w.length : Int) 1)) (fun v m σ => exs O (setL m (Str.ofString "first") v) (forB (du 1)) σ) ((rngL 0 w.length).length + 1) 0 m σ := by
  have e : ∃ p q, du 1 = .For (.Name "first" p) (forI (du 1)) (forB (du 1)) [] q := ⟨_, _, by rfl⟩
  obtain ⟨p, q, e⟩ := e
  rw [show ex O m (du 1) σ = _ from congrArg (fun s => ex O m s σ) e, ex_for (due_i1 L hw) (srcOk_rng (k := 0) (by omega) (by omega)), fuel_rng]
  simp only [bindT_name, bind1_some]

noncomputable def dueI (w : List Nat) (f : Nat) (s : List AV) (v : AV) : List AV := s ++ dueAt w f (toN v)
noncomputable def dueO (w : List Nat) (s : List AV) (v : AV) : List AV := (rngL (toN v + 2) (w.length + 1)).foldl (dueI w (toN v)) s
theorem dueAt_len (w : List Nat) (f l : Nat) : (dueAt w f l).length ≤ 1 := by
  unfold dueAt; split <;> simp
theorem due_inner {xs : List AV} (L : LE m w r) (hf : m.lookup (Str.ofString "first") = some (.int f)) (hfw : f < w.length) (hw : w.length ≤ 30) (hr : σ[r]? = some (.list xs)) (hx : xs.length ≤ f * w.length) :
    ∃ m', exs O m (forB (du 1)) σ = some (.next, m', σ.set r (.list (dueO w xs (.int f)))) ∧ LE m' w r ∧ (dueO w xs (.int f)).length ≤ (f + 1) * w.length := by
  have hrl : r < σ.length := (List.getElem?_eq_some_iff.mp hr).1
  have hfw2 : f * w.length ≤ 30 * 30 := Nat.mul_le_mul (by omega) hw
  obtain ⟨m', σ', e, L', hf', hs, hl⟩ := forN_list (S := List AV) (f := dueI w f) (body := fun v m σ => exs O (setL m (Str.ofString "last") v) (forB dI) σ)
    (Inv := fun s i m σ' => LE m w r ∧ m.lookup (Str.ofString "first") = some (.int f) ∧ σ' = σ.set r (.list s) ∧ s.length ≤ xs.length + i)
    (fun _ i _ σ' _ => next_rng (f + 2) (w.length + 1) i σ')
    (fun s i m σ' hi ⟨L, hf, hs, hl⟩ => by
      have hi' := hi
      rw [rngL_len] at hi'
      rw [rngL_get hi]
      have M : LD (setL m (Str.ofString "last") (.int ((f + 2 + i : Nat) : Int))) w f (f + 2 + i) :=
        ⟨by rw [lookup_setL, if_neg (by decide)]; exact L.word, by rw [lookup_setL, if_neg (by decide)]; exact hf, by rw [lookup_setL, if_pos rfl], by rw [lookup_setL, if_neg (by decide)]; exact L.len⟩
      obtain ⟨m', e, g⟩ := due_turn (O := O) (σ := σ') (r := r) (xs := s) M (by rw [lookup_setL, if_neg (by decide)]; exact L.due) (by rw [hs]; simp [hrl]) (by omega) (by omega) (by omega) (by omega)
      refine ⟨m', _, e, ⟨?_, ?_, ?_, ?_⟩, ?_, ?_, ?_⟩
      · rw [g _ (by decide) (by decide) (by decide) (by decide)]; exact M.word
      · rw [g _ (by decide) (by decide) (by decide) (by decide), lookup_setL, if_neg (by decide)]; exact L.due
      · rw [g _ (by decide) (by decide) (by decide) (by decide)]; exact M.len
      · rw [g _ (by decide) (by decide) (by decide) (by decide), lookup_setL, if_neg (by decide)]; exact L.range
      · rw [g _ (by decide) (by decide) (by decide) (by decide)]; exact M.first
      · rw [hs, List.set_set]; rfl
      · have := dueAt_len w f (f + 2 + i)
        show (s ++ dueAt w f (((f + 2 + i : Nat) : Int).toNat)).length ≤ _
        rw [Int.toNat_natCast, List.length_append]; omega)
    (rngL (f + 2) (w.length + 1)).length 0 ((rngL (f + 2) (w.length + 1)).length + 1) xs m σ (by omega) (by omega) ⟨L, hf, (set_same hr).symm, by omega⟩
  refine ⟨m', ?_, L', ?_⟩
  · rw [dI_is, exs_cons, due_I L hf (by omega) (by omega), e]
    simp only [exs_nil, hs]
    rfl
  · rw [rngL_len] at hl
    have : (dueO w xs (.int f)).length ≤ xs.length + (w.length + 1 - (f + 2)) := hl
    rw [Nat.succ_mul]; omega
noncomputable def dueP (w : List Nat) : List AV := (rngL 0 w.length).foldl (dueO w) []
noncomputable abbrev lw (w : List Nat) : Loc := [("word", .str w)]
noncomputable abbrev lwd (w : List Nat) (r : Nat) : Loc := [("word", .str w), ("due", .ref r)]
theorem du_0 : ex O (lw w) (du 0) σ = some (.next, lwd w σ.length, σ ++ [.list []]) := by
  (have e : du 0 = du 0 := rfl; conv at e => rhs; whnf)
  rw [e]
  simp only [ev_list, evs_nil, ex_assign, setL, ofString_eq, String.reduceEq, List.length_nil, bind2_some, if_false]
  rfl
theorem du_2 (h : m.lookup (Str.ofString "due") = some (.ref r)) : ex O m (du 2) σ = some (.ret (.ref r), m, σ) := by
  (have e : du 2 = du 2 := rfl; conv at e => rhs; whnf)
  rw [e]
  simp only [ev_name, ex_return]
  simp only [h, bind1_some, bind2_some]
theorem due_run (hw : w.length ≤ 30) :
    ∃ r σ', callFn O (fnOf "_law_due") [.str w] σ = some (.ref r, σ') ∧ Keeps σ σ' ∧ σ'[r]? = some (.list (dueP w)) := by
  rw [callFn_eq due_pars due_body rfl]
  have z : [Str.ofString "word"].zip [AV.str w] = lw w := rfl
  rw [z, exs_cons, du_0]
  simp only
  have hnew : (σ ++ [Cell.list []])[σ.length]? = some (Cell.list []) := by simp
  obtain ⟨m', σ', e, L', hs, hl⟩ := forN_list (S := List AV) (f := dueO w) (body := fun v m σ => exs O (setL m (Str.ofString "first") v) (forB (du 1)) σ)
    (Inv := fun s i m σ' => LE m w σ.length ∧ σ' = (σ ++ [Cell.list []]).set σ.length (.list s) ∧ s.length ≤ i * w.length)
    (fun _ i _ σ' _ => next_rng 0 w.length i σ')
    (fun s i m σ' hi ⟨L, hs, hl⟩ => by
      have hi' := hi
      rw [rngL_len] at hi'
      rw [rngL_get hi, Nat.zero_add]
      have M : LE (setL m (Str.ofString "first") (.int (i : Nat))) w σ.length :=
        ⟨by rw [lookup_setL, if_neg (by decide)]; exact L.word, by rw [lookup_setL, if_neg (by decide)]; exact L.due, by rw [lookup_setL, if_neg (by decide)]; exact L.len, by rw [lookup_setL, if_neg (by decide)]; exact L.range⟩
      obtain ⟨m', e, L', h'⟩ := due_inner (O := O) (σ := σ') (f := i) M (by rw [lookup_setL, if_pos rfl]) (by omega) hw (by rw [hs]; simp) hl
      exact ⟨m', _, e, L', by rw [hs, List.set_set], h'⟩)
    (rngL 0 w.length).length 0 ((rngL 0 w.length).length + 1) [] (lwd w σ.length) (σ ++ [Cell.list []]) (by omega) (by omega) ⟨⟨rfl, rfl, rfl, rfl⟩, (set_same hnew).symm, by simp⟩
  rw [exs_cons, due_1f ⟨rfl, rfl, rfl, rfl⟩ (by omega), e]
  simp only
  rw [exs_cons, du_2 L'.due]
  refine ⟨_, _, rfl, ?_, ?_⟩
  · rw [hs]; exact (Keeps.app _ _).setNew _ (Nat.le_refl _)
  · rw [hs]; simp [dueP]
end Mine.L3
end

section
open PySem PySem.W PyProof.Rows
set_option maxRecDepth 100000
set_option linter.unusedSimpArgs false
set_option maxHeartbeats 1000000
namespace Mine.L3

/-- a comprehension of which only a trait of the items is told -/
theorem compN_q {src : AV} {L : List AV} {elt : AV → Sto → Option (Option AV × Sto)} {Q : AV → Prop} {R : Sto → Prop}
    (hn : ∀ i σ, R σ → nextOf src i σ = some L[i]?) (hR : ∀ σ σ', R σ → Keeps σ σ' → R σ')
    (h : ∀ v, v ∈ L → ∀ σ, R σ → ∃ y σ', elt v σ = some (some y, σ') ∧ Keeps σ σ' ∧ Q y) (hl : L.length ≤ 1000) :
    ∀ (k i fuel : Nat) (acc : List AV) (σ : Sto), i + k = L.length → k < fuel → acc.length ≤ i → R σ → ∃ ys σ', compN (nextOf src) elt fuel i acc σ = some (acc ++ ys, σ') ∧ Keeps σ σ' ∧ ys.length = k ∧ ∀ y ∈ ys, Q y
  | k, i, 0, acc, σ, _, hf, _, _ => by omega
  | 0, i, fuel + 1, acc, σ, hi, _, _, I => by
    have : i = L.length := by omega
    subst this
    refine ⟨[], σ, ?_, Keeps.refl σ, rfl, by simp⟩
    simp [compN_eq, hn _ _ I]
  | k + 1, i, fuel + 1, acc, σ, hi, hf, ha, I => by
    have hlt : i < L.length := by omega
    obtain ⟨y, σ1, e, k1, q⟩ := h L[i] (List.getElem_mem hlt) σ I
    obtain ⟨ys, σ2, e2, k2, hy, hq⟩ := compN_q hn hR h hl k (i + 1) fuel (acc ++ [y]) σ1 (by omega) (by omega) (by simp; omega) (hR _ _ I k1)
    refine ⟨y :: ys, σ2, ?_, k1.trans k2, by simp [hy], fun z hz => ?_⟩
    · simp only [compN_eq, hn _ _ I, List.getElem?_eq_getElem hlt, e, sizeOk_of (show acc.length ≤ 1000000 by omega), if_true, if_true]
      rw [e2]
      simp
    · rcases List.mem_cons.mp hz with rfl | hz
      · exact q
      · exact hq z hz
theorem ev_comp_q {O : Oracle} {m : Loc} {elt t iter : PySem.Expr} {ifs : List PySem.Expr} {scope : Scope} {p : _} {σ σ1 : Sto} {src : AV} {L : List AV} {Q : AV → Prop} (R : Sto → Prop)
    (h : ev O m iter σ = some (src, σ1)) (hs : srcOk t src σ1 = true) (hn : ∀ i σ, R σ → nextOf src i σ = some L[i]?) (hf : fuelOf src σ1 = L.length + 1)
    (hR : ∀ σ σ', R σ → Keeps σ σ' → R σ') (he : ∀ v, v ∈ L → ∀ σ, R σ → ∃ y σ', compF O m t ifs elt scope v σ = some (some y, σ') ∧ Keeps σ σ' ∧ Q y) (hl : L.length ≤ 1000) (r1 : R σ1) :
    ∃ ys σ2, ev O m (.ListComp elt [⟨t, iter, ifs, 0⟩] scope p) σ = some (.ref σ2.length, σ2 ++ [.list ys]) ∧ Keeps σ1 σ2 ∧ ys.length = L.length ∧ ∀ y ∈ ys, Q y := by
  obtain ⟨ys, σ2, e, k, hy, hq⟩ := compN_q hn hR he hl L.length 0 (L.length + 1) [] σ1 (by omega) (by omega) (by simp) r1
  exact ⟨ys, σ2, ev_comp h hs (by rw [hf, e]; rfl), k, hy, hq⟩

noncomputable def lq (i : Nat) : PySem.Stmt := ((fnOf "law").body[i]?).getD (.Pass default)
noncomputable def arg0 : PySem.Expr → PySem.Expr
  | .Call _ (a :: _) _ _ => a
  | _ => .Constant .none 0 default
noncomputable def binR : PySem.Expr → PySem.Expr
  | .BinOp _ _ r _ => r
  | _ => .Constant .none 0 default
noncomputable def c1 : PySem.Expr := asgE (lq 1)
noncomputable def c1i : PySem.Expr := arg0 (binR (cElt c1))
theorem law_body : (fnOf "law").body = [lq 0, lq 1, lq 2, lq 3, lq 4, lq 5, lq 6, lq 7, lq 8, lq 9, lq 10, lq 11] := by kernel_rfl
theorem law_pars : (fnOf "law").params = [Str.ofString "script"] := by kernel_rfl
theorem bif_sum : bifOf (Str.ofString "sum") = some .sum := by rfl
theorem bif_chr : bifOf (Str.ofString "chr") = some .chr := by rfl

variable {O : Oracle} {σ : Sto} {m : Loc}
noncomputable def IsInt (v : AV) : Prop := ∃ i, v = .int i
theorem intsOf_map : ∀ l : List Int, intsOf (l.map .int) = some l
  | [] => rfl
  | i :: l => by
    show (bind1 (intsOf (l.map .int)) fun is => some (i :: is)) = _
    rw [intsOf_map l]; rfl
theorem ints_of : ∀ {l : List AV}, (∀ v ∈ l, IsInt v) → ∃ is : List Int, l = is.map .int
  | [], _ => ⟨[], rfl⟩
  | v :: l, h => by
    obtain ⟨i, rfl⟩ := h v (by simp)
    obtain ⟨is, rfl⟩ := ints_of (l := l) (fun u hu => h u (by simp [hu]))
    exact ⟨i :: is, rfl⟩
theorem sum_call {r : Nat} {xs : List AV} (h : σ[r]? = some (.list xs)) (hx : ∀ v ∈ xs, IsInt v) : ∃ i, builtin O .sum [.ref r] σ = some (.int i, σ) := by
  obtain ⟨is, rfl⟩ := ints_of hx
  refine ⟨is.sum, ?_⟩
  show (bind1 (listAt σ r) fun xs => bind1 (intsOf xs) fun is => some (AV.int is.sum, σ)) = _
  rw [listAt_of h, bind1_some, intsOf_map, bind1_some]
theorem pick_mem {α : Type} {l : List α} {lo hi st : Option Int} {x : α} (h : x ∈ pickL l lo hi st) : x ∈ l := by
  obtain ⟨i, _, h2⟩ := List.mem_filterMap.mp h
  exact List.mem_of_getElem? h2
theorem pick_len {α : Type} (l : List α) (lo hi : Option Int) (st : Option Int) (hs : st.getD 1 ≠ 0) : (pickL l lo hi st).length ≤ l.length := by
  unfold pickL
  exact Nat.le_trans (List.length_filterMap_le ..) (sliceIndicesBy_le lo hi _ hs _)

/-- an item of the inner list of the second row: an int's remainder -/
theorem c1_inner {vs : List AV} {k : Nat} (hs : m.lookup (Str.ofString "script") = some (.frz vs)) (hk : m.lookup (Str.ofString "k") = some (.int k)) (hk2 : k ≤ 1000) (hv : ∀ v ∈ vs, IsInt v) (hl : vs.length ≤ 63) :
    ∃ ys σ2, ev O m c1i σ = some (.ref σ2.length, σ2 ++ [.list ys]) ∧ Keeps σ σ2 ∧ ∀ y ∈ ys, IsInt y := by
  have e : ∃ p q s, c1i = .ListComp (cElt c1i) [⟨.Name "x" p, cIter c1i, [], 0⟩] s q := ⟨_, _, _, by rfl⟩
  obtain ⟨p, q, s, e⟩ := e
  have hi : ev O m (cIter c1i) σ = some (.ref σ.length, σ ++ [.list (pickL vs (some k) (some 60) (some 11))]) := by
    (have e : cIter c1i = cIter c1i := rfl; conv at e => rhs; whnf)
    rw [e]
    simp only [ev_const, const_int, ev_name, ev_subSl, evOpt_some, bind1_some, bind2_some]
    simp only [hs, hk, bind1_some, bind2_some, if_true, bound_int (show intOk (k : Int) = true from intOk_of (by omega)), bound_int (show intOk 60 = true from rfl), bound_int (show intOk 11 = true from rfl), slc_frz,
      if_neg (show ¬ (some (11 : Int) = some 0) by decide), sizeOk_of (show vs.length ≤ 1000000 by omega), if_true]
  have hL := pick_len vs (some (k : Int)) (some 60) (some 11) (by decide)
  generalize hP : pickL vs (some (k : Int)) (some 60) (some 11) = L at hi hL
  have hLi : ∀ v ∈ L, IsInt v := fun v h => hv v (pick_mem (hP ▸ h))
  have hnew : (σ ++ [Cell.list L])[σ.length]? = some (.list L) := by simp
  rw [show ev O m c1i σ = _ from congrArg (fun s => ev O m s σ) e]
  obtain ⟨ys, σ2, r1, r2, r3, r4⟩ := ev_comp_q (O := O) (elt := cElt c1i) (ifs := []) (scope := s) (t := .Name "x" p) (p := q) (Q := IsInt) (fun σ' => σ'[σ.length]? = some (.list L)) hi (srcOk_list hnew)
    (fun i σ' h => next_list h i) (fuel_list hnew) (fun σ' σ'' h k => k _ _ h) (fun v hv σ' _ => by
      obtain ⟨i, rfl⟩ := hLi v hv
      refine ⟨.int (i % 1000000), σ', ?_, Keeps.refl _, _, rfl⟩
      unfold compF
      (have e2 : cElt c1i = cElt c1i := rfl; conv at e2 => rhs; whnf)
      rw [e2]
      simp only [trs_nil, ev_const, const_int, ev_name, ev_binop, bindT_name, bind1_some, bind2_some, if_true]
      simp [lookup_setL, bind1_some, bind2_some, mod_int2]) (by omega) hnew
  exact ⟨ys, σ2, r1, (Keeps.app _ _).trans r2, r4⟩
end Mine.L3
end

section
open PySem PySem.W PyProof.Rows
set_option maxRecDepth 100000
set_option linter.unusedSimpArgs false
set_option maxHeartbeats 1000000
namespace Mine.L3
variable {O : Oracle} {σ : Sto} {m : Loc}
theorem subs_list {r n : Nat} {xs : List AV} {i : Int} (hi : i = n) (h : σ[r]? = some (.list xs)) (hn : n < xs.length) (hx : xs.length ≤ 100000) : subs (.ref r) (.int i) σ = some xs[n] := by
  subst hi
  show (bind1 (getIx (n : Int)) fun n => bind1 (listAt σ r) fun xs => xs[n]?) = _
  rw [getIx_nat (show n ≤ 1000000 by omega), bind1_some, listAt_of h, bind1_some, List.getElem?_eq_getElem hn]
theorem rngL_mem {a b : Nat} {v : AV} (h : v ∈ rngL a b) : ∃ i, a ≤ i ∧ i < b ∧ v = .int (i : Nat) := by
  obtain ⟨i, h1, rfl⟩ := List.mem_map.mp h
  have := List.mem_range.mp h1
  exact ⟨a + i, by omega, by omega, rfl⟩
theorem cells_ok {vs st : List AV} {rs : Nat} (hs : m.lookup (Str.ofString "script") = some (.frz vs)) (hst : m.lookup (Str.ofString "start") = some (.ref rs)) (hsum : m.lookup (Str.ofString "sum") = none) (hrng : m.lookup (Str.ofString "range") = none)
    (hr : σ[rs]? = some (.list st)) (hv : ∀ v ∈ vs, IsInt v) (hl : vs.length ≤ 63) (hi : ∀ v ∈ st, IsInt v) (hsl : st.length = 11) :
    ∃ ys σ2, ev O m c1 σ = some (.ref σ2.length, σ2 ++ [.list ys]) ∧ Keeps σ σ2 ∧ ys.length = 11 ∧ ∀ y ∈ ys, IsInt y := by
  have e : ∃ p q s, c1 = .ListComp (cElt c1) [⟨.Name "k" p, cIter c1, [], 0⟩] s q ∧ s.names.lookup (Str.ofString "start") = some .free ∧ s.names.lookup (Str.ofString "script") = some .free := ⟨_, _, _, by rfl, by kernel_rfl, by kernel_rfl⟩
  obtain ⟨p, q, s, e, f1, f2⟩ := e
  have hit : ev O m (cIter c1) σ = some (.rng ((0 : Nat) : Int) ((11 : Nat) : Int) 1, σ) := by
    (have e : cIter c1 = cIter c1 := rfl; conv at e => rhs; whnf)
    rw [e]
    simp only [ev_const, const_int, ev_callN, evs_nil, evs_cons, bind1_some, bind2_some]
    simp only [hrng, Option.isSome_none, Bool.false_eq_true, if_false, bif_range, if_false, Bool.false_eq_true]
    exact range1 (n := 11) (by omega)
  rw [show ev O m c1 σ = _ from congrArg (fun s => ev O m s σ) e]
  obtain ⟨ys, σ2, r1, r2, r3, r4⟩ := ev_comp_q (O := O) (elt := cElt c1) (ifs := []) (scope := s) (t := .Name "k" p) (p := q) (L := rngL 0 11) (Q := IsInt) (fun σ' => σ'[rs]? = some (.list st)) hit rfl
    (fun i σ' h => next_rng 0 11 i σ') (fuel_rng 0 11 σ) (fun σ' σ'' h k => k _ _ h) (fun v hv' σ' hR => by
      obtain ⟨i, _, h2, rfl⟩ := rngL_mem hv'
      generalize hm : setL (sees s m) (Str.ofString "k") (.int (i : Nat)) = m'
      have k1 : m'.lookup (Str.ofString "script") = some (.frz vs) := by rw [← hm, lookup_setL, if_neg (by decide), lookup_sees f2]; exact hs
      have k2 : m'.lookup (Str.ofString "start") = some (.ref rs) := by rw [← hm, lookup_setL, if_neg (by decide), lookup_sees f1]; exact hst
      have k3 : m'.lookup (Str.ofString "k") = some (.int (i : Nat)) := by rw [← hm, lookup_setL, if_pos rfl]
      have k4 : m'.lookup (Str.ofString "sum") = none := by rw [← hm, lookup_setL, if_neg (by decide)]; exact lookup_sees_none hsum
      obtain ⟨ys, σ2, e1, e2, e3⟩ := c1_inner (O := O) (σ := σ') k1 k3 (by omega) hv hl
      obtain ⟨j, hj⟩ := hi st[i] (List.getElem_mem (by omega))
      obtain ⟨z, hz⟩ := sum_call (O := O) (σ := σ2 ++ [.list ys]) (r := σ2.length) (by simp) e3
      refine ⟨.int (j + z), σ2 ++ [.list ys], ?_, e2.trans (Keeps.app _ _), _, rfl⟩
      unfold compF
      simp only [bindT_name, bind1_some, hm, trs_nil, bind2_some, if_true]
      have e4 : ∃ p1 p2 p3 p4 p5 p6, cElt c1 = .BinOp (.Subscript (.Name "start" p1) (.Name "k" p2) p3) .Add (.Call (.Name "sum" p4) [c1i] [] p5) p6 := ⟨_, _, _, _, _, _, by rfl⟩
      obtain ⟨p1, p2, p3, p4, p5, p6, e4⟩ := e4
      rw [e4]
      simp only [ev_binop, ev_subN, ev_name, ev_callN, evs_cons, evs_nil, k2, k3, k4, bind1_some, bind2_some, add_int', if_false, Bool.false_eq_true, Option.isSome_none, Bool.false_eq_true, if_false, e1, bif_sum, hz, subs_list (σ := σ') (show ((i : Nat) : Int) = (i : Nat) from rfl) hR (by omega) (by omega), hj]) (by rw [rngL_len]; omega) hr
  exact ⟨ys, σ2, r1, r2, by rw [r3, rngL_len], r4⟩
end Mine.L3
end

section
open PySem PySem.W PyProof.Rows
set_option maxRecDepth 100000
set_option linter.unusedSimpArgs false
set_option maxHeartbeats 1000000
namespace Mine.L3
variable {O : Oracle} {σ : Sto} {m : Loc}
theorem slc_to {σ : Sto} {r n : Nat} {xs : List AV} {i : Int} (hi : i = n) (h : σ[r]? = some (.list xs)) (hn : n ≤ xs.length) (hx : xs.length ≤ 1000) : slc (.ref r) none (some i) none σ = some (.ref σ.length, σ ++ [.list (xs.take n)]) := by
  subst hi
  simp only [slc_ref, bind1_some, listAt, if_neg (show ¬ ((none : Option Int) = some 0) by decide), h, sizeOk_of (show xs.length ≤ 1000000 by omega), if_true, pick_to xs hn, bind1_some, listAt, if_true]
theorem asg {x : Str} {e : PySem.Expr} {p q : _} {v : AV} {σ' : Sto} (h : ev O m e σ = some (v, σ')) : ex O m (.Assign [.Name x p] e q) σ = some (.next, setL m x v, σ') := by
  rw [ex_assign, h, bind2_some]

theorem law_0 {v : AV} : ∃ st, ex O [("script", v)] (lq 0) σ = some (.next, ([("script", v), ("start", .ref σ.length)] : Loc), σ ++ [.list st]) ∧ st.length = 11 ∧ ∀ y ∈ st, IsInt y := by
  refine ⟨[1, 0, 2, 0, 0, 2, 0, 2, 64, 65, 66].map .int, ?_, rfl, fun y hy => ?_⟩
  · (have e : lq 0 = lq 0 := rfl; conv at e => rhs; whnf)
    rw [e]
    simp only [ev_const, const_int, ev_list, evs_nil, evs_cons, ex_assign, setL, ofString_eq, String.reduceEq, List.length_cons, List.length_nil, Nat.reduceAdd, bind1_some, bind2_some, if_false]
    rfl
  · obtain ⟨i, _, rfl⟩ := List.mem_map.mp hy
    exact ⟨i, rfl⟩
theorem law_1 {vs st : List AV} {rs : Nat} (hs : m.lookup (Str.ofString "script") = some (.frz vs)) (hst : m.lookup (Str.ofString "start") = some (.ref rs)) (hsum : m.lookup (Str.ofString "sum") = none) (hrng : m.lookup (Str.ofString "range") = none)
    (hr : σ[rs]? = some (.list st)) (hv : ∀ v ∈ vs, IsInt v) (hl : vs.length ≤ 63) (hi : ∀ v ∈ st, IsInt v) (hsl : st.length = 11) :
    ∃ ys r σ2, ex O m (lq 1) σ = some (.next, setL m "cells" (.ref r), σ2) ∧ Keeps σ σ2 ∧ σ2[r]? = some (.list ys) ∧ ys.length = 11 ∧ ∀ y ∈ ys, IsInt y := by
  obtain ⟨ys, σ2, e1, e2, e3, e4⟩ := cells_ok (O := O) (σ := σ) hs hst hsum hrng hr hv hl hi hsl
  have e : ∃ p q, lq 1 = .Assign [.Name "cells" p] c1 q := ⟨_, _, by rfl⟩
  obtain ⟨p, q, e⟩ := e
  refine ⟨ys, σ2.length, σ2 ++ [.list ys], ?_, e2.trans (Keeps.app _ _), by simp, e3, e4⟩
  rw [e]
  exact asg e1
theorem law_2 {cs : List AV} {r : Nat} (hc : m.lookup (Str.ofString "cells") = some (.ref r)) (hsum : m.lookup (Str.ofString "sum") = none) (hr : σ[r]? = some (.list cs)) (hl : cs.length = 11) (hi : ∀ y ∈ cs, IsInt y) :
    ∃ t σ2, ex O m (lq 2) σ = some (.next, setL m "total" (.int t), σ2) ∧ Keeps σ σ2 := by
  obtain ⟨z, hz⟩ := sum_call (O := O) (σ := σ ++ [.list (cs.take 8)]) (r := σ.length) (xs := cs.take 8) (by simp) (fun v hv => hi v (List.mem_of_mem_take hv))
  refine ⟨z, _, ?_, Keeps.app σ [.list (cs.take 8)]⟩
  (have e : lq 2 = lq 2 := rfl; conv at e => rhs; whnf)
  rw [e]
  simp only [ev_const, const_int, ev_name, ev_callN, ev_subSl, evs_nil, evs_cons, evOpt_none, evOpt_some, ex_assign, bind1_some, bind2_some]
  simp only [hc, hsum, bind1_some, bind2_some, if_false, Bool.false_eq_true, Option.isSome_none, Bool.false_eq_true, if_false, bif_sum, bound_none, bound_int (show intOk 8 = true from rfl), slc_to (σ := σ) (show (8 : Int) = (8 : Nat) from rfl) hr (by omega) (by omega), hz]

noncomputable def c3 : PySem.Expr := asgE (lq 3)
noncomputable def IsCode (v : AV) : Prop := ∃ c : Nat, c < 55000 ∧ v = .int c
theorem law_3 {cs : List AV} {r : Nat} {t : Int} (hc : m.lookup (Str.ofString "cells") = some (.ref r)) (ht : m.lookup (Str.ofString "total") = some (.int t)) (hr : σ[r]? = some (.list cs)) (hl : cs.length = 11) (hi : ∀ y ∈ cs, IsInt y) :
    ∃ ys r2 σ2, ex O m (lq 3) σ = some (.next, setL m "codes" (.ref r2), σ2) ∧ Keeps σ σ2 ∧ σ2[r2]? = some (.list ys) ∧ ys.length ≤ 8 ∧ ∀ y ∈ ys, IsCode y := by
  have e : ∃ p q s, c3 = .ListComp (cElt c3) [⟨.Name "x" p, cIter c3, [], 0⟩] s q ∧ s.names.lookup (Str.ofString "cells") = some .free := ⟨_, _, _, by rfl, by kernel_rfl⟩
  obtain ⟨p, q, s, e, f1⟩ := e
  obtain ⟨n, hn, hn8⟩ : ∃ n : Nat, 5 + t % 4 = n ∧ n ≤ 8 := ⟨(5 + t % 4).toNat, by omega, by omega⟩
  have hit : ev O m (cIter c3) σ = some (.ref σ.length, σ ++ [.list (cs.take n)]) := by
    (have e : cIter c3 = cIter c3 := rfl; conv at e => rhs; whnf)
    rw [e]
    simp only [ev_const, const_int, ev_name, ev_binop, ev_subSl, evOpt_none, evOpt_some, bind1_some, bind2_some]
    simp only [hc, ht, bind1_some, bind2_some, add_int', mod_int2, if_true, bound_none, show ((0 : Int) < 4) = True by simp, if_true]
    simp only [bind1_some, bound_int (show intOk (5 + t % 4) = true from intOk_of (by omega)), slc_to (σ := σ) hn hr (by omega) (by omega)]
  have hnew : (σ ++ [Cell.list (cs.take n)])[σ.length]? = some (.list (cs.take n)) := by simp
  obtain ⟨ys, σ2, r1, r2, r3, r4⟩ := ev_comp_q (O := O) (elt := cElt c3) (ifs := []) (scope := s) (t := .Name "x" p) (p := q) (Q := IsCode) (fun σ' => σ'[σ.length]? = some (.list (cs.take n)) ∧ σ'[r]? = some (.list cs)) hit (srcOk_list hnew)
    (fun i σ' h => next_list h.1 i) (fuel_list hnew) (fun σ' σ'' h k => ⟨k _ _ h.1, k _ _ h.2⟩) (fun v hv σ' hR => by
      obtain ⟨i, rfl⟩ := hi v (List.mem_of_mem_take hv)
      obtain ⟨k, hk, hk2⟩ : ∃ k : Nat, 8 + i % 5 / 2 = k ∧ k < 11 := ⟨(8 + i % 5 / 2).toNat, by omega, by omega⟩
      obtain ⟨j, hj⟩ := hi cs[k] (List.getElem_mem (by omega))
      refine ⟨.int (j % 55000), σ', ?_, Keeps.refl _, (j % 55000).toNat, by omega, by congr 1; omega⟩
      have k1 : (setL (sees s m) (Str.ofString "x") (.int i)).lookup (Str.ofString "cells") = some (.ref r) := by rw [lookup_setL, if_neg (by decide), lookup_sees f1]; exact hc
      have k2 : (setL (sees s m) (Str.ofString "x") (.int i)).lookup (Str.ofString "x") = some (.int i) := by rw [lookup_setL, if_pos rfl]
      generalize hm : setL (sees s m) (Str.ofString "x") (.int i) = m' at k1 k2
      unfold compF
      simp only [bindT_name, bind1_some, hm, trs_nil, bind2_some, if_true]
      (have e2 : cElt c3 = cElt c3 := rfl; conv at e2 => rhs; whnf)
      rw [e2]
      simp only [ev_const, const_int, ev_name, ev_binop, ev_subB, bind1_some, bind2_some]
      simp only [k1, k2, bind1_some, bind2_some, add_int', fdiv_int', mod_int2, if_true, show ((0 : Int) < 5) = True by simp, show ((0 : Int) < 2 ∧ (2 : Int) < 1000000000) = True by simp, show ((0 : Int) < 55000) = True by simp, if_true, subs_list (σ := σ') hk hR.2 (show k < cs.length by omega) (by omega), hj])
    (by simp; omega) ⟨hnew, Keeps.app _ _ _ _ hr⟩
  have e' : ∃ p q, lq 3 = .Assign [.Name "codes" p] c3 q := ⟨_, _, by rfl⟩
  obtain ⟨p', q', e'⟩ := e'
  refine ⟨ys, σ2.length, σ2 ++ [.list ys], ?_, (Keeps.app _ _).trans (r2.trans (Keeps.app _ _)), by simp, by rw [r3]; simp; omega, r4⟩
  rw [e']
  refine asg ?_
  rw [show ev O m c3 σ = _ from congrArg (fun s => ev O m s σ) e]
  exact r1
theorem codesAre : ∀ {l : List AV}, (∀ v ∈ l, IsCode v) → ∃ cs : List Nat, l = cs.map (fun (c : Nat) => AV.int c) ∧ ∀ c ∈ cs, c < 55000
  | [], _ => ⟨[], rfl, by simp⟩
  | v :: l, h => by
    obtain ⟨i, hi, rfl⟩ := h v (by simp)
    obtain ⟨is, rfl, h2⟩ := codesAre (l := l) (fun u hu => h u (by simp [hu]))
    exact ⟨i :: is, rfl, fun c hc => (List.mem_cons.mp hc).elim (fun e => e ▸ hi) (h2 c)⟩
end Mine.L3
end

section
open PySem PySem.W PyProof.Rows
set_option maxRecDepth 100000
set_option linter.unusedSimpArgs false
set_option maxHeartbeats 1000000
namespace Mine.L3
variable {O : Oracle} {σ : Sto} {m : Loc}
theorem joinL_one (l : List Nat) : joinL [] (l.map fun c => [c]) = l := by
  induction l with
  | nil => rfl
  | cons c l ih =>
    cases l with
    | nil => rfl
    | cons d l =>
      show [c] ++ [] ++ joinL [] ([d] :: l.map fun c => [c]) = _
      have : joinL [] ([d] :: l.map fun c => [c]) = d :: l := ih
      rw [this]; rfl
theorem txts_one (l : List Nat) : txts (l.map fun c => AV.str [c]) = some (l.map fun c => [c]) := by
  induction l with
  | nil => rfl
  | cons c l ih =>
    show (bind1 (txts (l.map fun c => AV.str [c])) fun ls => some ([c] :: ls)) = _
    rw [ih]; rfl
theorem total_one (l : List Nat) : total (l.map fun c => [c]) = l.length := by
  induction l with
  | nil => rfl
  | cons c l ih =>
    simp only [total, List.map_cons, List.sum_cons, List.length_cons, List.length_nil] at *
    omega
theorem join_one {r : Nat} {l : List Nat} (h : σ[r]? = some (.list (l.map fun c => AV.str [c]))) (hl : l.length ≤ 1000) : methCall O .join (.str []) [.ref r] σ = some (.str l, σ) := by
  show (bind1 (listAt σ r) fun xs => bind1 (txts xs) fun ss => if sizeOk (total ss + 0 * ss.length) then some (AV.str (joinL [] ss), σ) else none) = _
  rw [listAt_of h, bind1_some, txts_one, bind1_some, total_one, Nat.zero_mul, Nat.add_zero, if_pos (sizeOk_of (show l.length ≤ 1000000 by omega)), joinL_one]
noncomputable def c4 : PySem.Expr := arg0 (asgE (lq 4))
noncomputable def c5 : PySem.Expr := arg0 (asgE (lq 5))
theorem fm_map (f : Nat → Nat) (cs : List Nat) : (cs.map fun (c : Nat) => AV.int c).filterMap (fun v => some (AV.str [f (toN v)])) = (cs.map f).map fun c => AV.str [c] := by
  induction cs with
  | nil => rfl
  | cons c cs ih =>
    simp only [List.map_cons, List.filterMap_cons, ih]
    rfl
theorem chr_call {i : Int} {n : Nat} (hi : i = n) (h : n ≤ 1114111) : builtin O .chr [.int i] σ = some (.str [n], σ) := by
  subst hi
  have : chrIx (n : Int) = some n := by
    show (if Nat.ble n 1114111 then some n else none) = _
    rw [if_pos (Nat.ble_eq_true_of_le h)]
  show (bind1 (chrIx (n : Int)) fun n => some (AV.str [n], σ)) = _
  rw [this, bind1_some]
theorem asg_join {x : Str} {p1 p2 p3 p4 p5 k : _} {c : PySem.Expr} {σ2 : Sto} {l : List Nat} (h : ev O m c σ = some (.ref σ2.length, σ2 ++ [.list (l.map fun c => AV.str [c])])) (hl : l.length ≤ 1000) :
    ex O m (.Assign [.Name x p1] (.Call (.Attribute (.Constant (.str "") k p2) "join" p3) [c] [] p4) p5) σ = some (.next, setL m x (.str l), σ2 ++ [.list (l.map fun c => AV.str [c])]) := by
  refine asg ?_
  simp only [ev_callA, ev_const, const_str, evs_cons, evs_nil, mth_join, emptyStr, bind1_some, bind2_some, recv_join, if_true, if_true, h, join_one (σ := σ2 ++ [Cell.list (l.map fun c => AV.str [c])]) (r := σ2.length) (l := l) (by simp) hl]
theorem chars_ok {elt iter : PySem.Expr} {p q : _} {s : Scope} {f : Nat → Nat} {cs : List Nat} {r : Nat} (hc : m.lookup (Str.ofString "codes") = some (.ref r)) (hch : m.lookup (Str.ofString "chr") = none)
    (hit : ev O m iter σ = some (.ref r, σ))
    (helt : ∀ (m' : Loc) (c : Nat) (σ' : Sto), c < 55000 → m'.lookup (Str.ofString "code") = some (.int c) → m'.lookup (Str.ofString "chr") = none → ev O m' elt σ' = some (.str [f c], σ'))
    (hr : σ[r]? = some (.list (cs.map fun (c : Nat) => AV.int c))) (hl : cs.length ≤ 8) (hi : ∀ c ∈ cs, c < 55000) :
    ∃ σ2, ev O m (.ListComp elt [⟨.Name "code" p, iter, [], 0⟩] s q) σ = some (.ref σ2.length, σ2 ++ [.list ((cs.map f).map fun c => AV.str [c])]) ∧ Keeps σ σ2 := by
  obtain ⟨σ2, r1, r2⟩ := ev_comp_keep (O := O) (elt := elt) (ifs := []) (scope := s) (t := .Name "code" p) (p := q) (g := fun v => some (.str [f (toN v)])) (fun σ' => σ'[r]? = some (.list (cs.map fun (c : Nat) => AV.int c))) hit (srcOk_list hr)
    (fun i σ' h => next_list h i) (fuel_list hr) (fun σ' σ'' h k => k _ _ h) (fun v hv σ' hR => by
      obtain ⟨c, hc', rfl⟩ := List.mem_map.mp hv
      refine ⟨σ', ?_, Keeps.refl _⟩
      unfold compF
      simp only [bindT_name, bind1_some, trs_nil, bind2_some, if_true, helt (setL (sees s m) (Str.ofString "code") (.int (c : Nat))) c σ' (hi c hc') (by rw [lookup_setL, if_pos rfl]) (by rw [lookup_setL, if_neg (by decide)]; exact lookup_sees_none hch)]
      rfl) (by simp; omega) hr
  rw [fm_map f] at r1
  exact ⟨σ2, r1, r2⟩
theorem law_4 {cs : List Nat} {r : Nat} (hc : m.lookup (Str.ofString "codes") = some (.ref r)) (hch : m.lookup (Str.ofString "chr") = none) (hr : σ[r]? = some (.list (cs.map fun (c : Nat) => AV.int c))) (hl : cs.length ≤ 8) (hi : ∀ c ∈ cs, c < 55000) :
    ∃ σ2, ex O m (lq 4) σ = some (.next, setL m "word" (.str (cs.map (33 + ·))), σ2) ∧ Keeps σ σ2 := by
  have e : ∃ p q s p1 p2 p3 p4 p5 k, lq 4 = .Assign [.Name "word" p1] (.Call (.Attribute (.Constant (.str "") k p2) "join" p3) [.ListComp (cElt c4) [⟨.Name "code" p, cIter c4, [], 0⟩] s q] [] p4) p5 := ⟨_, _, _, _, _, _, _, _, _, by rfl⟩
  obtain ⟨p, q, s, p1, p2, p3, p4, p5, k, e⟩ := e
  obtain ⟨σ2, h1, h2⟩ := chars_ok (O := O) (σ := σ) (m := m) (elt := cElt c4) (iter := cIter c4) (p := p) (q := q) (s := s) (f := (33 + ·)) hc hch (by
    (have e : cIter c4 = cIter c4 := rfl; conv at e => rhs; whnf)
    rw [e]
    simp only [ev_name]
    simp only [hc, bind1_some]) (fun m' c σ' hc2 k1 k2 => by
    (have e2 : cElt c4 = cElt c4 := rfl; conv at e2 => rhs; whnf)
    rw [e2]
    simp only [ev_const, const_int, ev_name, ev_binop, ev_callN, evs_nil, evs_cons, bind1_some, bind2_some]
    simp only [k1, k2, bind1_some, bind2_some, add_int', if_false, Bool.false_eq_true, Option.isSome_none, Bool.false_eq_true, if_false, bif_chr, chr_call (n := 33 + c) (show (33 : Int) + (c : Int) = ((33 + c : Nat) : Int) by omega) (by omega)]) hr hl hi
  refine ⟨_, ?_, h2.trans (Keeps.app _ [.list ((cs.map (33 + ·)).map fun c => AV.str [c])])⟩
  rw [e]
  exact asg_join h1 (by simp; omega)
theorem law_5 {cs : List Nat} {r : Nat} (hc : m.lookup (Str.ofString "codes") = some (.ref r)) (hch : m.lookup (Str.ofString "chr") = none) (hr : σ[r]? = some (.list (cs.map fun (c : Nat) => AV.int c))) (hl : cs.length ≤ 8) (hi : ∀ c ∈ cs, c < 55000) :
    ∃ σ2, ex O m (lq 5) σ = some (.next, setL m "turned" (.str (cs.map (55032 - ·))), σ2) ∧ Keeps σ σ2 := by
  have e : ∃ p q s p1 p2 p3 p4 p5 k, lq 5 = .Assign [.Name "turned" p1] (.Call (.Attribute (.Constant (.str "") k p2) "join" p3) [.ListComp (cElt c5) [⟨.Name "code" p, cIter c5, [], 0⟩] s q] [] p4) p5 := ⟨_, _, _, _, _, _, _, _, _, by rfl⟩
  obtain ⟨p, q, s, p1, p2, p3, p4, p5, k, e⟩ := e
  obtain ⟨σ2, h1, h2⟩ := chars_ok (O := O) (σ := σ) (m := m) (elt := cElt c5) (iter := cIter c5) (p := p) (q := q) (s := s) (f := (55032 - ·)) hc hch (by
    (have e : cIter c5 = cIter c5 := rfl; conv at e => rhs; whnf)
    rw [e]
    simp only [ev_name]
    simp only [hc, bind1_some]) (fun m' c σ' hc2 k1 k2 => by
    (have e2 : cElt c5 = cElt c5 := rfl; conv at e2 => rhs; whnf)
    rw [e2]
    simp only [ev_const, const_int, ev_name, ev_binop, ev_callN, evs_nil, evs_cons, bind1_some, bind2_some]
    simp only [k1, k2, bind1_some, bind2_some, sub_int', if_false, Bool.false_eq_true, Option.isSome_none, Bool.false_eq_true, if_false, bif_chr, chr_call (n := 55032 - c) (show (55032 : Int) - (c : Int) = ((55032 - c : Nat) : Int) by omega) (by omega)]) hr hl hi
  refine ⟨_, ?_, h2.trans (Keeps.app _ [.list ((cs.map (55032 - ·)).map fun c => AV.str [c])])⟩
  rw [e]
  exact asg_join h1 (by simp; omega)
theorem law_6 : ex O m (lq 6) σ = some (.next, setL m "runs" (.ref σ.length), σ ++ [.list []]) := by
  (have e : lq 6 = lq 6 := rfl; conv at e => rhs; whnf)
  rw [e]
  simp only [ev_list, evs_nil, ex_assign, List.length_nil, bind2_some]
  rfl
theorem law_7 : ex O m (lq 7) σ = some (.next, setL m "served" (.ref σ.length), σ ++ [.list []]) := by
  (have e : lq 7 = lq 7 := rfl; conv at e => rhs; whnf)
  rw [e]
  simp only [ev_list, evs_nil, ex_assign, List.length_nil, bind2_some]
  rfl
noncomputable abbrev lm (vs : List AV) (a b : Nat) (t : Int) (c : Nat) (w w' : List Nat) (r q : Nat) : Loc := [("script", .frz vs), ("start", .ref a), ("cells", .ref b), ("total", .int t), ("codes", .ref c), ("word", .str w), ("turned", .str w'), ("runs", .ref r), ("served", .ref q)]
/-- the law's head -/
inductive HeadG (O : Oracle) (vs : List AV) (rest : List PySem.Stmt) : Prop
  | mk (a b : Nat) (t : Int) (c r q : Nat) (cs : List Nat) (σ' : Sto) : exs O [("script", .frz vs)] (lq 0 :: lq 1 :: lq 2 :: lq 3 :: lq 4 :: lq 5 :: lq 6 :: lq 7 :: rest) ([] : Sto) = exs O (lm vs a b t c (cs.map (33 + ·)) (cs.map (55032 - ·)) r q) rest σ' →
    cs.length ≤ 8 → (∀ c ∈ cs, c < 55000) → σ'[r]? = some (.list []) → σ'[q]? = some (.list []) → r ≠ q → HeadG O vs rest
theorem law_head {vs : List AV} (hv : ∀ v ∈ vs, IsInt v) (hl : vs.length ≤ 63) (rest : List PySem.Stmt) : HeadG O vs rest := by
  obtain ⟨st, e0, s1, s2⟩ := law_0 (O := O) (σ := []) (v := .frz vs)
  generalize hσ1 : ([] ++ [Cell.list st] : Sto) = σ1 at e0
  have g1 : σ1[0]? = some (.list st) := by rw [← hσ1]; rfl
  obtain ⟨cl, b, σ2, e1, k1, g2, s3, s4⟩ := law_1 (O := O) (σ := σ1) (m := ([("script", .frz vs), ("start", .ref ([] : Sto).length)] : Loc)) rfl rfl rfl rfl g1 hv hl s2 s1
  obtain ⟨t, σ3, e2, k2⟩ := law_2 (O := O) (σ := σ2) (m := setL ([("script", .frz vs), ("start", .ref ([] : Sto).length)] : Loc) "cells" (.ref b)) rfl rfl g2 s3 s4
  obtain ⟨ys, c, σ4, e3, k3, g4, s5, s6⟩ := law_3 (O := O) (σ := σ3) (m := setL (setL ([("script", .frz vs), ("start", .ref ([] : Sto).length)] : Loc) "cells" (.ref b)) "total" (.int t)) (t := t) rfl rfl (k2 _ _ g2) s3 s4
  obtain ⟨cs, rfl, hi⟩ := codesAre s6
  simp only [List.length_map] at s5
  obtain ⟨σ5, e4, k4⟩ := law_4 (O := O) (σ := σ4) (m := setL (setL (setL ([("script", .frz vs), ("start", .ref ([] : Sto).length)] : Loc) "cells" (.ref b)) "total" (.int t)) "codes" (.ref c)) rfl rfl g4 s5 hi
  obtain ⟨σ6, e5, k5⟩ := law_5 (O := O) (σ := σ5) (m := setL (setL (setL (setL ([("script", .frz vs), ("start", .ref ([] : Sto).length)] : Loc) "cells" (.ref b)) "total" (.int t)) "codes" (.ref c)) "word" (.str (cs.map (33 + ·)))) rfl rfl (k4 _ _ g4) s5 hi
  refine ⟨0, b, t, c, σ6.length, (σ6 ++ [Cell.list []]).length, cs, (σ6 ++ [Cell.list []]) ++ [Cell.list []], ?_, s5, hi, by simp, by simp, by simp⟩
  rw [exs_cons, e0]
  simp only
  rw [exs_cons, e1]
  simp only
  rw [exs_cons, e2]
  simp only
  rw [exs_cons, e3]
  simp only
  rw [exs_cons, e4]
  simp only
  rw [exs_cons, e5]
  simp only
  rw [exs_cons, law_6]
  simp only
  rw [exs_cons, law_7]
  rfl
end Mine.L3
end

section
open PySem PySem.W PyProof.Rows
set_option maxRecDepth 100000
set_option linter.unusedSimpArgs false
set_option maxHeartbeats 1000000
namespace Mine.L3
noncomputable def wordP (p : Pr) : List Nat := p.1 ++ p.2
theorem merge_chain : ∀ (st : List Pr) (p : Pr) (v : List Nat), wordP p ≠ [] → lowTo (wordP p ++ v) (wordP p).length → Chain v (st.map wordP) →
    Chain (wordP p ++ v) (wordP (mergeP st p).2 :: (mergeP st p).1.map wordP)
  | [], p, v, hp, H, h => Chain.push hp H h (fun y r e => by cases e)
  | b :: r, p, v, hp, H, h => by
    simp only [mergeP_s]
    cases hl : ltL (p.1 ++ p.2) (b.1 ++ b.2) with
    | true =>
      simp only [if_true, if_true]
      obtain ⟨v', rfl, h', H'⟩ := Chain.merge (y := wordP b) hp H h hl
      have := merge_chain r (p.1 ++ p.2, b.1 ++ b.2) v' (fun e => hp (List.append_eq_nil_iff.mp e).1) H' h'
      rw [show wordP (p.1 ++ p.2, b.1 ++ b.2) = wordP p ++ wordP b from rfl, List.append_assoc] at this
      exact this
    | false =>
      simp only [Bool.false_eq_true, if_false, if_false, Bool.false_eq_true]
      exact Chain.push hp H h (fun y r' e => by
        cases e; exact hl)
structure StepsAre (v : List Nat) (s : List Pr × List Nat) : Prop where
  chain : Chain v (s.1.map wordP)
  len : s.2.length = v.length
  nss : ∀ i p, s.2.reverse[i]? = some p → NssL (v.drop i) p
theorem signP_are {v : List Nat} {s : List Pr × List Nat} (h : StepsAre v s) (c : Nat) : StepsAre (c :: v) (signP s c) := by
  have hc := merge_chain s.1 ([c], []) v (by simp [wordP]) (lowTo_one _) h.chain
  refine ⟨hc, by simp [signP, h.len], fun i p hi => ?_⟩
  have hn := hc.nss
  simp only [signP, List.reverse_append, List.reverse_cons, List.reverse_nil, List.nil_append, List.singleton_append] at hi
  cases i with
  | zero =>
    simp at hi
    subst hi
    have : (wordP (mergeP s.1 ([c], [])).2).length = (mergeP s.1 ([c], [])).2.1.length + (mergeP s.1 ([c], [])).2.2.length := by simp [wordP]
    rw [this] at hn
    exact hn
  | succ i => exact h.nss i p (by simpa using hi)
theorem stepsP_are (w : List Nat) : StepsAre w (w.reverse.foldl signP ([], [])) := by
  rw [List.foldl_reverse]
  induction w with
  | nil => exact ⟨.nil, rfl, fun i p h => by simp at h⟩
  | cons c w ih => exact signP_are ih c
theorem stepsP_len (w : List Nat) : (stepsP w).length = w.length := by
  simp only [stepsP, List.length_reverse]
  exact (stepsP_are w).len
theorem stepsP_nss {w : List Nat} {i : Nat} (h : i < (stepsP w).length) : NssL (w.drop i) (stepsP w)[i] :=
  (stepsP_are w).nss i _ (List.getElem?_eq_getElem h)

/-- the two loops of _law_stretch tell the stretch -/
theorem downP_ok (w : List Nat) (p : Nat) : ∀ i, downP w p i ≤ i ∧ (∀ t, downP w p i ≤ t → t < i → w[t]? = w[t + p]?) ∧ (downP w p i = 0 ∨ w[downP w p i - 1]? ≠ w[downP w p i - 1 + p]?)
  | 0 => ⟨Nat.le_refl _, fun t _ h => by omega, .inl rfl⟩
  | i + 1 => by
    obtain ⟨h1, h2, h3⟩ := downP_ok w p i
    simp only [downP_s]
    by_cases q : w[i]? = w[i + p]?
    · rw [if_pos q]
      refine ⟨by omega, fun t t1 t2 => ?_, h3⟩
      by_cases e : t = i
      · subst e; exact q
      · exact h2 t t1 (by omega)
    · rw [if_neg q]
      exact ⟨Nat.le_refl _, fun t t1 t2 => by omega, .inr (by simpa using q)⟩
theorem upP_ok (w : List Nat) (p : Nat) : ∀ k l, l + k = w.length → l ≤ upP w p k l ∧ upP w p k l ≤ w.length ∧ (∀ t, l ≤ t → t < upP w p k l → w[t]? = w[t - p]?) ∧ (upP w p k l = w.length ∨ w[upP w p k l]? ≠ w[upP w p k l - p]?)
  | 0, l, h => ⟨Nat.le_refl _, by simp [upP_0]; omega, fun t _ h => by simp [upP_0] at h; omega, .inl h⟩
  | k + 1, l, h => by
    simp only [upP_s]
    by_cases q : w[l]? = w[l - p]?
    · rw [if_pos q]
      obtain ⟨h1, h2, h3, h4⟩ := upP_ok w p k (l + 1) (by omega)
      refine ⟨by omega, h2, fun t t1 t2 => ?_, h4⟩
      by_cases e : t = l
      · subst e; exact q
      · exact h3 t (by omega) t2
    · rw [if_neg q]
      exact ⟨Nat.le_refl _, by omega, fun t t1 t2 => by omega, .inr q⟩
theorem stretch_is {w : List Nat} {i p : Nat} (h : i + p ≤ w.length) : Strt w i p (downP w p i) (upP w p (w.length - (i + p)) (i + p)) := by
  obtain ⟨a1, a2, a3⟩ := downP_ok w p i
  obtain ⟨b1, b2, b3, b4⟩ := upP_ok w p (w.length - (i + p)) (i + p) (by omega)
  refine ⟨a1, b1, b2, fun t t1 t2 => ?_, a3, b4⟩
  by_cases q : t < i
  · exact a2 t t1 q
  · have := b3 (t + p) (by omega) t2
    rw [Nat.add_sub_cancel] at this
    exact this.symm
end Mine.L3
end

section
open PySem PySem.W PyProof.Rows
set_option maxRecDepth 100000
set_option linter.unusedSimpArgs false
set_option maxHeartbeats 1000000
namespace Mine.L3
noncomputable def protL : List Str := ["word", "turned", "total", "runs", "served", "len", "range", "_law_steps", "_law_stretch", "_law_due", "sorted", "_indent"]
noncomputable def Agr (m m0 : Loc) : Prop := ∀ y ∈ protL, m.lookup y = m0.lookup y
theorem Agr.set {m m0 : Loc} (h : Agr m m0) {x : Str} {v : AV} (hx : ∀ y ∈ protL, y ≠ x) : Agr (setL m x v) m0 := fun y hy => by
  rw [lookup_setL, if_neg (hx y hy)]; exact h y hy
noncomputable abbrev O1 : Oracle := calls pr fns 1
noncomputable abbrev O2 : Oracle := calls pr fns 2
theorem call_steps (vs : List AV) (σ : Sto) : O2 (Str.ofString "_law_steps") vs σ = callFn O1 (fnOf "_law_steps") vs σ := by
  show (match fns (Str.ofString "_law_steps") with | some fn => callFn (calls pr fns 1) fn vs σ | none => pr (Str.ofString "_law_steps") vs σ) = _
  have : fns (Str.ofString "_law_steps") = some (fnOf "_law_steps") := by
    unfold fns; rw [if_pos (by decide)]
  rw [this]
theorem call_stretch (vs : List AV) (σ : Sto) : O2 (Str.ofString "_law_stretch") vs σ = callFn O1 (fnOf "_law_stretch") vs σ := by
  show (match fns (Str.ofString "_law_stretch") with | some fn => callFn (calls pr fns 1) fn vs σ | none => pr (Str.ofString "_law_stretch") vs σ) = _
  have : fns (Str.ofString "_law_stretch") = some (fnOf "_law_stretch") := by
    unfold fns; rw [if_pos (by decide)]
  rw [this]
theorem call_due (vs : List AV) (σ : Sto) : O2 (Str.ofString "_law_due") vs σ = callFn O1 (fnOf "_law_due") vs σ := by
  show (match fns (Str.ofString "_law_due") with | some fn => callFn (calls pr fns 1) fn vs σ | none => pr (Str.ofString "_law_due") vs σ) = _
  have : fns (Str.ofString "_law_due") = some (fnOf "_law_due") := by
    unfold fns; rw [if_pos (by decide)]
  rw [this]

noncomputable def mA : PySem.Stmt := ((forB (lq 8))[0]?).getD (.Pass default)
noncomputable def mB : PySem.Stmt := ((forB (lq 8))[1]?).getD (.Pass default)
noncomputable def nA : PySem.Stmt := ((forB mB)[0]?).getD (.Pass default)
noncomputable def nB : PySem.Stmt := ((forB mB)[1]?).getD (.Pass default)
noncomputable def oA : PySem.Stmt := ((ifB nB)[0]?).getD (.Pass default)
noncomputable def oB : PySem.Stmt := ((ifB nB)[1]?).getD (.Pass default)
noncomputable def qA : PySem.Stmt := ((ifB oB)[0]?).getD (.Pass default)
noncomputable def qB : PySem.Stmt := ((ifB oB)[1]?).getD (.Pass default)
theorem m_is : forB (lq 8) = [mA, mB] := by kernel_rfl
theorem n_is : forB mB = [nA, nB] := by kernel_rfl
theorem o_is : ifB nB = [oA, oB] := by kernel_rfl
theorem q_is : ifB oB = [qA, qB] := by kernel_rfl

noncomputable abbrev Tri := Nat × Nat × Nat
noncomputable abbrev triV (t : Tri) : AV := .tup [.int t.1, .int t.2.1, .int t.2.2]
noncomputable abbrev servV (x : Nat × Tri) : AV := .tup [.int x.1, triV x.2]
noncomputable def triP (w : List Nat) (i p : Nat) : Tri := (downP w p i, upP w p (w.length - (i + p)) (i + p), p)

theorem eq_tri (t u : Tri) : eqAV (triV t) (triV u) = some (decide (t = u)) := by
  obtain ⟨a, b, c⟩ := t
  obtain ⟨d, e, f⟩ := u
  show some (((a : Int) == (d : Int)) && (((b : Int) == (e : Int)) && (((c : Int) == (f : Int)) && true))) = _
  congr 1
  rw [Bool.eq_iff_iff]
  simp only [Bool.and_eq_true, beq_iff_eq, decide_eq_true_eq, Prod.mk.injEq, and_true, Int.natCast_inj]
theorem any_tri (t : Tri) : ∀ rs : List Tri, anyEq (triV t) (rs.map triV) = some (decide (t ∈ rs))
  | [] => rfl
  | u :: rs => by
    show (bind1 (eqAV (triV u) (triV t)) fun a => bind1 (anyEq (triV t) (rs.map triV)) fun b => some (a || b)) = _
    rw [eq_tri, any_tri t rs, bind1_some, bind1_some]
    congr 1
    rw [Bool.eq_iff_iff]
    simp only [Bool.or_eq_true, decide_eq_true_eq, List.mem_cons]
    exact or_congr_left ⟨fun h => h.symm, fun h => h.symm⟩

section
variable {O : Oracle} {σ : Sto} {m : Loc} {vs : List AV} {a b c r q s : Nat} {tt : Int} {w w' : List Nat}
theorem nA_ok (A : Agr m (lm vs a b tt c w w' r q)) {i : Nat} {st : List Nat} (hi : i < st.length) (hp : m.lookup (Str.ofString "place") = some (.int i)) (hs : m.lookup (Str.ofString "steps") = some (.ref s))
    (hst : σ[s]? = some (.list (st.map fun (n : Nat) => AV.int n))) (hl : st.length ≤ 80) (hw : w.length ≤ 80) (h : i + st[i] ≤ w.length) :
    ex O2 m nA σ = some (.next, setL m "run" (triV (triP w i st[i])), σ) := by
  have e0 := stretch_run (O := O1) (σ := σ) (w := w) (place := i) (step := st[i]) (by omega) h
  have k1 := A _ (show Str.ofString "word" ∈ protL by decide)
  have k2 := A _ (show Str.ofString "_law_stretch" ∈ protL by decide)
  have k1' : m.lookup (Str.ofString "word") = some (.str w) := k1.trans rfl
  have k2' : m.lookup (Str.ofString "_law_stretch") = none := k2.trans rfl
  (have e : nA = nA := rfl; conv at e => rhs; whnf)
  rw [e]
  simp only [ev_name, ev_callN, ev_subN, evs_nil, evs_cons, ex_assign, bind2_some]
  simp only [k1', k2', hp, hs, bind1_some, bind2_some, if_false, Bool.false_eq_true, Option.isSome_none, Bool.false_eq_true, if_false, show bifOf (Str.ofString "_law_stretch") = none by decide,
    subs_list (σ := σ) (show (i : Int) = (i : Nat) from rfl) hst (by simpa using hi) (by simp; omega), List.getElem_map, call_stretch, e0]
  rfl
theorem nB_t {i : Nat} {st : List Nat} {t : Tri} (hi : i < st.length) (hp : m.lookup (Str.ofString "place") = some (.int i)) (hs : m.lookup (Str.ofString "steps") = some (.ref s)) (hr : m.lookup (Str.ofString "run") = some (triV t))
    (hst : σ[s]? = some (.list (st.map fun (n : Nat) => AV.int n))) (hl : st.length ≤ 80) (hb : st[i] ≤ 1000) (ht : t.1 ≤ t.2.1) :
    tr O m (ifT nB) σ (ev O m (ifT nB) σ) = some (decide (2 * st[i] ≤ t.2.1 - t.1), σ) := by
  (have e : ifT nB = ifT nB := rfl; conv at e => rhs; whnf)
  rw [e]
  simp only [tr_cmp, ev_const, const_int, ev_name, ev_binop, ev_cmp, isQ_bin, ev_subN, ev_subC, bind1_some, bind2_some, if_false, Bool.false_eq_true]
  simp only [hp, hs, hr, bind1_some, bind2_some, byV_bool, sub_int', mul_int', cmp_ge, if_true, subs_list (σ := σ) (show (i : Int) = (i : Nat) from rfl) hst (by simpa using hi) (by simp; omega), List.getElem_map,
    show subs (triV t) (.int 1) σ = some (.int t.2.1) from rfl, show subs (triV t) (.int 0) σ = some (.int t.1) from rfl,
    (show (intOk 2 && intOk (st[i] : Int)) = true by rw [intOk_of (i := (st[i] : Int)) (by omega)]; rfl), if_true]
  have h1 : (!decide ((t.2.1 : Int) - (t.1 : Int) < 2 * (st[i] : Int))) = decide (2 * st[i] ≤ t.2.1 - t.1) := by
    by_cases q : 2 * st[i] ≤ t.2.1 - t.1
    · rw [decide_eq_true q, decide_eq_false (by omega)]; rfl
    · rw [decide_eq_false q, decide_eq_true (by omega)]; rfl
  rw [h1]
theorem oA_ok (A : Agr m (lm vs a b tt c w w' r q)) {t : Tri} {rs : List Tri} (hr : m.lookup (Str.ofString "run") = some (triV t)) (h : σ[r]? = some (.list (rs.map triV))) (hl : rs.length ≤ 1000) :
    ex O m oA σ = some (.next, m, if t ∈ rs then σ else σ.set r (.list ((rs ++ [t]).map triV))) := by
  have k1 : m.lookup (Str.ofString "runs") = some (.ref r) := (A _ (by decide)).trans rfl
  (have e : oA = oA := rfl; conv at e => rhs; whnf)
  rw [e]
  simp only [tr_cmp, ev_name, ev_cmp, isQ_name, ev_callA, evs_nil, evs_cons, ex_expr, ex_if, exs_nil, exs_more, bind2_some, if_false, Bool.false_eq_true]
  simp only [k1, hr, bind1_some, bind2_some, byV_bool, cmp_notin, recv_append, listAt, Option.isSome_some, if_true, h, any_tri, mth_append, if_true, append_call h (show (rs.map triV).length ≤ 1000 by simpa using hl)]
  have hap := append_call (O := O) (v := triV t) h (show (rs.map triV).length ≤ 1000 by simpa using hl)
  by_cases q : t ∈ rs
  · simp [q]
  · simp only [q, decide_false, Bool.not_false, if_true, if_false, List.map_append, List.map_cons, List.map_nil, if_true, if_false, Bool.not_false]
end
end Mine.L3
end

section
open PySem PySem.W PyProof.Rows
set_option maxRecDepth 100000
set_option linter.unusedSimpArgs false
set_option maxHeartbeats 1000000
namespace Mine.L3
variable {O : Oracle} {σ : Sto} {m : Loc} {vs : List AV} {a b c r q s : Nat} {tt : Int} {w w' : List Nat}
noncomputable def cmpL : PySem.Expr → PySem.Expr
  | .Compare l _ _ _ => l
  | _ => .Constant .none 0 default
noncomputable def qC : PySem.Expr := cmpL (ifT qA)
theorem fm_none {α β : Type} {L : List α} {g : α → Option β} (h : ∀ v ∈ L, g v = none) : L.filterMap g = [] := by
  rw [List.filterMap_eq_nil_iff]; exact h
theorem qC_ok (A : Agr m (lm vs a b tt c w w' r q)) {t : Tri} {i : Nat} {sv : List (Nat × Tri)} (hp : m.lookup (Str.ofString "place") = some (.int i)) (hr : m.lookup (Str.ofString "run") = some (triV t))
    (h : σ[q]? = some (.list (sv.map servV))) (hl : sv.length ≤ 1000) (no : ∀ x ∈ sv, x.1 = i → x.2 = t) :
    ∃ σ2, ev O m qC σ = some (.ref σ2.length, σ2 ++ [.list []]) ∧ Keeps σ σ2 := by
  have e : ∃ p1 p2 p3 k p q s, qC = .ListComp (cElt qC) [⟨.Tuple [.Name "spot" p1, .Name "one" p2] k p3, cIter qC, cIfs qC, 0⟩] s q ∧ s.names.lookup (Str.ofString "place") = some .free ∧ s.names.lookup (Str.ofString "run") = some .free ∧ p = p1 := ⟨_, _, _, _, _, _, _, by rfl, by kernel_rfl, by kernel_rfl, rfl⟩
  obtain ⟨p1, p2, p3, k, p, q', s, e, f1, f2, _⟩ := e
  have k1 : m.lookup (Str.ofString "served") = some (.ref q) := (A _ (by decide)).trans rfl
  have hit : ev O m (cIter qC) σ = some (.ref q, σ) := by
    (have e : cIter qC = cIter qC := rfl; conv at e => rhs; whnf)
    rw [e]
    simp only [ev_name]
    simp only [k1, bind1_some]
  obtain ⟨σ2, r1, r2⟩ := ev_comp_keep (O := O) (elt := cElt qC) (ifs := cIfs qC) (scope := s) (t := .Tuple [.Name "spot" p1, .Name "one" p2] k p3) (p := q') (g := fun _ => none) (fun σ' => σ'[q]? = some (.list (sv.map servV))) hit (srcOk_list h)
    (fun i σ' h => next_list h i) (fuel_list h) (fun σ' σ'' h k => k _ _ h) (fun v hv σ' hR => by
      obtain ⟨x, hx, rfl⟩ := List.mem_map.mp hv
      refine ⟨σ', ?_, Keeps.refl _⟩
      have n1 : (setL (setL (sees s m) (Str.ofString "spot") (.int x.1)) (Str.ofString "one") (triV x.2)).lookup (Str.ofString "spot") = some (.int x.1) := by
        rw [lookup_setL, if_neg (by decide), lookup_setL, if_pos rfl]
      have n2 : (setL (setL (sees s m) (Str.ofString "spot") (.int x.1)) (Str.ofString "one") (triV x.2)).lookup (Str.ofString "one") = some (triV x.2) := by
        rw [lookup_setL, if_pos rfl]
      have n3 : (setL (setL (sees s m) (Str.ofString "spot") (.int x.1)) (Str.ofString "one") (triV x.2)).lookup (Str.ofString "place") = some (.int i) := by
        rw [lookup_setL, if_neg (by decide), lookup_setL, if_neg (by decide), lookup_sees f1]; exact hp
      have n4 : (setL (setL (sees s m) (Str.ofString "spot") (.int x.1)) (Str.ofString "one") (triV x.2)).lookup (Str.ofString "run") = some (triV t) := by
        rw [lookup_setL, if_neg (by decide), lookup_setL, if_neg (by decide), lookup_sees f2]; exact hr
      generalize hm : setL (setL (sees s m) (Str.ofString "spot") (.int x.1)) (Str.ofString "one") (triV x.2) = m' at n1 n2 n3 n4
      unfold compF
      rw [bindT_tup (show ¬ (Str.ofString "spot" = Str.ofString "one") by decide), bind1_some, hm]
      (have e2 : cIfs qC = cIfs qC := rfl; conv at e2 => rhs; whnf)
      rw [e2]
      simp only [tr_boolop, tr_cmp, trAll_nil, trAll_cons, trs_nil, trs_cons, ev_name, ev_boolop, ev_cmp, isQ_name, evBool_one, evBool_cons, stops_and, cmp_eq, cmp_ne, if_false, Bool.false_eq_true, Bool.not_false]
      simp only [n1, n2, n3, n4, bind1_some, bind2_some, byV_bool, eqTop_int, eqTop_tup]
      by_cases qi : x.1 = i
      · have ht := no x hx qi
        have : eq0s [.int (x.2.1 : Int), .int (x.2.2.1 : Int), .int (x.2.2.2 : Int)] [.int (t.1 : Int), .int (t.2.1 : Int), .int (t.2.2 : Int)] = some true := by
          exact (eq_tri x.2 t).trans (by rw [ht]; simp)
        simp [qi, this, bind1_some, bind2_some, byV_bool]
      · have hb : ((x.1 : Int) == (i : Int)) = false := beq_eq_false_iff_ne.mpr (by omega)
        simp [hb, bind2_some]) (by simpa using hl) h
  refine ⟨σ2, ?_, r2⟩
  rw [show ev O m qC σ = _ from congrArg (fun s => ev O m s σ) e, r1, fm_none (fun _ _ => rfl)]
theorem qA_ok (A : Agr m (lm vs a b tt c w w' r q)) {t : Tri} {i : Nat} {sv : List (Nat × Tri)} (hp : m.lookup (Str.ofString "place") = some (.int i)) (hr : m.lookup (Str.ofString "run") = some (triV t))
    (h : σ[q]? = some (.list (sv.map servV))) (hl : sv.length ≤ 1000) (no : ∀ x ∈ sv, x.1 = i → x.2 = t) :
    ∃ σ2, ex O m qA σ = some (.next, m, σ2) ∧ Keeps σ σ2 := by
  obtain ⟨σ2, e1, k1⟩ := qC_ok (O := O) (σ := σ) A hp hr h hl no
  have e : ∃ p1 p2 p3 k b, qA = .If (.Compare qC [.NotEq] [.List [] p1] p2) b [] p3 ∧ k = p1 := ⟨_, _, _, _, _, by rfl, rfl⟩
  obtain ⟨p1, p2, p3, _, b, e, _⟩ := e
  refine ⟨(σ2 ++ [.list []]) ++ [.list []], ?_, k1.trans ((Keeps.app _ _).trans (Keeps.app _ _))⟩
  rw [e]
  have hq : ∃ elt gens s p, qC = .ListComp elt gens s p := ⟨_, _, _, _, by rfl⟩
  obtain ⟨elt, gens, sc, p, hq⟩ := hq
  rw [hq] at e1 ⊢
  have ee : ev O m (.Compare (.ListComp elt gens sc p) [.NotEq] [.List [] p1] p2) σ = some (.bool false, (σ2 ++ [.list []]) ++ [.list []]) := by
    simp only [ev_cmp, isQ_comp, e1, ev_list, evs_nil, bind2_some, cmp_ne, if_false, Bool.false_eq_true]
    simp [sizeOk_of, eqAVs_nil, bind1_some, bind2_some, eqTop_ref, listAt]
  simp only [ex_if, tr_cmp, ee, exs_nil, bind2_some, byV_bool, if_false, Bool.false_eq_true]
theorem oB_ok (A : Agr m (lm vs a b tt c w w' r q)) {t : Tri} {i : Nat} {sv : List (Nat × Tri)} (hp : m.lookup (Str.ofString "place") = some (.int i)) (hr : m.lookup (Str.ofString "run") = some (triV t))
    (h : σ[q]? = some (.list (sv.map servV))) (hl : sv.length ≤ 1000) (no : t.1 < i → ∀ x ∈ sv, x.1 = i → x.2 = t) :
    ∃ σ2, ex O m oB σ = some (.next, m, if t.1 < i then σ2.set q (.list ((sv ++ [(i, t)]).map servV)) else σ2) ∧ Keeps σ σ2 := by
  have e : ∃ p, oB = .If (ifT oB) (ifB oB) [] p := ⟨_, by rfl⟩
  obtain ⟨p, e⟩ := e
  have et : tr O m (ifT oB) σ (ev O m (ifT oB) σ) = some (decide (t.1 < i), σ) := by
    (have e : ifT oB = ifT oB := rfl; conv at e => rhs; whnf)
    rw [e]
    simp only [tr_cmp, ev_const, const_int, ev_name, ev_cmp, isQ_name, isQ_sub, ev_subC, bind1_some, bind2_some, if_false, Bool.false_eq_true]
    simp only [hp, hr, bind1_some, bind2_some, byV_bool, cmp_gt, show subs (triV t) (.int 0) σ = some (.int t.1) from rfl]
    congr 3
    exact propext (by omega)
  rw [show ex O m oB σ = _ from congrArg (fun s => ex O m s σ) e]
  simp only [ex_if, et, bind2_some]
  by_cases hlt : t.1 < i
  · obtain ⟨σ2, e1, k1⟩ := qA_ok (O := O) (σ := σ) A hp hr h hl (no hlt)
    refine ⟨σ2, ?_, k1⟩
    simp only [hlt, decide_true, if_true, if_true]
    rw [q_is, exs_cons, e1]
    simp only
    have n1 : m.lookup (Str.ofString "served") = some (.ref q) := (A _ (by decide)).trans rfl
    have hap := append_call (O := O) (v := servV (i, t)) (k1 _ _ h) (show (sv.map servV).length ≤ 1000 by simpa using hl)
    have eq : ex O m qB σ2 = some (.next, m, σ2.set q (.list ((sv ++ [(i, t)]).map servV))) := by
      (have e3 : qB = qB := rfl; conv at e3 => rhs; whnf)
      rw [e3]
      simp only [ev_name, ev_tuple, ev_callA, evs_nil, evs_cons, ex_expr, bind2_some]
      simp only [n1, hp, hr, bind1_some, bind2_some, recv_append, listAt, Option.isSome_some, if_true, mth_append, k1 _ _ h, if_true, tup2, hap, List.map_append, List.map_cons, List.map_nil]
    rw [exs_cons, eq]
    rfl
  · refine ⟨σ, ?_, Keeps.refl _⟩
    simp only [hlt, decide_false, if_false, exs_nil, if_false, Bool.false_eq_true]
end Mine.L3
end

section
open PySem PySem.W PyProof.Rows
set_option maxRecDepth 100000
set_option linter.unusedSimpArgs false
set_option maxHeartbeats 1000000
namespace Mine.L3
noncomputable def Nss2 (w w' : List Nat) (j p : Nat) : Prop := NssL (w.drop j) p ∨ NssL (w'.drop j) p
theorem good_uniq {K : Nat} {w : List Nat} (hK : ∀ c ∈ w, c ≤ K) {j : Nat} {t u : Tri} (h1 : Nss2 w (turnW K w) j t.2.2) (h2 : Nss2 w (turnW K w) j u.2.2) (s1 : Strt w j t.2.2 t.1 t.2.1) (s2 : Strt w j u.2.2 u.1 u.2.1) (l1 : t.1 < j) (l2 : u.1 < j) : t = u := by
  obtain ⟨f, l, p⟩ := t
  obtain ⟨f', l', p'⟩ := u
  simp only at *
  have same : p = p' → (f, l, p) = (f', l', p') := fun e => by
    subst e
    obtain ⟨e1, e2⟩ := s1.uniq s2
    rw [e1, e2]
  rcases h1 with a | a <;> rcases h2 with b | b
  · exact same (a.uniq b)
  · obtain ⟨e1, e2, e3⟩ := runs_once hK a b s1 s2 l1 l2
    rw [e1, e2, e3]
  · obtain ⟨e1, e2, e3⟩ := runs_once hK b a s2 s1 l2 l1
    rw [e1, e2, e3]
  · exact same (a.uniq b)
structure InvR (w w' : List Nat) (D : Nat → Nat → Prop) (rs : List Tri) (sv : List (Nat × Tri)) : Prop where
  runs : ∀ t ∈ rs, Run w t.1 t.2.1 t.2.2
  nd : rs.Nodup
  srv : ∀ x ∈ sv, x.2.1 < x.1 ∧ Strt w x.1 x.2.2.2 x.2.1 x.2.2.1 ∧ Nss2 w w' x.1 x.2.2.2
  don : ∀ j p, D j p → ∀ f l, Strt w j p f l → f + 2 * p ≤ l → (f, l, p) ∈ rs ∧ (f < j → (j, (f, l, p)) ∈ sv)
theorem Strt.run2 {K : Nat} {w : List Nat} (hK : ∀ c ∈ w, c ≤ K) {i p f l : Nat} (N : Nss2 w (turnW K w) i p) (h : Strt w i p f l) (h2 : f + 2 * p ≤ l) : Run w f l p := by
  rcases N with N | N
  · exact h.run N h2
  · have R := (turn_strt hK h).run N h2
    refine ⟨R.pos, R.fl, h.ln, h.per, fun q a b c => R.least q a b ((turn_per hK).mpr c), h.lft, h.rgt⟩
theorem InvR.add {K : Nat} {w : List Nat} (hK : ∀ c ∈ w, c ≤ K) {D : Nat → Nat → Prop} {rs : List Tri} {sv : List (Nat × Tri)} (I : InvR w (turnW K w) D rs sv) {i : Nat} {t : Tri}
    (N : Nss2 w (turnW K w) i t.2.2) (S : Strt w i t.2.2 t.1 t.2.1) (h : 2 * t.2.2 ≤ t.2.1 - t.1) (h0 : 0 < t.2.2) :
    InvR w (turnW K w) (fun j p => D j p ∨ (j = i ∧ p = t.2.2)) (if t ∈ rs then rs else rs ++ [t]) (if t.1 < i then sv ++ [(i, t)] else sv) := by
  refine ⟨fun u hu => ?_, ?_, fun x hx => ?_, fun j p hD f l S' h2 => ?_⟩
  · by_cases q : t ∈ rs
    · rw [if_pos q] at hu; exact I.runs u hu
    · rw [if_neg q] at hu
      rcases List.mem_append.mp hu with hu | hu
      · exact I.runs u hu
      · have : u = t := by simpa using hu
        subst this
        exact Strt.run2 hK N S (by omega)
  · by_cases q : t ∈ rs
    · rw [if_pos q]; exact I.nd
    · rw [if_neg q]
      rw [List.nodup_append]
      exact ⟨I.nd, by simp, fun a ha b hb => by
        have : b = t := by simpa using hb
        subst this
        intro e; subst e; exact q ha⟩
  · by_cases q : t.1 < i
    · rw [if_pos q] at hx
      rcases List.mem_append.mp hx with hx | hx
      · exact I.srv x hx
      · have : x = (i, t) := by simpa using hx
        subst this
        exact ⟨q, S, N⟩
    · rw [if_neg q] at hx; exact I.srv x hx
  · have hin : ∀ u, u ∈ rs → u ∈ (if t ∈ rs then rs else rs ++ [t]) := fun u hu => by
      split
      · exact hu
      · exact List.mem_append_left _ hu
    have his : ∀ x, x ∈ sv → x ∈ (if t.1 < i then sv ++ [(i, t)] else sv) := fun u hu => by
      split
      · exact List.mem_append_left _ hu
      · exact hu
    rcases hD with hD | ⟨rfl, rfl⟩
    · obtain ⟨a, b⟩ := I.don j p hD f l S' h2
      exact ⟨hin _ a, fun c => his _ (b c)⟩
    · obtain ⟨e1, e2⟩ := S'.uniq S
      subst e1; subst e2
      refine ⟨?_, fun c => ?_⟩
      · by_cases q : t ∈ rs
        · rw [if_pos q]; exact q
        · rw [if_neg q]; exact List.mem_append_right _ (by simp)
      · rw [if_pos c]; exact List.mem_append_right _ (by simp)
theorem InvR.skip {w w' : List Nat} {D : Nat → Nat → Prop} {rs : List Tri} {sv : List (Nat × Tri)} (I : InvR w w' D rs sv) {i p f l : Nat} (S : Strt w i p f l) (h : ¬ 2 * p ≤ l - f) :
    InvR w w' (fun j p' => D j p' ∨ (j = i ∧ p' = p)) rs sv :=
  ⟨I.runs, I.nd, I.srv, fun j p' hD f' l' S' h2 => by
    rcases hD with hD | ⟨rfl, rfl⟩
    · exact I.don j p' hD f' l' S' h2
    · obtain ⟨e1, e2⟩ := S'.uniq S
      omega⟩

section
variable {σ : Sto} {m : Loc} {vs : List AV} {a b c r q s : Nat} {tt : Int} {w w' : List Nat} {rs : List Tri} {sv : List (Nat × Tri)}
structure Holds2 (σ : Sto) (r q : Nat) (rs : List Tri) (sv : List (Nat × Tri)) : Prop where
  runs : σ[r]? = some (.list (rs.map triV))
  srv : σ[q]? = some (.list (sv.map servV))
noncomputable def KeepsBut (r q : Nat) (σ σ' : Sto) : Prop := ∀ (k : Nat) (c : Cell), k ≠ r → k ≠ q → σ[k]? = some c → σ'[k]? = some c
/-- one place -/
inductive PlaceG (m : Loc) (σ : Sto) (L : Loc) (s r q : Nat) (st w wt : List Nat) (D : Nat → Nat → Prop) (rs : List Tri) (sv : List (Nat × Tri)) : Prop
  | mk (m' : Loc) (σ' : Sto) (rs' : List Tri) (sv' : List (Nat × Tri)) : exs O2 m (forB mB) σ = some (.next, m', σ') → Agr m' L → m'.lookup (Str.ofString "steps") = some (.ref s) →
    σ'[s]? = some (.list (st.map fun (n : Nat) => AV.int n)) → InvR w wt D rs' sv' → Holds2 σ' r q rs' sv' → rs'.length ≤ rs.length + 1 → sv'.length ≤ sv.length + 1 → KeepsBut r q σ σ' → PlaceG m σ L s r q st w wt D rs sv
theorem place_turn {K : Nat} (hK : ∀ c ∈ w, c ≤ K) (hw : w.length ≤ 80) (A : Agr m (lm vs a b tt c w w' r q)) {st : List Nat} {i : Nat} (hi : i < st.length) (hsl : st.length = w.length)
    (hs : m.lookup (Str.ofString "steps") = some (.ref s)) (hst : σ[s]? = some (.list (st.map fun (n : Nat) => AV.int n))) (N : Nss2 w (turnW K w) i st[i])
    (D : Nat → Nat → Prop) (I : InvR w (turnW K w) D rs sv) (H : Holds2 σ r q rs sv) (hrq : r ≠ q) (hsr : s ≠ r) (hsq : s ≠ q) (l1 : rs.length ≤ 1000) (l2 : sv.length ≤ 1000) :
    PlaceG (setL m "place" (.int i)) σ (lm vs a b tt c w w' r q) s r q st w (turnW K w) (fun j p => D j p ∨ (j = i ∧ p = st[i])) rs sv := by
  have hp0 : 0 < st[i] := by rcases N with N | N <;> exact N.pos
  have hpl : i + st[i] ≤ w.length := by
    rcases N with N | N
    · have := N.le; simp at this; omega
    · have := N.le; simp [turn_len] at this; omega
  have hS : Strt w i st[i] (triP w i st[i]).1 (triP w i st[i]).2.1 := stretch_is hpl
  have A1 : Agr (setL m "place" (.int i)) (lm vs a b tt c w w' r q) := A.set (by decide)
  have p1 : (setL m "place" (.int i)).lookup (Str.ofString "place") = some (.int i) := by rw [lookup_setL, if_pos rfl]
  have s1 : (setL m "place" (.int i)).lookup (Str.ofString "steps") = some (.ref s) := by rw [lookup_setL, if_neg (by decide)]; exact hs
  have e1 := nA_ok A1 hi p1 s1 hst (by omega) hw hpl
  generalize hm1 : setL m "place" (.int i) = m1 at *
  generalize ht : triP w i st[i] = t at *
  have hts : t.2.2 = st[i] := by rw [← ht]; rfl
  have A2 : Agr (setL m1 "run" (triV t)) (lm vs a b tt c w w' r q) := A1.set (by decide)
  have p2 : (setL m1 "run" (triV t)).lookup (Str.ofString "place") = some (.int i) := by rw [lookup_setL, if_neg (by decide)]; exact p1
  have s2 : (setL m1 "run" (triV t)).lookup (Str.ofString "steps") = some (.ref s) := by rw [lookup_setL, if_neg (by decide)]; exact s1
  have r2 : (setL m1 "run" (triV t)).lookup (Str.ofString "run") = some (triV t) := by rw [lookup_setL, if_pos rfl]
  generalize hm2 : setL m1 "run" (triV t) = m2 at *
  have hil := hS.il; have hfi := hS.fi; have hln := hS.ln
  have et := nB_t (O := O2) (σ := σ) hi p2 s2 r2 hst (by omega) (by omega) (by omega)
  have eB : ∃ p, nB = .If (ifT nB) (ifB nB) [] p := ⟨_, by rfl⟩
  obtain ⟨p, eB⟩ := eB
  have ex2 : ex O2 m2 nB σ = if 2 * st[i] ≤ t.2.1 - t.1 then exs O2 m2 (ifB nB) σ else some (.next, m2, σ) := by
    rw [show ex O2 m2 nB σ = _ from congrArg (fun s => ex O2 m2 s σ) eB]
    simp only [ex_if, et, bind2_some]
    by_cases q : 2 * st[i] ≤ t.2.1 - t.1
    · simp only [q, decide_true, if_true, if_true]
    · simp only [q, decide_false, if_false, exs_nil, if_false, Bool.false_eq_true]
  have hbody : ∀ σ', exs O2 m2 (ifB nB) σ = some (.next, m2, σ') → 2 * st[i] ≤ t.2.1 - t.1 → exs O2 m1 (forB mB) σ = some (.next, m2, σ') := fun X hX hc => by
    rw [n_is, exs_cons, e1]
    simp only
    rw [exs_cons, ex2, if_pos hc, hX]
    rfl
  by_cases hc : 2 * st[i] ≤ t.2.1 - t.1
  · have eA := oA_ok (O := O2) (σ := σ) A2 r2 H.runs l1
    generalize hσ1 : (if t ∈ rs then σ else σ.set r (.list ((rs ++ [t]).map triV))) = σ1 at eA
    have hr1 : σ1[r]? = some (.list ((if t ∈ rs then rs else rs ++ [t]).map triV)) := by
      rw [← hσ1]
      by_cases q : t ∈ rs
      · rw [if_pos q, if_pos q]; exact H.runs
      · rw [if_neg q, if_neg q]
        have := (List.getElem?_eq_some_iff.mp H.runs).1
        simp [this]
    have hk1 : ∀ (k : Nat), k ≠ r → σ1[k]? = σ[k]? := fun k hk => by
      rw [← hσ1]
      split
      · rfl
      · rw [List.getElem?_set_ne (Ne.symm hk)]
    have no : t.1 < i → ∀ x ∈ sv, x.1 = i → x.2 = t := fun hlt x hx e => by
      obtain ⟨b1, b2, b3⟩ := I.srv x hx
      subst e
      exact good_uniq hK b3 (by rw [hts]; exact N) b2 (by rw [hts]; exact hS) b1 hlt
    obtain ⟨σ2, e3, k3⟩ := oB_ok (O := O2) (σ := σ1) A2 p2 r2 (by rw [hk1 q (Ne.symm hrq)]; exact H.srv) l2 no
    have II := I.add hK (t := t) (i := i) (by rw [hts]; exact N) (by rw [hts]; exact hS) (by rw [hts]; exact hc) (by omega)
    rw [hts] at II
    have hsv2 : σ2[q]? = some (.list (sv.map servV)) := k3 _ _ (by rw [hk1 q (Ne.symm hrq)]; exact H.srv)
    have hql := (List.getElem?_eq_some_iff.mp hsv2).1
    have hif : exs O2 m2 (ifB nB) σ = some (.next, m2, if t.1 < i then σ2.set q (.list ((sv ++ [(i, t)]).map servV)) else σ2) := by
      rw [o_is, exs_cons, eA]
      simp only
      rw [exs_cons, e3]
      rfl
    refine ⟨m2, _, (if t ∈ rs then rs else rs ++ [t]), (if t.1 < i then sv ++ [(i, t)] else sv), hbody _ hif hc, A2, s2, ?_, II, ⟨?_, ?_⟩, ?_, ?_, ?_⟩
    · by_cases q : t.1 < i
      · rw [if_pos q, List.getElem?_set_ne (Ne.symm hsq)]; exact k3 _ _ (by rw [hk1 s hsr]; exact hst)
      · rw [if_neg q]; exact k3 _ _ (by rw [hk1 s hsr]; exact hst)
    · by_cases q : t.1 < i
      · rw [if_pos q, List.getElem?_set_ne (Ne.symm hrq)]; exact k3 _ _ hr1
      · rw [if_neg q]; exact k3 _ _ hr1
    · by_cases q : t.1 < i
      · rw [if_pos q, if_pos q]; simp [hql]
      · rw [if_neg q, if_neg q]; exact hsv2
    · split <;> simp
    · split <;> simp
    · intro k c h1 h2 h3
      by_cases q : t.1 < i
      · rw [if_pos q, List.getElem?_set_ne (Ne.symm h2)]; exact k3 _ _ (by rw [hk1 k h1]; exact h3)
      · rw [if_neg q]; exact k3 _ _ (by rw [hk1 k h1]; exact h3)
  · refine ⟨m2, σ, rs, sv, ?_, A2, s2, hst, I.skip hS hc, H, by omega, by omega, fun _ _ _ _ h => h⟩
    rw [n_is, exs_cons, e1]
    simp only
    rw [exs_cons, ex2, if_neg hc]
    rfl
end
end Mine.L3
end

section
open PySem PySem.W PyProof.Rows
set_option maxRecDepth 100000
set_option linter.unusedSimpArgs false
set_option maxHeartbeats 1000000
namespace Mine.L3
theorem InvR.mono {w w' : List Nat} {D D' : Nat → Nat → Prop} {rs : List Tri} {sv : List (Nat × Tri)} (I : InvR w w' D rs sv) (h : ∀ j p, D' j p → D j p) : InvR w w' D' rs sv :=
  ⟨I.runs, I.nd, I.srv, fun j p hD => I.don j p (h j p hD)⟩
section
variable {σ : Sto} {m : Loc} {vs : List AV} {a b c r q s : Nat} {tt : Int} {w w' : List Nat} {rs : List Tri} {sv : List (Nat × Tri)}
theorem mB_for (A : Agr m (lm vs a b tt c w w' r q)) (hw : w.length ≤ 80) :
    ex O2 m mB σ = forN (nextOf (.rng ((0 : Nat) : Int) (w.length : Int) 1)) (fun v m σ => exs O2 (setL m "place" v) (forB mB) σ) ((rngL 0 w.length).length + 1) 0 m σ := by
  have k1 : m.lookup (Str.ofString "word") = some (.str w) := (A _ (by decide)).trans rfl
  have k2 : m.lookup (Str.ofString "len") = none := (A _ (by decide)).trans rfl
  have k3 : m.lookup (Str.ofString "range") = none := (A _ (by decide)).trans rfl
  have hi : ev O2 m (forI mB) σ = some (.rng ((0 : Nat) : Int) (w.length : Int) 1, σ) := by
    (have e : forI mB = forI mB := rfl; conv at e => rhs; whnf)
    rw [e]
    simp only [ev_name, ev_callN, evs_nil, evs_cons, bind2_some]
    simp only [k1, k2, k3, bind1_some, bind2_some, if_false, Bool.false_eq_true, Option.isSome_none, Bool.false_eq_true, if_false, bif_len, bif_range, len_str O2 σ (show w.length ≤ 1000 by omega)]
    exact range1 (by omega)
  have e : ∃ p q, mB = .For (.Name "place" p) (forI mB) (forB mB) [] q := ⟨_, _, by rfl⟩
  obtain ⟨p, q, e⟩ := e
  rw [show ex O2 m mB σ = _ from congrArg (fun s => ex O2 m s σ) e, ex_for hi (srcOk_rng (k := 0) (by omega) (by omega)), fuel_rng]
  simp only [bindT_name, bind1_some]
theorem mA_ok (A : Agr m (lm vs a b tt c w w' r q)) {T : List Nat} (hT : m.lookup (Str.ofString "text") = some (.str T)) (hw : T.length ≤ 80) :
    ∃ s σ', ex O2 m mA σ = some (.next, setL m "steps" (.ref s), σ') ∧ Keeps σ σ' ∧ σ'[s]? = some (.list ((stepsP T).map fun (n : Nat) => AV.int n)) := by
  have k1 : m.lookup (Str.ofString "total") = some (.int tt) := (A _ (by decide)).trans rfl
  have k2 : m.lookup (Str.ofString "_law_steps") = none := (A _ (by decide)).trans rfl
  obtain ⟨s, σ', e1, e2, e3⟩ := steps_run (size := tt / 4 % 3) (opr 1) (σ := σ) hw
  refine ⟨s, σ', ?_, e2, e3⟩
  (have e : mA = mA := rfl; conv at e => rhs; whnf)
  rw [e]
  simp only [ev_const, const_int, ev_name, ev_binop, ev_callN, evs_nil, evs_cons, ex_assign, bind1_some, bind2_some]
  simp only [k1, k2, hT, bind1_some, bind2_some, fdiv_int', mod_int2, if_true, if_false, Bool.false_eq_true, Option.isSome_none, Bool.false_eq_true, if_false, show bifOf (Str.ofString "_law_steps") = none by decide, show ((0 : Int) < 4 ∧ (4 : Int) < 1000000000) = True by simp, show ((0 : Int) < 3) = True by simp, if_true, call_steps, e1]

/-- one of the two words -/
inductive TextG (m : Loc) (σ : Sto) (L : Loc) (r q : Nat) (w wt : List Nat) (D : Nat → Nat → Prop) (rs : List Tri) (sv : List (Nat × Tri)) : Prop
  | mk (m' : Loc) (σ' : Sto) (rs' : List Tri) (sv' : List (Nat × Tri)) : exs O2 m (forB (lq 8)) σ = some (.next, m', σ') → Agr m' L → InvR w wt D rs' sv' → Holds2 σ' r q rs' sv' →
    rs'.length ≤ rs.length + w.length → sv'.length ≤ sv.length + w.length → KeepsBut r q σ σ' → TextG m σ L r q w wt D rs sv
theorem text_turn {K : Nat} (hK : ∀ c ∈ w, c ≤ K) (hw : w.length ≤ 80) (A : Agr m (lm vs a b tt c w w' r q)) {T : List Nat} (hT : T = w ∨ T = turnW K w)
    (D : Nat → Nat → Prop) (I : InvR w (turnW K w) D rs sv) (H : Holds2 σ r q rs sv) (hrq : r ≠ q) (l1 : rs.length ≤ 100) (l2 : sv.length ≤ 100) :
    TextG (setL m "text" (.str T)) σ (lm vs a b tt c w w' r q) r q w (turnW K w) (fun j p => D j p ∨ (stepsP T)[j]? = some p) rs sv := by
  have hTl : T.length = w.length := by rcases hT with rfl | rfl <;> simp [turn_len]
  have A1 : Agr (setL m "text" (.str T)) (lm vs a b tt c w w' r q) := A.set (by decide)
  obtain ⟨s, σ1, e1, k1, g1⟩ := mA_ok (σ := σ) A1 (T := T) (by rw [lookup_setL, if_pos rfl]) (by omega)
  have A2 : Agr (setL (setL m "text" (.str T)) "steps" (.ref s)) (lm vs a b tt c w w' r q) := A1.set (by decide)
  have s2 : (setL (setL m "text" (.str T)) "steps" (.ref s)).lookup (Str.ofString "steps") = some (.ref s) := by rw [lookup_setL, if_pos rfl]
  have hrl := k1 _ _ H.runs
  have hql := k1 _ _ H.srv
  have l0 := stepsP_len T
  by_cases hw0 : w.length = 0
  · refine ⟨setL (setL m "text" (.str T)) "steps" (.ref s), σ1, rs, sv, ?_, A2, I.mono (fun j p h => ?_), ⟨hrl, hql⟩, by omega, by omega, fun k c _ _ h => k1 k c h⟩
    · rw [m_is, exs_cons, e1]
      simp only
      rw [exs_cons, mB_for A2 hw]
      have : (rngL 0 w.length).length = 0 := by rw [rngL_len]; omega
      rw [this]
      simp only [forN_eq, next_rng, List.getElem?_eq_none (show (rngL 0 w.length).length ≤ 0 by omega), exs_nil]
    · rcases h with h | h
      · exact h
      · have := (List.getElem?_eq_some_iff.mp h).1
        omega
  · have hne : ∀ (k : Nat) (xs : List Tri), σ1[k]? = some (.list (xs.map triV)) → s ≠ k := fun k xs hk e => by
      subst e
      rw [g1] at hk
      have hk' := (Cell.list.inj (Option.some.inj hk))
      have h0 : 0 < ((stepsP T).map fun (n : Nat) => AV.int n).length := by simp; omega
      have h1 : 0 < (xs.map triV).length := by rw [← hk']; exact h0
      have := List.getElem_of_eq hk' h0
      simp at this
    have hne2 : ∀ (k : Nat) (xs : List (Nat × Tri)), σ1[k]? = some (.list (xs.map servV)) → s ≠ k := fun k xs hk e => by
      subst e
      rw [g1] at hk
      have hk' := (Cell.list.inj (Option.some.inj hk))
      have h0 : 0 < ((stepsP T).map fun (n : Nat) => AV.int n).length := by simp; omega
      have h1 : 0 < (xs.map servV).length := by rw [← hk']; exact h0
      have := List.getElem_of_eq hk' h0
      simp at this
    have hsr := hne r rs hrl
    have hsq := hne2 q sv hql
    obtain ⟨m', σ', e, rs', sv', A', _, g', I', H', b1, b2, kb⟩ := forN_list (S := Unit) (f := fun _ _ => ()) (body := fun v m σ => exs O2 (setL m "place" v) (forB mB) σ) (src := .rng ((0 : Nat) : Int) (w.length : Int) 1)
      (Inv := fun _ i m σ' => ∃ rs' sv', Agr m (lm vs a b tt c w w' r q) ∧ m.lookup (Str.ofString "steps") = some (.ref s) ∧ σ'[s]? = some (.list ((stepsP T).map fun (n : Nat) => AV.int n)) ∧
        InvR w (turnW K w) (fun j p => D j p ∨ (j < i ∧ (stepsP T)[j]? = some p)) rs' sv' ∧ Holds2 σ' r q rs' sv' ∧ rs'.length ≤ rs.length + i ∧ sv'.length ≤ sv.length + i ∧ KeepsBut r q σ σ')
      (fun _ i _ σ' _ => next_rng 0 w.length i σ')
      (fun _ i m σ' hi ⟨rs', sv', A', s', g', I', H', b1, b2, kb⟩ => by
        have hi' := hi
        rw [rngL_len] at hi'
        rw [rngL_get hi, Nat.zero_add]
        have hit : i < (stepsP T).length := by omega
        have N : Nss2 w (turnW K w) i (stepsP T)[i] := by
          have := stepsP_nss hit
          rcases hT with rfl | rfl
          · exact .inl this
          · exact .inr this
        obtain ⟨m', σ'', rs'', sv'', q1, q2, q3, q4, q5, q6, q7, q8, q9⟩ := place_turn hK hw A' hit (by omega) s' g' N _ I' H' hrq hsr hsq (by omega) (by omega)
        refine ⟨m', σ'', q1, rs'', sv'', q2, q3, q4, q5.mono (fun j p h => ?_), q6, by omega, by omega, fun k c h1 h2 h3 => q9 k c h1 h2 (kb k c h1 h2 h3)⟩
        rcases h with h | ⟨h1, h2⟩
        · exact .inl (.inl h)
        · by_cases hj : j < i
          · exact .inl (.inr ⟨hj, h2⟩)
          · have : j = i := by omega
            subst this
            rw [List.getElem?_eq_getElem hit] at h2
            exact .inr ⟨rfl, (Option.some.inj h2).symm⟩)
      (rngL 0 w.length).length 0 ((rngL 0 w.length).length + 1) () _ σ1 (by omega) (by omega) ⟨rs, sv, A2, s2, g1, I.mono (fun j p h => by
        rcases h with h | h
        · exact h
        · omega), ⟨hrl, hql⟩, by omega, by omega, fun k c _ _ h => k1 k c h⟩
    rw [rngL_len] at b1 b2
    refine ⟨m', σ', rs', sv', ?_, A', I'.mono (fun j p h => ?_), H', by omega, by omega, kb⟩
    · rw [m_is, exs_cons, e1]
      simp only
      rw [exs_cons, mB_for A2 hw, e]
      rfl
    · rcases h with h | h
      · exact .inl h
      · have := (List.getElem?_eq_some_iff.mp h).1
        exact .inr ⟨by rw [rngL_len]; omega, h⟩
end
end Mine.L3
end

section
open PySem PySem.W PyProof.Rows
set_option maxRecDepth 100000
set_option linter.unusedSimpArgs false
set_option maxHeartbeats 1000000
namespace Mine.L3
/-! sorting what stands in another order -/
theorem ltAV_some {v x : AV} (hv : IsPr v) (hx : IsPr x) : ∃ b, ltAV v x = some b ∧ (b = false → v ≠ x → ltAV x v = some true) := by
  obtain ⟨a, y, rfl⟩ := hv
  obtain ⟨b, z, rfl⟩ := hx
  refine ⟨_, rfl, fun h ne => ?_⟩
  show some (if b < a then true else if b = a then ltL z y else false) = some true
  by_cases q : a < b
  · rw [if_pos q] at h; cases h
  · rw [if_neg q] at h
    by_cases q2 : a = b
    · subst q2
      rw [if_pos rfl] at h
      rw [if_neg q, if_pos rfl]
      cases hl : ltL z y with
      | true => rfl
      | false => exact absurd (by rw [ltL_tri h hl]) ne
    · rw [if_pos (by omega)]
theorem insAV_some {v : AV} (hv : IsPr v) : ∀ {xs : List AV}, (∀ x ∈ xs, IsPr x) → v ∉ xs → ∃ ys, insAV v xs = some ys
  | [], _, _ => ⟨_, rfl⟩
  | x :: xs, hx, hn => by
    obtain ⟨b, hb, h2⟩ := ltAV_some hv (hx x (by simp))
    simp only [insAV_c, hb]
    cases b with
    | true => exact ⟨_, rfl⟩
    | false =>
      obtain ⟨ys, hy⟩ := insAV_some hv (xs := xs) (fun u hu => hx u (by simp [hu])) (fun h => hn (by simp [h]))
      simp only [h2 rfl (fun e => hn (by simp [e])), hy, if_true, Option.map_some, if_true]
      exact ⟨_, rfl⟩
theorem sortAV_some : ∀ {xs : List AV}, (∀ x ∈ xs, IsPr x) → xs.Nodup → ∃ ys, sortAV xs = some ys
  | [], _, _ => ⟨_, rfl⟩
  | x :: xs, hx, hn => by
    obtain ⟨h1, h2⟩ := List.nodup_cons.mp hn
    obtain ⟨ys, hy⟩ := sortAV_some (xs := xs) (fun u hu => hx u (by simp [hu])) h2
    obtain ⟨p, _, _⟩ := sortAV_spec hy
    simp only [sortAV_c, hy]
    exact insAV_some (hx x (by simp)) (fun u hu => hx u (by simp [p.mem_iff.mp hu])) (fun h => h1 (p.mem_iff.mp h))
theorem ltb_asymm {x y : AV} (h : ltb x y = true) (k : ltb y x = true) : False := by
  obtain ⟨⟨a, u, rfl⟩, ⟨b, v, rfl⟩⟩ := ltb_isPr h
  rw [ltb_pr] at h k
  by_cases q : a < b
  · rw [if_neg (show ¬ b < a by omega), if_neg (show ¬ b = a by omega)] at k; cases k
  · rw [if_neg q] at h
    by_cases e : a = b
    · subst e
      rw [if_pos rfl] at h
      rw [if_neg q, if_pos rfl, ltL_asymm h] at k; cases k
    · rw [if_neg e] at h; cases h
theorem sort_same {xs ys : List AV} (hx : ∀ x ∈ xs, IsPr x) (hn : xs.Nodup) (h : xs.Perm ys) : ∃ zs, sortAV xs = some zs ∧ sortAV ys = some zs := by
  obtain ⟨zs, hz⟩ := sortAV_some hx hn
  obtain ⟨us, hu⟩ := sortAV_some (xs := ys) (fun y hy => hx y (h.mem_iff.mpr hy)) (h.nodup_iff.mp hn)
  obtain ⟨p, q, _⟩ := sortAV_spec hz
  obtain ⟨p', q', _⟩ := sortAV_spec hu
  refine ⟨zs, hz, ?_⟩
  rw [hu]
  congr 1
  exact List.Perm.eq_of_pairwise (fun a b _ _ h1 h2 => (ltb_asymm h1 h2).elim) q' q (p'.trans (h.symm.trans p.symm))

/-! what is due -/
theorem seg_get {w : List Nat} {a b t : Nat} (h : t < b - a) : (seg w a b)[t]? = w[a + t]? := by
  simp [seg, h]
theorem per_seg {w : List Nat} {f l s : Nat} (hl : l ≤ w.length) (hs : f + s ≤ l) : seg w (f + s) l = seg w f (l - s) ↔ Per w f l s := by
  constructor
  · intro h t h1 h2
    have a1 := seg_get (w := w) (a := f + s) (b := l) (t := t - f) (by omega)
    have a2 := seg_get (w := w) (a := f) (b := l - s) (t := t - f) (by omega)
    rw [h] at a1
    rw [a1, show f + s + (t - f) = t + s by omega, show f + (t - f) = t by omega] at a2
    exact a2.symm
  · intro h
    refine List.ext_getElem? fun t => ?_
    by_cases q : t < l - (f + s)
    · rw [seg_get q, seg_get (by omega)]
      have := h (f + t) (by omega) (by omega)
      rw [this]; congr 1; omega
    · have n1 : (seg w (f + s) l).length ≤ t := by simp [seg]; omega
      have n2 : (seg w f (l - s)).length ≤ t := by simp [seg]; omega
      rw [List.getElem?_eq_none n1, List.getElem?_eq_none n2]
theorem perP_ok {w : List Nat} {f l : Nat} (hl : l ≤ w.length) : ∀ k s, f + s + k = l → (∀ q, 0 < q → q < s → ¬ Per w f l q) → Per w f l (perP w f l k s) ∧ ∀ q, 0 < q → q < perP w f l k s → ¬ Per w f l q
  | 0, s, h, hq => ⟨fun t h1 h2 => by simp only [perP_0] at *; omega, hq⟩
  | k + 1, s, h, hq => by
    simp only [perP_s]
    by_cases e : seg w (f + s) l = seg w f (l - s)
    · rw [if_pos e]
      exact ⟨(per_seg hl (by omega)).mp e, hq⟩
    · rw [if_neg e]
      exact perP_ok hl k (s + 1) (by omega) (fun q h0 h1 => by
        by_cases h2 : q = s
        · subst h2; exact fun P => e ((per_seg hl (by omega)).mpr P)
        · exact hq q h0 (by omega))
theorem counts_iff {w : List Nat} {f l p : Nat} (hl : l ≤ w.length) (hfl : f ≤ l) : countsP w f l p = true ↔ 2 * p ≤ l - f ∧ (f = 0 ∨ w[f - 1]? ≠ w[f - 1 + p]?) ∧ (l = w.length ∨ w[l]? ≠ w[l - p]?) := by
  unfold countsP aheadP behindP
  simp only [Bool.and_eq_true, decide_eq_true_eq, Bool.not_eq_true', Bool.and_eq_false_iff, decide_eq_false_iff_not, and_assoc]
  refine and_congr Iff.rfl (and_congr (or_congr_left (by omega)) (or_congr_left (by omega)))
noncomputable def dueT (w : List Nat) (f l : Nat) : List Tri := if countsP w f l (perP w f l (l - f - 1) 1) then [(f, l, perP w f l (l - f - 1) 1)] else []
noncomputable abbrev itemT (w : List Nat) (t : Tri) : AV := itemV w t.1 t.2.1 t.2.2
theorem dueAt_T (w : List Nat) (f l : Nat) : dueAt w f l = (dueT w f l).map (itemT w) := by
  unfold dueAt dueT
  split <;> rfl
theorem dueT_mem {w : List Nat} {f l : Nat} (hl : l ≤ w.length) (hfl : f + 2 ≤ l) {t : Tri} : t ∈ dueT w f l ↔ t.1 = f ∧ t.2.1 = l ∧ Run w f l t.2.2 := by
  obtain ⟨h1, h2⟩ := perP_ok (w := w) (f := f) hl (l - f - 1) 1 (by omega) (fun q a b => by omega)
  obtain ⟨b1, b2⟩ := perP_le (w := w) (f := f) (l := l) (l - f - 1) 1 (by omega)
  unfold dueT
  generalize perP w f l (l - f - 1) 1 = p at *
  by_cases hc : countsP w f l p = true
  · rw [if_pos hc]
    obtain ⟨c1, c2, c3⟩ := (counts_iff hl (by omega)).mp hc
    have R : Run w f l p := ⟨by omega, by omega, hl, h1, h2, c2, c3⟩
    constructor
    · intro h
      have : t = (f, l, p) := by simpa using h
      subst this
      exact ⟨rfl, rfl, R⟩
    · rintro ⟨e1, e2, R'⟩
      obtain ⟨a, b, c⟩ := t
      simp only at *
      subst e1; subst e2
      have : c = p := by
        rcases Nat.lt_trichotomy c p with q | q | q
        · exact absurd R'.per (h2 c R'.pos q)
        · exact q
        · exact absurd h1 (R'.least p (by omega) q)
      subst this
      simp
  · rw [if_neg hc]
    refine ⟨fun h => by simp at h, fun ⟨e1, e2, R'⟩ => ?_⟩
    obtain ⟨a, b, c⟩ := t
    simp only at *
    have e : c = p := by
      rcases Nat.lt_trichotomy c p with q | q | q
      · exact absurd R'.per (h2 c R'.pos q)
      · exact q
      · exact absurd h1 (R'.least p (by omega) q)
    subst e
    have := R'.fl
    exact absurd ((counts_iff hl (by omega)).mpr ⟨by omega, R'.lft, R'.rgt⟩) hc
theorem foldl_app {α β : Type} (g : α → List β) : ∀ (L : List α) (s : List β), L.foldl (fun s v => s ++ g v) s = s ++ L.flatMap g
  | [], s => by simp
  | v :: L, s => by rw [List.foldl_cons, foldl_app g L, List.flatMap_cons, List.append_assoc]
noncomputable def dueTs (w : List Nat) : List Tri := (rngL 0 w.length).flatMap fun v => (rngL (toN v + 2) (w.length + 1)).flatMap fun u => dueT w (toN v) (toN u)
theorem dueP_T (w : List Nat) : dueP w = (dueTs w).map (itemT w) := by
  have e : ∀ (s : List AV) (v : AV), dueO w s v = s ++ (rngL (toN v + 2) (w.length + 1)).flatMap fun u => (dueT w (toN v) (toN u)).map (itemT w) := fun s v => by
    unfold dueO
    rw [← foldl_app]
    congr 1
    funext s u
    unfold dueI
    rw [dueAt_T]
  unfold dueP dueTs
  rw [show dueO w = fun s v => s ++ (rngL (toN v + 2) (w.length + 1)).flatMap fun u => (dueT w (toN v) (toN u)).map (itemT w) from funext fun s => funext fun v => e s v, foldl_app, List.nil_append, List.map_flatMap]
  congr 1
  funext v
  rw [List.map_flatMap]
theorem toN_int (n : Nat) : toN (.int (n : Nat)) = n := Int.toNat_natCast n
theorem dueTs_mem {w : List Nat} {t : Tri} : t ∈ dueTs w ↔ Run w t.1 t.2.1 t.2.2 := by
  unfold dueTs
  simp only [List.mem_flatMap]
  constructor
  · rintro ⟨v, hv, u, hu, h⟩
    obtain ⟨i, i1, i2, rfl⟩ := rngL_mem hv
    obtain ⟨j, j1, j2, rfl⟩ := rngL_mem hu
    simp only [toN_int] at *
    obtain ⟨e1, e2, R⟩ := (dueT_mem (by omega) (by omega)).mp h
    rw [e1, e2]; exact R
  · intro R
    have h1 := R.pos; have h2 := R.fl; have h3 := R.ln
    refine ⟨.int (t.1 : Nat), ?_, .int (t.2.1 : Nat), ?_, ?_⟩
    · exact List.mem_map.mpr ⟨t.1, List.mem_range.mpr (by omega), by simp⟩
    · rw [toN_int]
      exact List.mem_map.mpr ⟨t.2.1 - (t.1 + 2), List.mem_range.mpr (by omega), by congr 2; omega⟩
    · rw [toN_int, toN_int]
      exact (dueT_mem (by omega) (by omega)).mpr ⟨rfl, rfl, R⟩
theorem rngL_pw (a b : Nat) : (rngL a b).Pairwise (fun v u => toN v < toN u) := by
  unfold rngL
  rw [List.pairwise_map]
  refine List.Pairwise.imp ?_ (List.pairwise_lt_range (n := b - a))
  intro x y h
  rw [toN_int, toN_int]; omega
theorem dueTs_nd (w : List Nat) : (dueTs w).Nodup := by
  have : (dueTs w).Pairwise (fun t u => t.1 < u.1 ∨ (t.1 = u.1 ∧ t.2.1 < u.2.1)) := by
    unfold dueTs
    have hm : ∀ {f l : Nat} {t : Tri}, t ∈ dueT w f l → t.1 = f ∧ t.2.1 = l := fun {f l t} h => by
      unfold dueT at h
      split at h
      · have : t = (f, l, perP w f l (l - f - 1) 1) := by simpa using h
        subst this; exact ⟨rfl, rfl⟩
      · simp at h
    rw [List.pairwise_flatMap]
    refine ⟨fun v _ => ?_, ?_⟩
    · rw [List.pairwise_flatMap]
      refine ⟨fun u _ => by unfold dueT; split <;> simp, ?_⟩
      refine List.Pairwise.imp ?_ (rngL_pw _ _)
      intro x y h t ht u hu
      have a1 := hm ht; have a2 := hm hu
      exact .inr ⟨by omega, by omega⟩
    · refine List.Pairwise.imp ?_ (rngL_pw _ _)
      intro x y h t ht u hu
      obtain ⟨x1, _, h1⟩ := List.mem_flatMap.mp ht
      obtain ⟨y1, _, h2⟩ := List.mem_flatMap.mp hu
      have a1 := hm h1; have a2 := hm h2
      exact .inl (by omega)
  exact List.Pairwise.imp (fun {a b} h e => by subst e; omega) this
end Mine.L3
end

section
open PySem PySem.W PyProof.Rows
set_option maxRecDepth 100000
set_option linter.unusedSimpArgs false
set_option maxHeartbeats 1000000
namespace Mine.L3
/-! rows are told apart -/
noncomputable def Plain (w : List Nat) : Prop := ∀ c ∈ w, 33 ≤ c
theorem seg_mem {w : List Nat} {a b c : Nat} (h : c ∈ seg w a b) : c ∈ w := List.mem_of_mem_drop (List.mem_of_mem_take h)
theorem seg_length {w : List Nat} {a b : Nat} (h : b ≤ w.length) : (seg w a b).length = b - a := by simp [seg]; omega
theorem row_inj {x y : List Nat} {f g : Nat} (hx : ∀ c ∈ x, 33 ≤ c) (hy : ∀ c ∈ y, 33 ≤ c) (hx0 : x ≠ []) (hy0 : y ≠ []) (h : List.replicate f 32 ++ x = List.replicate g 32 ++ y) : f = g ∧ x = y := by
  induction f generalizing g with
  | zero =>
    cases g with
    | zero => exact ⟨rfl, by simpa using h⟩
    | succ g =>
      rw [List.replicate_succ] at h
      simp only [List.replicate_zero, List.nil_append, List.cons_append] at h
      have := hx 32 (by rw [h]; simp)
      omega
  | succ f ih =>
    cases g with
    | zero =>
      rw [List.replicate_succ] at h
      simp only [List.replicate_zero, List.nil_append, List.cons_append] at h
      have := hy 32 (by rw [← h]; simp)
      omega
    | succ g =>
      rw [List.replicate_succ, List.replicate_succ] at h
      simp only [List.cons_append, List.cons.injEq, true_and] at h
      obtain ⟨e1, e2⟩ := ih h
      exact ⟨by omega, e2⟩
theorem item_inj {w : List Nat} (hw : Plain w) {t u : Tri} (ht : Run w t.1 t.2.1 t.2.2) (hu : Run w u.1 u.2.1 u.2.2) (h : itemT w t = itemT w u) : t = u := by
  obtain ⟨f, l, p⟩ := t
  obtain ⟨f', l', p'⟩ := u
  simp only at *
  have a1 := ht.pos; have a2 := ht.fl; have a3 := ht.ln
  have b1 := hu.pos; have b2 := hu.fl; have b3 := hu.ln
  injection h with h
  injection h with h1 h2
  injection h2 with h2 _
  injection h1 with h1
  injection h2 with h2
  have s1 := seg_length (w := w) (a := f) a3
  have s2 := seg_length (w := w) (a := f') b3
  obtain ⟨e1, e2⟩ := row_inj (fun c hc => hw c (seg_mem hc)) (fun c hc => hw c (seg_mem hc)) (fun e => by rw [e] at s1; simp at s1; omega) (fun e => by rw [e] at s2; simp at s2; omega) h2
  rw [e2] at s1
  simp only at e1 h1 s1 s2
  have hp : p = p' := by omega
  have hl : l = l' := by omega
  rw [hp, hl, e1]
/-- what the law's two lists hold at the end -/
structure Done (w : List Nat) (rs : List Tri) (sv : List (Nat × Tri)) : Prop where
  mem : ∀ t, t ∈ rs ↔ Run w t.1 t.2.1 t.2.2
  nd : rs.Nodup
  srv : ∀ t ∈ rs, ∃ x ∈ sv, x.2 = t
theorem InvR.done {K : Nat} {w : List Nat} (hK : ∀ c ∈ w, c ≤ K) {rs : List Tri} {sv : List (Nat × Tri)}
    (I : InvR w (turnW K w) (fun j p => (stepsP w)[j]? = some p ∨ (stepsP (turnW K w))[j]? = some p) rs sv) : Done w rs sv := by
  have key : ∀ {f l p}, Run w f l p → (f, l, p) ∈ rs ∧ ∃ x ∈ sv, x.2 = (f, l, p) := fun {f l p} R => by
    obtain ⟨i, h1, S, N⟩ := R.found hK
    have hil := S.il; have hln := S.ln; have hp := R.pos
    have hd : (stepsP w)[i]? = some p ∨ (stepsP (turnW K w))[i]? = some p := by
      rcases N with N | N
      · have hi : i < (stepsP w).length := by rw [stepsP_len]; omega
        have := N.uniq (stepsP_nss hi)
        exact .inl (by rw [List.getElem?_eq_getElem hi, this])
      · have hi : i < (stepsP (turnW K w)).length := by rw [stepsP_len, turn_len]; omega
        have := N.uniq (stepsP_nss hi)
        exact .inr (by rw [List.getElem?_eq_getElem hi, this])
    obtain ⟨a, b⟩ := I.don i p hd f l S (R.fl)
    exact ⟨a, _, b h1, rfl⟩
  exact ⟨fun t => ⟨I.runs t, fun R => (key R).1⟩, I.nd, fun t ht => (key (I.runs t ht)).2⟩
theorem items_perm {w : List Nat} {rs : List Tri} {sv : List (Nat × Tri)} (h : Done w rs sv) : (rs.map (itemT w)).Perm (dueP w) := by
  rw [dueP_T]
  refine List.Perm.map _ ?_
  rw [List.perm_ext_iff_of_nodup h.nd (dueTs_nd w)]
  intro t
  rw [h.mem, dueTs_mem]
theorem items_nd {w : List Nat} (hw : Plain w) {rs : List Tri} {sv : List (Nat × Tri)} (h : Done w rs sv) : (rs.map (itemT w)).Nodup := by
  unfold List.Nodup
  rw [List.pairwise_map]
  refine List.Pairwise.imp_of_mem ?_ h.nd
  intro a b ha hb hne e
  exact hne (item_inj hw ((h.mem a).mp ha) ((h.mem b).mp hb) e)

/-! the law's last rows -/
theorem indent_false (k : Nat) : ∀ s : List Nat, (∀ c ∈ s, c ≠ 10) → indentL k false s = s
  | [], _ => rfl
  | c :: s, h => by
    have h1 : (c == 10) = false := beq_eq_false_iff_ne.mpr (h c (by simp))
    simp only [indentL_f, h1]
    rw [indent_false k s (fun d hd => h d (by simp [hd]))]
theorem indent_plain (k : Nat) {s : List Nat} (h : ∀ c ∈ s, c ≠ 10) (h0 : s ≠ []) : indentL k true s = List.replicate k 32 ++ s := by
  cases s with
  | nil => exact absurd rfl h0
  | cons c s =>
    simp only [indentL_t]
    rw [if_neg (h c (by simp)), indent_false k s (fun d hd => h d (by simp [hd]))]
section
variable {O : Oracle} {σ : Sto} {m : Loc} {vs : List AV} {a b c r q s : Nat} {tt : Int} {w w' : List Nat} {rs : List Tri} {sv : List (Nat × Tri)}
theorem indent_call (P : OPr O) {s : List Nat} {k : Nat} (hs : s.length ≤ 900) (hk : k ≤ 900) : O (Str.ofString "_indent") [.str s, .int k] σ = some (.str (indentL k true s), σ) := by
  rw [P.p _ _ _ (by decide)]
  have h1 : (k : Int).natAbs = k := rfl
  have h2 : (s.length + 1) * (k + 1) ≤ 901 * 901 := Nat.mul_le_mul (by omega) (by omega)
  show (if sizeOk s.length = true ∧ sizeOk (k : Int).natAbs = true ∧ sizeOk ((s.length + 1) * ((k : Int).natAbs + 1)) = true then some (AV.str (indentL (k : Int).toNat true s), σ) else none) = _
  rw [h1, Int.toNat_natCast]
  exact if_pos ⟨sizeOk_of (by omega), sizeOk_of (by omega), sizeOk_of (by omega)⟩
noncomputable def c9 : PySem.Expr := asgE (lq 9)
/-- an item of rows, told from a run's value -/
noncomputable def itemF (w : List Nat) : AV → Option AV
  | .tup [.int f, .int l, .int p] => some (itemV w f.toNat l.toNat p.toNat)
  | _ => none
theorem fm_items (w : List Nat) (rs : List Tri) : (rs.map triV).filterMap (itemF w) = rs.map (itemT w) := by
  induction rs with
  | nil => rfl
  | cons t rs ih =>
    simp only [List.map_cons, List.filterMap_cons, ih]
    rfl
theorem lq9_ok (P : OPr O) (A : Agr m (lm vs a b tt c w w' r q)) (hw : Plain w) (hl : w.length ≤ 500) (h : σ[r]? = some (.list (rs.map triV))) (hR : ∀ t ∈ rs, Run w t.1 t.2.1 t.2.2) (hn : rs.length ≤ 1000) :
    ∃ k σ', ex O m (lq 9) σ = some (.next, setL m "rows" (.ref k), σ') ∧ Keeps σ σ' ∧ σ'[k]? = some (.list (rs.map (itemT w))) := by
  have k1 : m.lookup (Str.ofString "runs") = some (.ref r) := (A _ (by decide)).trans rfl
  have k2 : m.lookup (Str.ofString "word") = some (.str w) := (A _ (by decide)).trans rfl
  have k3 : m.lookup (Str.ofString "_indent") = none := (A _ (by decide)).trans rfl
  have e : ∃ p q s, c9 = .ListComp (cElt c9) [⟨.Name "run" p, cIter c9, [], 0⟩] s q ∧ s.names.lookup (Str.ofString "word") = some .free := ⟨_, _, _, by rfl, by kernel_rfl⟩
  obtain ⟨p, q', s, e, f1⟩ := e
  have hit : ev O m (cIter c9) σ = some (.ref r, σ) := by
    (have e : cIter c9 = cIter c9 := rfl; conv at e => rhs; whnf)
    rw [e]
    simp only [ev_name]
    simp only [k1, bind1_some]
  obtain ⟨σ2, r1, r2⟩ := ev_comp_keep (O := O) (elt := cElt c9) (ifs := []) (scope := s) (t := .Name "run" p) (p := q') (g := itemF w) (fun σ' => σ'[r]? = some (.list (rs.map triV))) hit (srcOk_list h)
    (fun i σ' h => next_list h i) (fuel_list h) (fun σ' σ'' h k => k _ _ h) (fun v hv σ' _ => by
      obtain ⟨t, ht, rfl⟩ := List.mem_map.mp hv
      have R := hR t ht
      have b1 := R.pos; have b2 := R.fl; have b3 := R.ln
      refine ⟨σ', ?_, Keeps.refl _⟩
      have n1 : (setL (sees s m) (Str.ofString "run") (triV t)).lookup (Str.ofString "run") = some (triV t) := by rw [lookup_setL, if_pos rfl]
      have n2 : (setL (sees s m) (Str.ofString "run") (triV t)).lookup (Str.ofString "word") = some (.str w) := by rw [lookup_setL, if_neg (by decide), lookup_sees f1]; exact k2
      have n3 : (setL (sees s m) (Str.ofString "run") (triV t)).lookup (Str.ofString "_indent") = none := by rw [lookup_setL, if_neg (by decide)]; exact lookup_sees_none k3
      generalize hm : setL (sees s m) (Str.ofString "run") (triV t) = m' at n1 n2 n3
      unfold compF
      simp only [bindT_name, bind1_some, hm, trs_nil, bind2_some, if_true]
      have sl := seg_length (w := w) (a := t.1) b3
      have ic := indent_call (σ := σ') P (s := seg w t.1 t.2.1) (k := t.1) (by omega) (by omega)
      rw [indent_plain t.1 (fun c hc => by have := hw c (seg_mem hc); omega) (fun e => by rw [e] at sl; simp at sl; omega)] at ic
      (have e2 : cElt c9 = cElt c9 := rfl; conv at e2 => rhs; whnf)
      rw [e2]
      simp only [ev_const, const_int, ev_name, ev_tuple, ev_callN, ev_subSl, ev_subC, evs_nil, evs_cons, evOpt_none, evOpt_some, bind1_some, bind2_some]
      simp only [n1, n2, n3, bind1_some, bind2_some, if_true, if_false, Bool.false_eq_true, Option.isSome_none, Bool.false_eq_true, if_false, show bifOf (Str.ofString "_indent") = none by decide,
        show subs (triV t) (.int 2) σ' = some (.int t.2.2) from rfl, show subs (triV t) (.int 1) σ' = some (.int t.2.1) from rfl, show subs (triV t) (.int 0) σ' = some (.int t.1) from rfl, bound_none,
        bound_int (show intOk (t.1 : Int) = true from intOk_of (by omega)), bound_int (show intOk (t.2.1 : Int) = true from intOk_of (by omega)),
        slc_seg (σ := σ') (show (t.1 : Int) = (t.1 : Nat) from rfl) (show (t.2.1 : Int) = (t.2.1 : Nat) from rfl) (show t.1 ≤ t.2.1 by omega) b3 (show w.length ≤ 1000 by omega), ic, tup2, if_true]
      rfl) (by simpa using hn) h
  rw [fm_items] at r1
  have e' : ∃ p q, lq 9 = .Assign [.Name "rows" p] c9 q := ⟨_, _, by rfl⟩
  obtain ⟨p1, q1, e'⟩ := e'
  refine ⟨σ2.length, σ2 ++ [.list (rs.map (itemT w))], ?_, r2.trans (Keeps.app _ _), by simp⟩
  rw [e']
  refine asg ?_
  rw [show ev O m c9 σ = _ from congrArg (fun s => ev O m s σ) e]
  exact r1
end
end Mine.L3
end

section
open PySem PySem.W PyProof.Rows
set_option maxRecDepth 100000
set_option linter.unusedSimpArgs false
set_option maxHeartbeats 1000000
namespace Mine.L3
section
variable {O : Oracle} {σ : Sto} {m : Loc} {vs : List AV} {a b c r q s : Nat} {tt : Int} {w w' : List Nat} {rs : List Tri} {sv : List (Nat × Tri)}
/-- the main loop -/
inductive Lq8G (L : Loc) (σ : Sto) (r q : Nat) (w : List Nat) : Prop
  | mk (m' : Loc) (σ' : Sto) (rs : List Tri) (sv : List (Nat × Tri)) : ex O2 L (lq 8) σ = some (.next, m', σ') → Agr m' L → Done w rs sv → Holds2 σ' r q rs sv → rs.length ≤ 2 * w.length → sv.length ≤ 2 * w.length → Lq8G L σ r q w
theorem lq8_ok {K : Nat} (hK : ∀ c ∈ w, c ≤ K) (hw : w.length ≤ 30) (H : Holds2 σ r q [] []) (hrq : r ≠ q) :
    Lq8G (lm vs a b tt c w (turnW K w) r q) σ r q w := by
  have hit : ev O2 (lm vs a b tt c w (turnW K w) r q) (forI (lq 8)) σ = some (.ref σ.length, σ ++ [.list [.str w, .str (turnW K w)]]) := by
    (have e : forI (lq 8) = forI (lq 8) := rfl; conv at e => rhs; whnf)
    rw [e]
    simp only [ev_name, ev_list, evs_nil, evs_cons, List.lookup, ofString_beq, String.reduceBEq, List.length_cons, List.length_nil, Nat.reduceAdd, bind1_some, bind2_some]
    rfl
  have e : ∃ p q, lq 8 = .For (.Name "text" p) (forI (lq 8)) (forB (lq 8)) [] q := ⟨_, _, by rfl⟩
  obtain ⟨p1, q1, e⟩ := e
  generalize hσ0 : (σ ++ [Cell.list [.str w, .str (turnW K w)]] : Sto) = σ0 at hit
  have hsrc : σ0[σ.length]? = some (.list [.str w, .str (turnW K w)]) := by rw [← hσ0]; simp
  have hr0 : r < σ.length := (List.getElem?_eq_some_iff.mp H.runs).1
  have hq0 : q < σ.length := (List.getElem?_eq_some_iff.mp H.srv).1
  have H0 : Holds2 σ0 r q [] [] := by rw [← hσ0]; exact ⟨Keeps.app _ _ _ _ H.runs, Keeps.app _ _ _ _ H.srv⟩
  have A0 : Agr (lm vs a b tt c w (turnW K w) r q) (lm vs a b tt c w (turnW K w) r q) := fun _ _ => rfl
  have I0 : InvR w (turnW K w) (fun _ _ => False) [] [] := ⟨by simp, by simp, by simp, fun _ _ h => h.elim⟩
  have key : ∀ (x : AV) (k : Nat), [AV.str w, .str (turnW K w)][k]? = some x → ∃ T, x = .str T ∧ (T = w ∨ T = turnW K w) ∧ (k = 0 → T = w) ∧ (k = 1 → T = turnW K w) := fun x k hk => by
    match k, hk with
    | 0, hk => exact ⟨w, (Option.some.inj hk).symm, .inl rfl, fun _ => rfl, fun h => by omega⟩
    | 1, hk => exact ⟨_, (Option.some.inj hk).symm, .inr rfl, fun h => by omega, fun _ => rfl⟩
    | k + 2, hk => simp at hk
  obtain ⟨m', σ', e1, rs', sv', A', I', H', b1, b2, _⟩ := forN_list (S := Unit) (f := fun _ _ => ()) (body := fun v m σ => exs O2 (setL m "text" v) (forB (lq 8)) σ) (src := .ref σ.length) (L := [.str w, .str (turnW K w)])
    (Inv := fun _ i m σ' => ∃ rs' sv', Agr m (lm vs a b tt c w (turnW K w) r q) ∧ InvR w (turnW K w) (fun j p => (0 < i ∧ (stepsP w)[j]? = some p) ∨ (1 < i ∧ (stepsP (turnW K w))[j]? = some p)) rs' sv' ∧ Holds2 σ' r q rs' sv' ∧
      rs'.length ≤ i * w.length ∧ sv'.length ≤ i * w.length ∧ σ'[σ.length]? = some (.list [.str w, .str (turnW K w)]))
    (fun _ i _ σ' ⟨_, _, _, _, _, _, _, h⟩ => next_list h i)
    (fun _ i m σ' hi ⟨rs', sv', A', I', H', b1, b2, hs⟩ => by
      obtain ⟨T, hT, hT2, t0, t1⟩ := key _ i (List.getElem?_eq_getElem hi)
      have hi2 : i < 2 := hi
      have hm : i * w.length ≤ 1 * 30 := Nat.mul_le_mul (by omega) hw
      rw [hT]
      obtain ⟨m', σ'', rs'', sv'', q1, q2, q3, q4, q5, q6, q7⟩ := text_turn hK (by omega) A' hT2 _ I' H' hrq (by omega) (by omega)
      refine ⟨m', σ'', q1, rs'', sv'', q2, q3.mono (fun j p h => ?_), q4, by rw [Nat.succ_mul]; omega, by rw [Nat.succ_mul]; omega, q7 _ _ (by omega) (by omega) hs⟩
      rcases h with ⟨h1, h2⟩ | ⟨h1, h2⟩
      · by_cases h0 : i = 0
        · rw [t0 h0]; exact .inr h2
        · exact .inl (.inl ⟨by omega, h2⟩)
      · have : i = 1 := by omega
        rw [t1 this]; exact .inr h2)
    2 0 3 () (lm vs a b tt c w (turnW K w) r q) σ0 rfl (by omega) ⟨[], [], A0, I0.mono (fun j p h => by omega), H0, by simp, by simp, hsrc⟩
  refine ⟨m', σ', rs', sv', ?_, A', (I'.mono (fun j p h => by
    rcases h with h | h
    · exact .inl ⟨by simp, h⟩
    · exact .inr ⟨by simp, h⟩)).done hK, H', b1, b2⟩
  rw [show ex O2 (lm vs a b tt c w (turnW K w) r q) (lq 8) σ = _ from congrArg (fun s => ex O2 (lm vs a b tt c w (turnW K w) r q) s σ) e, ex_for hit (srcOk_list hsrc), fuel_list hsrc]
  simp only [bindT_name, bind1_some]
  exact e1

noncomputable def c10 : PySem.Expr := asgE (lq 10)
noncomputable def d10 : PySem.Expr := match cIfs c10 with
  | [.Compare _ _ [r] _] => r
  | _ => .Constant .none 0 default
theorem lq10_ok (A : Agr m (lm vs a b tt c w w' r q)) (h : σ[r]? = some (.list (rs.map triV))) (h2 : σ[q]? = some (.list (sv.map servV))) (hn : rs.length ≤ 900) (hn2 : sv.length ≤ 900) (hs : ∀ t ∈ rs, ∃ x ∈ sv, x.2 = t) :
    ∃ k σ', ex O m (lq 10) σ = some (.next, setL m "bare" (.ref k), σ') ∧ Keeps σ σ' ∧ σ'[k]? = some (.list []) := by
  have k1 : m.lookup (Str.ofString "runs") = some (.ref r) := (A _ (by decide)).trans rfl
  have k2 : m.lookup (Str.ofString "served") = some (.ref q) := (A _ (by decide)).trans rfl
  have e : ∃ p q s p3 p4, c10 = .ListComp (cElt c10) [⟨.Name "run" p, cIter c10, [.Compare (.Name "run" p3) [.NotIn] [d10] p4], 0⟩] s q ∧ s.names.lookup (Str.ofString "served") = some .free := ⟨_, _, _, _, _, by rfl, by kernel_rfl⟩
  obtain ⟨p, q', s, p3, p4, e, f1⟩ := e
  have hit : ev O m (cIter c10) σ = some (.ref r, σ) := by
    (have e : cIter c10 = cIter c10 := rfl; conv at e => rhs; whnf)
    rw [e]
    simp only [ev_name]
    simp only [k1, bind1_some]
  have ed : ∃ p1 p2 p3 k s q, d10 = .ListComp (cElt d10) [⟨.Tuple [.Name "spot" p1, .Name "one" p2] k p3, cIter d10, [], 0⟩] s q := ⟨_, _, _, _, _, _, by rfl⟩
  obtain ⟨p5, p6, p7, k, s2, q2, ed⟩ := ed
  obtain ⟨σ2, r1, r2⟩ := ev_comp_keep (O := O) (elt := cElt c10) (ifs := [.Compare (.Name "run" p3) [.NotIn] [d10] p4]) (scope := s) (t := .Name "run" p) (p := q') (g := fun _ => none) (fun σ' => σ'[r]? = some (.list (rs.map triV)) ∧ σ'[q]? = some (.list (sv.map servV))) hit (srcOk_list h)
    (fun i σ' h => next_list h.1 i) (fuel_list h) (fun σ' σ'' h k => ⟨k _ _ h.1, k _ _ h.2⟩) (fun v hv σ' hR => by
      obtain ⟨t, ht, rfl⟩ := List.mem_map.mp hv
      obtain ⟨x, hx, hxt⟩ := hs t ht
      have n1 : (setL (sees s m) (Str.ofString "run") (triV t)).lookup (Str.ofString "run") = some (triV t) := by rw [lookup_setL, if_pos rfl]
      have n2 : (setL (sees s m) (Str.ofString "run") (triV t)).lookup (Str.ofString "served") = some (.ref q) := by rw [lookup_setL, if_neg (by decide), lookup_sees f1]; exact k2
      generalize hm : setL (sees s m) (Str.ofString "run") (triV t) = m' at n1 n2
      have hit2 : ev O m' (cIter d10) σ' = some (.ref q, σ') := by
        (have e : cIter d10 = cIter d10 := rfl; conv at e => rhs; whnf)
        rw [e]
        simp only [ev_name]
        simp only [n2, bind1_some]
      obtain ⟨σ3, r3, r4⟩ := ev_comp_keep (O := O) (m := m') (elt := cElt d10) (ifs := []) (scope := s2) (t := .Tuple [.Name "spot" p5, .Name "one" p6] k p7) (p := q2) (L := sv.map servV) (g := fun v => match v with | .tup [_, y] => some y | _ => none) (fun σ'' => σ''[q]? = some (.list (sv.map servV))) hit2 (srcOk_list hR.2)
        (fun i σ'' h => next_list h i) (fuel_list hR.2) (fun _ _ h k => k _ _ h) (fun v hv σ'' _ => by
          obtain ⟨y, hy, rfl⟩ := List.mem_map.mp hv
          refine ⟨σ'', ?_, Keeps.refl _⟩
          have n3 : (setL (setL (sees s2 m') (Str.ofString "spot") (.int y.1)) (Str.ofString "one") (triV y.2)).lookup (Str.ofString "one") = some (triV y.2) := by rw [lookup_setL, if_pos rfl]
          generalize hm2 : setL (setL (sees s2 m') (Str.ofString "spot") (.int y.1)) (Str.ofString "one") (triV y.2) = m2 at n3
          unfold compF
          rw [bindT_tup (show ¬ (Str.ofString "spot" = Str.ofString "one") by decide), bind1_some, hm2]
          simp only [trs_nil, bind2_some, if_true]
          (have e2 : cElt d10 = cElt d10 := rfl; conv at e2 => rhs; whnf)
          rw [e2]
          simp only [ev_name]
          simp only [n3, bind1_some, bind2_some]) (by simpa using (by omega : sv.length ≤ 1000)) hR.2
      have hL : (sv.map servV).filterMap (fun v => match v with | .tup [_, y] => some y | _ => none) = (sv.map (·.2)).map triV := by
        generalize sv = l
        induction l with
        | nil => rfl
        | cons y l ih => simp only [List.map_cons, List.filterMap_cons, ih]
      rw [hL] at r3
      have ev1 : ev O m' d10 σ' = some (.ref σ3.length, σ3 ++ [.list ((sv.map (·.2)).map triV)]) := by
        rw [show ev O m' d10 σ' = _ from congrArg (fun s => ev O m' s σ') ed]
        exact r3
      have hin : t ∈ sv.map (·.2) := List.mem_map.mpr ⟨x, hx, hxt⟩
      refine ⟨σ3 ++ [.list ((sv.map (·.2)).map triV)], ?_, r4.trans (Keeps.app _ _)⟩
      unfold compF
      simp only [bindT_name, bind1_some, hm, trs_cons, trs_nil, tr_cmp, ev_cmp, isQ_name, ev_name, n1, bind1_some, bind2_some, byV_bool, cmp_notin, listAt, if_false, Bool.false_eq_true, Bool.not_true, ev1, List.getElem?_concat_length, any_tri, hin, decide_true]) (by simpa using (by omega : rs.length ≤ 1000)) ⟨h, h2⟩
  rw [fm_none (fun _ _ => rfl)] at r1
  have e' : ∃ p q, lq 10 = .Assign [.Name "bare" p] c10 q := ⟨_, _, by rfl⟩
  obtain ⟨p1, q1, e'⟩ := e'
  refine ⟨σ2.length, σ2 ++ [.list []], ?_, r2.trans (Keeps.app _ _), by simp⟩
  rw [e']
  refine asg ?_
  rw [show ev O m c10 σ = _ from congrArg (fun s => ev O m s σ) e]
  exact r1
theorem sorted_call (P : OPr O) {k : Nat} {xs ys : List AV} (h : σ[k]? = some (.list xs)) (hl : xs.length < 64) (hs : sortAV xs = some ys) : O (Str.ofString "#sorted") [.ref k] σ = some (.ref σ.length, σ ++ [.list ys]) := by
  rw [P.p _ _ _ (by decide)]
  show bind1 (listAt σ k) (fun xs => if xs.length < 64 then bind1 (sortAV xs) fun ys => some (AV.ref σ.length, σ ++ [Cell.list ys]) else none) = _
  have h' : listAt σ k = some xs := by unfold listAt; rw [h]
  rw [h']
  show (if xs.length < 64 then bind1 (sortAV xs) fun ys => some (AV.ref σ.length, σ ++ [Cell.list ys]) else none) = _
  rw [if_pos hl, hs]
  rfl
theorem bif_sorted : bifOf (Str.ofString "sorted") = some .sorted := by rfl
theorem eqAVs_items (w : List Nat) : ∀ ts : List AV, (∀ t ∈ ts, IsPr t) → eqAVs ts ts = some true
  | [], _ => rfl
  | t :: ts, h => by
    obtain ⟨a, x, rfl⟩ := h t (by simp)
    show (bind1 (some ((a == a) && ((x == x) && true))) fun c => bind1 (eqAVs ts ts) fun b => some (c && b)) = _
    rw [eqAVs_items w ts (fun u hu => h u (by simp [hu]))]
    simp [bind1_some]
theorem lq11_ok {k kb : Nat} (A : Agr m (lm vs a b tt c w w' r q)) (hrows : m.lookup (Str.ofString "rows") = some (.ref k)) (hbare : m.lookup (Str.ofString "bare") = some (.ref kb))
    (h : σ[k]? = some (.list (rs.map (itemT w)))) (hb : σ[kb]? = some (.list [])) (D : Done w rs sv) (hw : Plain w) (hn : rs.length < 64) (hl : w.length ≤ 30) :
    ∃ σ', ex O2 m (lq 11) σ = some (.ret (.bool true), m, σ') := by
  have k2 : m.lookup (Str.ofString "word") = some (.str w) := (A _ (by decide)).trans rfl
  have k3 : m.lookup (Str.ofString "sorted") = none := (A _ (by decide)).trans rfl
  have k4 : m.lookup (Str.ofString "_law_due") = none := (A _ (by decide)).trans rfl
  have hpr : ∀ x ∈ rs.map (itemT w), IsPr x := fun x hx => by
    obtain ⟨t, _, rfl⟩ := List.mem_map.mp hx
    exact ⟨_, _, rfl⟩
  have hP := items_perm D
  obtain ⟨zs, z1, z2⟩ := sort_same hpr (items_nd hw D) hP
  have hz : ∀ x ∈ zs, IsPr x := fun x hx => hpr x ((sortAV_spec z1).1.mem_iff.mp hx)
  have s1 := sorted_call (O := O2) (σ := σ) (opr 2) h (by simpa using hn) z1
  obtain ⟨rd, σd, d1, d2, d3⟩ := due_run (O := O1) (σ := σ ++ [.list zs]) (w := w) hl
  have s2 := sorted_call (O := O2) (σ := σd) (opr 2) d3 (by rw [← hP.length_eq]; simpa using hn) z2
  have g1 : (σd ++ [Cell.list zs])[σ.length]? = some (.list zs) := Keeps.app _ _ _ _ (d2 _ _ (by simp))
  have g2 : (σd ++ [Cell.list zs])[σd.length]? = some (.list zs) := by simp
  have g3 : ((σd ++ [Cell.list zs]) ++ [Cell.list []])[kb]? = some (.list []) := Keeps.app _ _ _ _ (Keeps.app _ _ _ _ (d2 _ _ (Keeps.app _ _ _ _ hb)))
  have g4 : ((σd ++ [Cell.list zs]) ++ [Cell.list []])[(σd ++ [Cell.list zs]).length]? = some (.list []) := by simp
  refine ⟨(σd ++ [Cell.list zs]) ++ [Cell.list []], ?_⟩
  have d1' : O2 (Str.ofString "_law_due") [.str w] (σ ++ [.list zs]) = some (.ref rd, σd) := by rw [call_due]; exact d1
  (have e : lq 11 = lq 11 := rfl; conv at e => rhs; whnf)
  rw [e]
  simp only [ev_name, ev_boolop, ev_list, ev_cmp, isQ_name, isQ_call, evQ_call, ev_callN, evs_nil, evs_cons, evBool_one, evBool_cons, ex_return, qname, ofString_beq, String.reduceBEq, Bool.false_and, List.length_cons, List.length_nil, List.isEmpty_nil, Nat.reduceAdd, Nat.reduceBEq, bind2_some, stops_and, cmp_eq, if_false, Bool.false_eq_true]
  simp only [hrows, hbare, k2, k3, k4, bind1_some, bind2_some, as_bool, eqTop_ref, b_sorted, listAt, if_true, if_false, Bool.false_eq_true, Bool.not_true, Option.isSome_none, Bool.false_eq_true, if_false, bif_sorted, show bifOf (Str.ofString "_law_due") = none by decide, s1, d1', s2, g1, g2, if_true, eqAVs_items w zs hz,
    List.length_nil, show sizeOk 0 = true from rfl, g3, g4, eqAVs_nil]
end

theorem law_run {vs : List AV} (hv : ∀ v ∈ vs, IsInt v) (hl : vs.length ≤ 63) : ∃ σ', calls pr fns 3 "law" [.frz vs] [] = some (.bool true, σ') := by
  have e0 : calls pr fns 3 "law" [.frz vs] [] = callFn O2 (fnOf "law") [.frz vs] [] := by
    show (match fns (Str.ofString "law") with | some fn => callFn (calls pr fns 2) fn [.frz vs] [] | none => pr (Str.ofString "law") [.frz vs] []) = _
    have : fns (Str.ofString "law") = some (fnOf "law") := by
      unfold fns; rw [if_pos (by decide)]
    rw [this]
  rw [e0]
  rw [callFn_eq law_pars law_body rfl]
  obtain ⟨a, b, t, c, r, q, cs, σ1, h1, h2, h3, h4, h5, h6⟩ := law_head (O := O2) hv hl [lq 8, lq 9, lq 10, lq 11]
  rw [show [Str.ofString "script"].zip [AV.frz vs] = ([("script", .frz vs)] : Loc) from rfl, h1]
  have hw : cs.map (55032 - ·) = turnW 55065 (cs.map (33 + ·)) := by
    unfold turnW
    rw [List.map_map]
    refine List.map_congr_left fun c hc => ?_
    simp only [Function.comp]; omega
  rw [hw]
  generalize hW : cs.map (33 + ·) = w
  have hwl : w.length ≤ 8 := by rw [← hW]; simpa using h2
  have hmem : ∀ x ∈ w, 33 ≤ x ∧ x ≤ 55065 := fun x hx => by
    rw [← hW] at hx
    obtain ⟨c, hc, rfl⟩ := List.mem_map.mp hx
    have := h3 c hc
    exact ⟨by omega, by omega⟩
  obtain ⟨m2, σ2, rs, sv, e2, A2, D, H2, b1, b2⟩ := lq8_ok (σ := σ1) (vs := vs) (a := a) (b := b) (c := c) (r := r) (q := q) (tt := t) (w := w) (K := 55065) (fun x hx => (hmem x hx).2) (by omega) ⟨h4, h5⟩ h6
  obtain ⟨k, σ3, e3, k3, g3⟩ := lq9_ok (O := O2) (opr 2) A2 (fun x hx => (hmem x hx).1) (by omega) H2.runs (fun t ht => (D.mem t).mp ht) (by omega)
  have A3 := A2.set (x := "rows") (v := .ref k) (by decide)
  obtain ⟨kb, σ4, e4, k4, g4⟩ := lq10_ok (O := O2) A3 (k3 _ _ H2.runs) (k3 _ _ H2.srv) (by omega) (by omega) D.srv
  have A4 := A3.set (x := "bare") (v := .ref kb) (by decide)
  obtain ⟨σ5, e5⟩ := lq11_ok (k := k) (kb := kb) A4 (by rw [lookup_setL, if_neg (by decide), lookup_setL, if_pos rfl]) (by rw [lookup_setL, if_pos rfl]) (k4 _ _ g3) g4 D (fun x hx => (hmem x hx).1) (by omega) (by omega)
  rw [exs_cons, e2]
  simp only
  rw [exs_cons, e3]
  simp only
  rw [exs_cons, e4]
  simp only
  rw [exs_cons, e5]
  exact ⟨σ5, rfl⟩
end Mine.L3
end

theorem PySem.Challenge.cw_wu0020_03_holds : PySem.Challenge.rw_wu0020_03.Holds :=
  Mine.L3.law_top fun zs h => Mine.L3.law_run (fun v hv => by
    obtain ⟨i, _, rfl⟩ := List.mem_map.mp hv
    exact ⟨i, rfl⟩) (by simpa using h)
