import PyProof.Rows.All
import Wide.All
import OpenK.AllK
import Wide.FinOn
import PyProof.Rows.ZipGen
import PyProof.Rows.FactsT2
import PySem.Challenge.RW_it0021_02
set_option Elab.async false

section
open PySem
namespace Mine

/-- abstract values: ids in the place of addresses, no tokens -/
inductive V where
  | none
  | bool (b : Bool)
  | int (i : Int)
  | str (x : Str)
  | bytes (b : List UInt8)
  | ref (i : Nat)
  deriving Inhabited

/-- abstract objects -/
inductive AObj where
  | list (xs : List V)
  | tup (xs : List V)
  | inst (fs : List (Str × V))
  /-- the given script: read only -/
  | ro (xs : List V)
  deriving Inhabited

inductive X where
  | weight

structure S where
  heap : Nat → Option AObj
  next : Nat
  loc : Str → Option V

inductive R (α : Type) where
  | fail
  | ok (a : α) (s : S)
  | exc (x : X) (s : S)

noncomputable def M (α : Type) := S → R α

namespace M
noncomputable def pure {α : Type} (a : α) : M α := fun s => .ok a s
noncomputable def bind {α β : Type} (m : M α) (f : α → M β) : M β := fun s => match m s with
  | .fail => .fail
  | .ok a s' => f a s'
  | .exc x s' => .exc x s'
noncomputable instance : Monad M where
  pure := pure
  bind := bind
end M

noncomputable def failM {α : Type} : M α := fun _ => .fail
noncomputable def throwM {α : Type} (x : X) : M α := fun s => .exc x s
noncomputable def upd {α : Type} (f : Nat → Option α) (i : Nat) (o : α) : Nat → Option α := fun j => if j = i then some o else f j
noncomputable def wr (i : Nat) (o : AObj) : M Unit := fun s => .ok () { s with heap := upd s.heap i o }
noncomputable def al (o : AObj) : M Nat := fun s => .ok s.next { s with heap := upd s.heap s.next o, next := s.next + 1 }
noncomputable def getLoc : M (Str → Option V) := fun s => .ok s.loc s
noncomputable def setLoc (l : Str → Option V) : M Unit := fun s => .ok () { s with loc := l }
noncomputable def updL (l : Str → Option V) (x : Str) (v : V) : Str → Option V := fun y => if y = x then some v else l y
noncomputable def getM {α : Type} (f : S → Option α) : M α := fun s => match f s with
  | some a => .ok a s
  | none => .fail
noncomputable def ofOpt {α : Type} (o : Option α) : M α := getM fun _ => o

inductive FId where
  | glob (n : Str)
  | meth (n : Str)
  | getW
  | setW

structure FnC where
  params : List Str
  defaults : List V
  scope : Scope
  body : List Stmt

structure PI where
  code : FId → Option FnC
  fields : List Str

structure AEnv where
  names : List (Str × NameKind)
  hd : Bool

noncomputable abbrev Phi := Bool → FId → List V → M V

/-- binding of arguments: positional, the last ones by default, or one keyword for the last parameter -/
noncomputable def bindV (c : FnC) (pos : List V) (kw : List (Str × V)) : Option (List V) :=
  match kw with
  | [] => if pos.length ≤ c.params.length ∧ c.params.length ≤ pos.length + c.defaults.length then
      some (pos ++ c.defaults.drop (pos.length + c.defaults.length - c.params.length)) else none
  | _ => none

noncomputable def callF (P : PI) (Φ : Phi) (hd : Bool) (f : FId) (pos : List V) (kw : List (Str × V)) : M V :=
  match P.code f with
  | none => failM
  | some c => match bindV c pos kw with
    | none => failM
    | some vs => Φ hd f vs

/-! values -/
noncomputable def locM (x : Str) : M V := getM fun s => s.loc x
noncomputable def loadV (ev : AEnv) (x : Str) : M V :=
  if x = ("__debug__" : Str) then failM else if ev.names.lookup x = some .local then locM x else failM
noncomputable def storeV (ev : AEnv) (x : Str) (v : V) : M Unit :=
  if ev.names.lookup x = some .local then (fun s => .ok () { s with loc := updL s.loc x v }) else failM

/-- what kind of list lies there -/
noncomputable def listAt (h : Nat → Option AObj) (i : Nat) : Option (List V) := match h i with
  | some (.list xs) => some xs
  | _ => none
noncomputable def instAt (h : Nat → Option AObj) (i : Nat) : Option (List (Str × V)) := match h i with
  | some (.inst fs) => some fs
  | _ => none
noncomputable def seqAt (h : Nat → Option AObj) (i : Nat) : Option (List V) := match h i with
  | some (.list xs) => some xs
  | some (.ro xs) => some xs
  | _ => none
noncomputable def rdL (i : Nat) : M (List V) := getM fun s => listAt s.heap i
noncomputable def rdI (i : Nat) : M (List (Str × V)) := getM fun s => instAt s.heap i
noncomputable def rdS (i : Nat) : M (List V) := getM fun s => seqAt s.heap i
noncomputable def refOf : V → Option Nat
  | .ref i => some i
  | _ => none
noncomputable def intOf : V → Option Int
  | .int i => some i
  | _ => none
noncomputable def intPair (a b : V) : Option (Int × Int) := match intOf a with
  | some x => (match intOf b with
    | some y => some (x, y)
    | none => none)
  | none => none
noncomputable def refM (v : V) : M Nat := getM fun _ => refOf v
noncomputable def intM (v : V) : M Int := getM fun _ => intOf v

noncomputable def alRef (o : AObj) : M V := al o >>= fun i => pure (.ref i)

noncomputable def truthyV (v : V) : M Bool := match v with
  | .bool b => pure b
  | .ref i => do
    let xs ← rdS i
    if xs.length < 100000 then pure (!xs.isEmpty) else failM
  | _ => failM

noncomputable def binI (op : Operator) (x y : Int) : M V := match op with
  | .Add => pure (.int (x + y))
  | .Sub => pure (.int (x - y))
  | .Mod => if y = 0 then failM else pure (.int (Int.fmod x y))
  | .Pow => if 0 ≤ y ∧ y ≤ 100 ∧ x = 10 then pure (.int (x ^ y.toNat)) else failM
  | _ => failM
noncomputable def isAdd : Operator → Bool
  | .Add => true
  | _ => false
noncomputable def binV (op : Operator) (a b : V) : M V := match intPair a b with
  | some (x, y) => binI op x y
  | none => if isAdd op then refM a >>= fun i => refM b >>= fun j => rdL i >>= fun xs => rdL j >>= fun ys => if xs.length + ys.length < 100000 then alRef (.list (xs ++ ys)) else failM
    else failM

/-- the plain data that a value stands for, by depth; instances are not served -/
noncomputable def optAll : List (Option PyData) → Option (List PyData)
  | [] => some []
  | x :: r => match x with
    | none => none
    | some d => (optAll r).map (d :: ·)
noncomputable def pyObj (f : V → Option PyData) : Option AObj → Option PyData
  | some (.list xs) => (optAll (xs.map f)).map .list
  | some (.tup xs) => (optAll (xs.map f)).map .tuple
  | _ => none
noncomputable def pyVal (f : V → Option PyData) (h : Nat → Option AObj) : V → Option PyData
  | .none => some .none
  | .bool b => some (.bool b)
  | .int i => some (.int i)
  | .str x => some (.str x)
  | .bytes _ => none
  | .ref i => pyObj f (h i)
noncomputable def pyOf : Nat → (Nat → Option AObj) → V → Option PyData
  | 0, _, _ => none
  | n + 1, h, v => pyVal (pyOf n h) h v

noncomputable def depthLim : Nat := 4

noncomputable def eqD (h : Nat → Option AObj) (a b : V) : Option Bool := match pyOf depthLim h a with
  | some da => (match pyOf depthLim h b with
    | some db => if SeqAt.shaped da && SeqAt.shaped db then some (PyData.eqv da db) else none
    | none => none)
  | none => none

noncomputable def cmpName : CmpOp → Option Str
  | .Eq => some "__eq__"
  | .NotEq => some "__ne__"
  | .Lt => some "__lt__"
  | .LtE => some "__le__"
  | .Gt => some "__gt__"
  | .GtE => some "__ge__"
  | _ => none

noncomputable def isInst (h : Nat → Option AObj) (v : V) : Bool := match refOf v with
  | some i => (instAt h i).isSome
  | none => false
noncomputable def isIntV (v : V) : Bool := (intOf v).isSome

noncomputable def cmpI : CmpOp → Int → Int → Option Bool
  | .Eq, x, y => some (x == y)
  | .NotEq, x, y => some (!(x == y))
  | .Lt, x, y => some (decide (x < y))
  | .LtE, x, y => some (decide (x ≤ y))
  | .Gt, x, y => some (decide (x > y))
  | .GtE, x, y => some (decide (x ≥ y))
  | _, _, _ => none
noncomputable def okB (o : Option Bool) : M V := getM fun _ => o.map .bool

noncomputable def cmpV (P : PI) (Φ : Phi) (hd : Bool) (op : CmpOp) (a b : V) : M V := fun s =>
  if isInst s.heap a then
    if isInst s.heap b || isIntV b then
      match cmpName op with
      | some n => callF P Φ hd (.meth n) [a, b] [] s
      | none => .fail
    else .fail
  else match intPair a b with
    | some (x, y) => okB (cmpI op x y) s
    | none => match op with
      | .Eq => okB (eqD s.heap a b) s
      | .NotEq => okB ((eqD s.heap a b).map (!·)) s
      | _ => .fail

noncomputable def isNone : V → Bool
  | .none => true
  | _ => false
/-- `x is None`, `x is not None`: not for instances' methods, so apart -/
noncomputable def isV (op : CmpOp) (a b : V) : Option V := match op, b with
  | .Is, .none => some (.bool (isNone a))
  | .IsNot, .none => some (.bool (!isNone a))
  | _, _ => none

noncomputable def compareV (P : PI) (Φ : Phi) (hd : Bool) (op : CmpOp) (a b : V) : M V := match isV op a b with
  | some v => pure v
  | none => cmpV P Φ hd op a b

noncomputable def chainV (P : PI) (Φ : Phi) (hd : Bool) (a : V) : List CmpOp → List (M V) → M V
  | [op], [r] => do
    let b ← r
    compareV P Φ hd op a b
  | _, _ => failM

noncomputable def testV (P : PI) (Φ : Phi) (hd : Bool) (a : V) : List CmpOp → List (M V) → M Bool
  | [op], [r] => do
    let b ← r
    match ← compareV P Φ hd op a b with
    | .bool c => pure c
    | _ => failM
  | op :: ops, r :: rs => do
    let b ← r
    match ← compareV P Φ hd op a b with
    | .bool true => testV P Φ hd b ops rs
    | .bool false => pure false
    | _ => failM
  | _, _ => failM

/-- an object's fields, by the first that bears the name -/
noncomputable def getR (x : Str) : List (Str × V) → Option V
  | [] => none
  | (y, w) :: r => if y = x then some w else getR x r
noncomputable def putR (x : Str) (v : V) : List (Str × V) → List (Str × V)
  | [] => [(x, v)]
  | (y, w) :: r => if y = x then (y, v) :: r else (y, w) :: putR x v r
noncomputable def wName : Str := "weight"
noncomputable def noExc {α : Type} (m : M α) : M α := fun s => match m s with
  | .ok a s' => .ok a s'
  | _ => .fail

noncomputable def attrV (P : PI) (Φ : Phi) (hd : Bool) (o : V) (x : Str) : M V := do
  let i ← refM o
  let fs ← rdI i
  if x = wName then noExc (callF P Φ hd .getW [.ref i] [])
  else if P.fields.contains x then ofOpt (getR x fs) else failM

noncomputable def unitM (m : M V) : M Unit := m >>= fun _ => pure ()
noncomputable def setAttrV (P : PI) (Φ : Phi) (hd : Bool) (o : V) (x : Str) (v : V) : M Unit := do
  let i ← refM o
  let fs ← rdI i
  if x = wName then unitM (callF P Φ hd .setW [.ref i, v] [])
  else if P.fields.contains x ∧ fs.length < 100 then wr i (.inst (putR x v fs)) else failM

noncomputable def setSubV (o i v : V) : M Unit := do
  let a ← refM o
  let k ← intM i
  let xs ← rdL a
  if 0 ≤ k ∧ k.toNat < xs.length ∧ k < 1000 then wr a (.list (xs.set k.toNat v)) else failM

/-- slices `[:b]`, 0 <= b -/
noncomputable def sliceV (o hi : V) : M V := do
  let a ← refM o
  let b ← intM hi
  let xs ← rdS a
  if 0 ≤ b ∧ b < 1000 ∧ xs.length < 100000 then alRef (.list (xs.take b.toNat)) else failM

inductive Flow where
  | next | brk | cont
  | ret (v : V)
  deriving Inhabited

noncomputable def wlim : Nat := 100

noncomputable def loopGo (again : M Flow) (f : Flow) : M Flow := match f with
  | .next => again
  | .cont => again
  | .brk => pure .next
  | .ret v => pure (.ret v)
noncomputable def loopD (fuel : Nat) (next : Nat → M Bool) (body : M Flow) (k : Nat) : M Flow := match fuel with
  | 0 => failM
  | fuel + 1 => next k >>= fun b => if b = true then body >>= loopGo (loopD fuel next body (k + 1)) else pure .next
noncomputable def nextIt (i : Nat) (tv : V → M Unit) (k : Nat) : M Bool := rdL i >>= fun xs => match xs[k]? with
  | some v => tv v >>= fun _ => pure true
  | none => pure false
/-- zip of two lists, its pairs to two names -/
noncomputable def nextZ (ev : AEnv) (i j : Nat) (x y : Str) (k : Nat) : M Bool := rdL i >>= fun xs => rdL j >>= fun ys => match xs[k]? with
  | some v => (match ys[k]? with
    | some w => (storeV ev x v >>= fun _ => storeV ev y w) >>= fun _ => pure true
    | none => failM)
  | none => if (ys[k]?).isNone then pure false else failM

/-- a while whose test fails at once -/
noncomputable def whileM (test : M Bool) : M Flow := do
  if ← test then failM else pure .next

noncomputable def nameE : Expr → Option Str
  | .Name x _ => some x
  | _ => none
noncomputable def targetV (ev : AEnv) (t : Expr) (v : V) : M Unit := match nameE t with
  | some x => storeV ev x v
  | none => failM

noncomputable def tryM (m k : M Flow) : M Flow := fun s => match m s with
  | .exc _ s' => k s'
  | .ok f s' => .ok f s'
  | .fail => .fail

noncomputable def isGlobal (ev : AEnv) (x : Str) : Bool := match ev.names.lookup x with
  | some .globalImplicit => true
  | _ => false

noncomputable def lenV (v : V) : M V := do
  let i ← refM v
  let xs ← rdL i
  if xs.length < 100000 then pure (.int xs.length) else failM

noncomputable def absV (v : V) : M V := do
  let x ← intM v
  pure (.int x.natAbs)

noncomputable def isinstV (v : V) (n : Str) : M V := fun s =>
  if n = ("int" : Str) then (match intOf v with
    | some _ => .ok (.bool true) s
    | none => .fail)
  else if n = ("Stream" : Str) then (if isIntV v then .ok (.bool false) s else if isInst s.heap v then .ok (.bool true) s else .fail)
  else .fail

noncomputable def appendM (i : Nat) (w : V) : M V := do
  let xs ← rdL i
  if xs.length < 1000 then do wr i (.list (xs ++ [w])); pure .none else failM

section
variable (P : PI) (Φ : Phi)

inductive Callee where
  | inst | list

/-- what a method's name comes to, before the arguments are reckoned -/
noncomputable def calleeM (o : V) (n : Str) : M (Callee × Nat) := do
  let i ← refM o
  if n = ("append" : Str) then do
    let _ ← rdL i
    pure (.list, i)
  else do
    let fs ← rdI i
    if (getR n fs).isSome then failM else if (P.code (.meth n)).isSome then pure (.inst, i) else failM

noncomputable def methodM (hd : Bool) (k : Callee) (i : Nat) (n : Str) (args : List V) : M V := match k with
  | .inst => callF P Φ hd (.meth n) (.ref i :: args) []
  | .list => match args with
    | [v] => appendM i v
    | _ => failM

noncomputable def newM (hd : Bool) (args : List V) : M V := do
  let i ← al (.inst [])
  let r ← callF P Φ hd (.meth "__init__") (.ref i :: args) []
  if isNone r then pure (.ref i) else failM

noncomputable def one (f : V → M V) (vs : List V) : M V := match vs with
  | [v] => f v
  | _ => failM
noncomputable def callName (ev : AEnv) (f : Str) (vs : List V) : M V :=
  if (P.code (.glob f)).isSome then callF P Φ ev.hd (.glob f) vs []
  else if f = ("Stream" : Str) then newM P Φ ev.hd vs
  else if f = ("len" : Str) then one lenV vs
  else if f = ("abs" : Str) then one absV vs
  else failM

noncomputable def compEnv (ev : AEnv) (sc : Scope) : AEnv := { names := sc.names, hd := ev.hd }

noncomputable def compOk (sc : Scope) : Bool := sc.kind == .function && sc.names.all fun p => p.2 != .cell && p.2 != .free && (p.2 != .local || sc.names.lookup p.1 == some .local)

noncomputable def compTurnM (acc : Nat) (elt : M V) : M Flow := do
  let w ← elt
  let _ ← appendM acc w
  pure .next

noncomputable def itOf (v : V) : M Nat := do
  let i ← refM v
  let _ ← rdL i
  pure i

noncomputable def compRest (ev : AEnv) (t : Expr) (elt : M V) (x : V) : M V := do
  let iter ← itOf x
  let acc ← al (.list [])
  let l ← getLoc
  setLoc fun _ => none
  let _ ← noExc (loopD wlim (nextIt iter (targetV ev t)) (compTurnM acc elt) 0)
  setLoc l
  pure (.ref acc)

noncomputable def globE (ev : AEnv) (t : Expr) : Option Str := match nameE t with
  | some n => if isGlobal ev n then some n else none
  | none => none
noncomputable def knownFn (f : Str) : Bool := (P.code (.glob f)).isSome || f == ("Stream" : Str) || f == ("len" : Str) || f == ("abs" : Str)
noncomputable def starred : Expr → Bool
  | .Starred .. => true
  | _ => false
noncomputable def noStars (es : List Expr) : Bool := es.length < 25 && es.all fun e => !starred e
/-- no `super()` at hand -/
noncomputable def plainBase : Expr → Bool
  | .Call (.Name _ _) [] [] _ => false
  | _ => true

noncomputable def constM : PySem.Const → M V
  | .none => pure .none
  | .bool b => pure (.bool b)
  | .int i => pure (.int i)
  | .str x => pure (.str x)
  | _ => failM
noncomputable def unM : UnaryOp → V → M V
  | .Not, v => truthyV v >>= fun b => pure (.bool !b)
  | .USub, v => intM v >>= fun i => pure (.int (-i))
  | _, _ => failM
noncomputable def truthM (w : M V) : M Bool := w >>= truthyV
noncomputable def boolNext (op : BoolOp) (b : Bool) (m : M Bool) : M Bool := match op with
  | .And => if b then m else pure false
  | .Or => if b then pure true else m
noncomputable def isiM (ev : AEnv) (args : List Expr) (ms : List (M V)) : M V := match args with
  | [_, t] => (match ms with
    | [m, _] => (match globE ev t with
      | some n => m >>= fun v => isinstV v n
      | none => failM)
    | _ => failM)
  | _ => failM

mutual
noncomputable def denE (ev : AEnv) : Expr → M V
  | .Constant c _ _ => constM c
  | .Name x _ => loadV ev x
  | .UnaryOp op x _ => denE ev x >>= unM op
  | .BinOp l op r _ => do
    let a ← denE ev l
    let b ← denE ev r
    binV op a b
  | .IfExp t b o _ => do if ← denT ev t (denE ev t) then denE ev b else denE ev o
  | .Compare l ops cs _ => do
    let a ← denE ev l
    chainV P Φ ev.hd a ops (denEach ev cs)
  | .List es _ => if noStars es then denEs ev es >>= fun vs => alRef (.list vs) else failM
  | .Tuple es _ _ => if noStars es then denEs ev es >>= fun vs => alRef (.tup vs) else failM
  | .Attribute v n _ => if plainBase v then denE ev v >>= fun o => attrV P Φ ev.hd o n else failM
  | .Subscript v i _ => match i with
    | .Slice lo hi st _ => if lo.isNone && st.isNone then do
        let o ← denE ev v
        let b ← denOpt ev hi
        sliceV o b
      else failM
    | _ => failM
  | .Call f args kws pp => match f with
    | .Attribute o n ap => if (ap.endLine == pp.line) && plainBase o && noStars args && kws.isEmpty then do
        let ov ← denE ev o
        let k ← calleeM P ov n
        let vs ← denEs ev args
        methodM P Φ ev.hd k.1 k.2 n vs
      else failM
    | .Name f _ => if isGlobal ev f && kws.isEmpty && noStars args then
        (if f = ("isinstance" : Str) then isiM ev args (denEach ev args)
        else if knownFn P f then denEs ev args >>= fun vs => callName P Φ ev f vs else failM)
      else failM
    | _ => failM
  | .ListComp elt gens sc _ => denComp ev sc (denE (compEnv ev sc) elt) gens
  | _ => failM

noncomputable def denComp (ev : AEnv) (sc : Scope) (elt : M V) : List Comprehension → M V
  | [] => failM
  | ⟨t, it, ifs, a⟩ :: r => if (a == 0) && ifs.isEmpty && r.isEmpty && compOk sc && !ev.hd then do
    let x ← denE ev it
    compRest (compEnv ev sc) t elt x
    else failM

noncomputable def denT (ev : AEnv) : Expr → M V → M Bool
  | .UnaryOp op x _, w => match op with
    | .Not => denT ev x (denE ev x) >>= fun b => pure !b
    | _ => truthM w
  | .BoolOp op vs _, _ => denBool ev op vs
  | .IfExp _ _ _ _, _ => failM
  | .Compare l ops cs _, _ => do
    let a ← denE ev l
    testV P Φ ev.hd a ops (denEach ev cs)
  | _, w => truthM w

noncomputable def denBool (ev : AEnv) : BoolOp → List Expr → M Bool
  | op, [] => pure (op == .And)
  | op, x :: r => do
    let b ← denT ev x (denE ev x)
    boolNext op b (denBool ev op r)

noncomputable def denEach (ev : AEnv) : List Expr → List (M V)
  | [] => []
  | e :: r => denE ev e :: denEach ev r

noncomputable def denEs (ev : AEnv) : List Expr → M (List V)
  | [] => pure []
  | e :: r => do
    let v ← denE ev e
    let vs ← denEs ev r
    pure (v :: vs)

noncomputable def denOpt (ev : AEnv) : Option Expr → M V
  | none => pure .none
  | some e => denE ev e
end

noncomputable def assignV (ev : AEnv) (t : Expr) (v : V) : M Unit := match t with
  | .Name x _ => storeV ev x v
  | .Attribute o n _ => denE P Φ ev o >>= fun ov => setAttrV P Φ ev.hd ov n v
  | .Subscript o i _ => do
    let ov ← denE P Φ ev o
    let iv ← denE P Φ ev i
    setSubV ov iv v
  | _ => failM

noncomputable def isComp : Expr → Bool
  | .ListComp .. => true
  | .SetComp .. => true
  | .DictComp .. => true
  | _ => false
noncomputable def withHd (ev : AEnv) (b : Bool) : AEnv := { ev with hd := b }

/-- two names in a tuple -/
noncomputable def tup2 : Expr → Option (Str × Str)
  | .Tuple es _ _ => (match es with
    | [a, b] => (match nameE a with
      | some x => (match nameE b with
        | some y => some (x, y)
        | none => none)
      | none => none)
    | _ => none)
  | _ => none
/-- a name called with two arguments -/
noncomputable def call2 : Expr → Option (Str × Expr × Expr)
  | .Call f args kws _ => (match args with
    | [a, b] => if kws.isEmpty then (nameE f).map fun n => (n, a, b) else none
    | _ => none)
  | _ => none
noncomputable def zipM (ev : AEnv) (x y : Str) (body : M Flow) (m1 m2 : M V) : M Flow := do
  let a ← m1
  let c ← m2
  let i ← refM a
  let j ← refM c
  let _ ← rdL i
  let _ ← rdL j
  loopD wlim (nextZ ev i j x y) body 0
noncomputable def forM (ev : AEnv) (t : Expr) (m : M V) (body : M Flow) : M Flow := do
  let v ← m
  let i ← itOf v
  loopD wlim (nextIt i (targetV ev t)) body 0
noncomputable def denFor (ev : AEnv) (t it : Expr) (body : M Flow) : M Flow := match call2 it with
  | some (f, e1, e2) => if isGlobal ev f ∧ f = ("zip" : Str) then (match tup2 t with
      | some (x, y) => if starred e1 = false ∧ starred e2 = false then zipM ev x y body (denE P Φ ev e1) (denE P Φ ev e2) else failM
      | none => failM)
    else forM ev t (denE P Φ ev it) body
  | none => forM ev t (denE P Φ ev it) body

noncomputable def retM (ev : AEnv) : Option Expr → M Flow
  | some e => denE P Φ ev e >>= fun v => pure (.ret v)
  | none => failM
noncomputable def asgM (ev : AEnv) (ts : List Expr) (v : Expr) : M Flow := match ts with
  | [t] => if (!isComp v) || (nameE t).isSome then denE P Φ ev v >>= fun x => assignV P Φ ev t x >>= fun _ => pure .next else failM
  | _ => failM
noncomputable def isStrC : PySem.Const → Bool
  | .str _ => true
  | _ => false
noncomputable def strE : Expr → Bool
  | .Constant c _ _ => isStrC c
  | _ => false
noncomputable def oneStr : List Expr → Bool
  | [a] => strE a
  | _ => false
noncomputable def raiseOf : Expr → Option Str
  | .Call f args kws _ => if oneStr args && kws.isEmpty then nameE f else none
  | _ => none
noncomputable def raiseM (ev : AEnv) (e : Option Expr) (c : Option Expr) : M Flow := match e.bind raiseOf with
  | some f => if isGlobal ev f ∧ f = ("BadWeightError" : Str) ∧ ev.hd = false ∧ c.isNone then throwM .weight else failM
  | none => failM
noncomputable def handles (ev : AEnv) (t : Option Expr) : Bool := match t.bind nameE with
  | some n => isGlobal ev n && (n == ("BadWeightError" : Str))
  | none => false

mutual
noncomputable def denS (ev : AEnv) : Stmt → M Flow
  | .Expr e _ => if (!isComp e) = true then denE P Φ ev e >>= fun _ => pure .next else failM
  | .Return e _ => retM P Φ ev e
  | .Assign ts v _ => asgM P Φ ev ts v
  | .If t b o _ => do
    if ← denT P Φ ev t (denE P Φ ev t) then denSs ev b else denSs ev o
  | .While t _ o _ => if o.isEmpty then whileM (denT P Φ ev t (denE P Φ ev t)) else failM
  | .For t it b o _ => if o.isEmpty && !ev.hd then denFor P Φ ev t it (denSs ev b) else failM
  | .Raise e c _ => raiseM ev e c
  | .Try b hs o f _ => if o.isEmpty && f.isEmpty && !ev.hd && !hs.isEmpty then tryM (denSs ev b) (denHs ev hs) else failM
  | _ => failM

noncomputable def denSs (ev : AEnv) : List Stmt → M Flow
  | [] => pure .next
  | s :: r => do
    match ← denS ev s with
    | .next => denSs ev r
    | f => pure f

noncomputable def denHs (ev : AEnv) : List ExceptHandler → M Flow
  | [] => failM
  | .ExceptHandler t n b _ :: _ => if n.isNone && handles ev t && !b.isEmpty then denSs (withHd ev true) b else failM
end

noncomputable def noCell (sc : Scope) : Bool := sc.names.all fun p => p.2 != .cell
noncomputable def backV : Flow → V
  | .ret v => v
  | _ => .none
noncomputable def bodyM (hd : Bool) (c : FnC) (vs : List V) : M V := fun s =>
  if vs.length = c.params.length ∧ noCell c.scope = true then
    match denSs P Φ { names := c.scope.names, hd } c.body { s with loc := fun x => (c.params.zip vs).lookup x } with
    | .fail => .fail
    | .ok f s' => .ok (backV f) { s' with loc := s.loc }
    | .exc x s' => .exc x { s' with loc := s.loc }
  else .fail
end

noncomputable def phi (P : PI) : Nat → Phi
  | 0 => fun _ _ _ => failM
  | n + 1 => fun hd f vs => match P.code f with
    | some c => bodyM P (phi P n) hd c vs
    | none => failM

end Mine
end

section
open PySem PySem.W PySem.Calls PyProof.Rows
set_option maxRecDepth 100000
namespace Mine

inductive Tag where
  | frame | pin
  | own (i : Nat)
  | dic (i : Nat)
  deriving DecidableEq

/-- where the abstract objects lie -/
structure Wd where
  n : Nat
  ρ : Nat → Addr
  δ : Nat → Addr
  lab : Addr → Option Tag

structure Ext (W W' : Wd) : Prop where
  le : W.n ≤ W'.n
  eq : ∀ i, i < W.n → W'.ρ i = W.ρ i

theorem Ext.refl (W : Wd) : Ext W W := ⟨Nat.le_refl _, fun _ _ => rfl⟩
theorem Ext.trans {W₁ W₂ W₃ : Wd} (x : Ext W₁ W₂) (y : Ext W₂ W₃) : Ext W₁ W₃ :=
  ⟨Nat.le_trans x.le y.le, fun i h => (y.eq i (Nat.lt_of_lt_of_le h x.le)).trans (x.eq i h)⟩

noncomputable def VRel (W : Wd) : V → Value → Prop
  | .none, v => v = .none
  | .bool b, v => v = .bool b
  | .int i, v => ∃ t, v = .int i t
  | .str x, v => ∃ t, v = .str x t
  | .bytes b, v => ∃ t, v = .bytes b.toArray t
  | .ref i, v => i < W.n ∧ v = .ref (W.ρ i)

theorem VRel.ext {W W' : Wd} (x : Ext W W') {v : V} {u : Value} (h : VRel W v u) : VRel W' v u := by
  cases v with
  | ref i => exact ⟨Nat.lt_of_lt_of_le h.1 x.le, by rw [x.eq i h.1]; exact h.2⟩
  | _ => exact h

noncomputable def VsRel (W : Wd) : List V → List Value → Prop
  | [], [] => True
  | v :: vs, u :: us => VRel W v u ∧ VsRel W vs us
  | _, _ => False

theorem VsRel.ext {W W' : Wd} (x : Ext W W') : ∀ {vs : List V} {us : List Value}, VsRel W vs us → VsRel W' vs us
  | [], [], _ => trivial
  | _ :: _, _ :: _, h => ⟨h.1.ext x, VsRel.ext x h.2⟩
  | [], _ :: _, h => h.elim
  | _ :: _, [], h => h.elim
theorem VsRel.length {W : Wd} : ∀ {vs : List V} {us : List Value}, VsRel W vs us → vs.length = us.length
  | [], [], _ => rfl
  | _ :: _, _ :: _, h => congrArg (· + 1) (VsRel.length h.2)
  | [], _ :: _, h => h.elim
  | _ :: _, [], h => h.elim
theorem VsRel.get {W : Wd} : ∀ {vs : List V} {us : List Value} {k : Nat} {v : V}, VsRel W vs us → vs[k]? = some v → ∃ u, us[k]? = some u ∧ VRel W v u
  | v :: _, u :: _, 0, _, h, e => by cases e; exact ⟨u, rfl, h.1⟩
  | _ :: vs, _ :: us, k + 1, _, h, e => VsRel.get (vs := vs) (us := us) (k := k) h.2 e
  | [], [], _, _, _, e => by simp at e
  | [], _ :: _, _, _, h, _ => h.elim
  | _ :: _, [], _, _, h, _ => h.elim
theorem VsRel.none {W : Wd} {vs : List V} {us : List Value} {k : Nat} (h : VsRel W vs us) (e : vs[k]? = none) : us[k]? = none := by
  rw [List.getElem?_eq_none_iff] at e ⊢
  rw [← h.length]; exact e
theorem VsRel.append {W : Wd} : ∀ {vs vs' : List V} {us us' : List Value}, VsRel W vs us → VsRel W vs' us' → VsRel W (vs ++ vs') (us ++ us')
  | [], _, [], _, _, h' => h'
  | _ :: _, _, _ :: _, _, h, h' => ⟨h.1, VsRel.append h.2 h'⟩
  | [], _, _ :: _, _, h, _ => h.elim
  | _ :: _, _, [], _, h, _ => h.elim
theorem VsRel.take {W : Wd} : ∀ {k : Nat} {vs : List V} {us : List Value}, VsRel W vs us → VsRel W (vs.take k) (us.take k)
  | 0, _, _, _ => by simp only [List.take_zero]; trivial
  | _ + 1, [], [], _ => trivial
  | k + 1, _ :: vs, _ :: us, h => ⟨h.1, VsRel.take (k := k) (vs := vs) (us := us) h.2⟩
  | _ + 1, [], _ :: _, h => h.elim
  | _ + 1, _ :: _, [], h => h.elim
theorem VsRel.drop {W : Wd} : ∀ {k : Nat} {vs : List V} {us : List Value}, VsRel W vs us → VsRel W (vs.drop k) (us.drop k)
  | 0, _, _, h => h
  | _ + 1, [], [], _ => trivial
  | k + 1, _ :: vs, _ :: us, h => VsRel.drop (k := k) (vs := vs) (us := us) h.2
  | _ + 1, [], _ :: _, h => h.elim
  | _ + 1, _ :: _, [], h => h.elim
theorem VsRel.set {W : Wd} : ∀ {k : Nat} {vs : List V} {us : List Value} {v : V} {u : Value}, VsRel W vs us → VRel W v u → VsRel W (vs.set k v) (us.set k u)
  | _, [], [], _, _, _, _ => trivial
  | 0, _ :: _, _ :: _, _, _, h, h' => ⟨h', h.2⟩
  | k + 1, _ :: vs, _ :: us, _, _, h, h' => ⟨h.1, VsRel.set (k := k) (vs := vs) (us := us) h.2 h'⟩
  | _, [], _ :: _, _, _, h, _ => h.elim
  | _, _ :: _, [], _, _, h, _ => h.elim
theorem VsRel.eraseIdx {W : Wd} : ∀ {k : Nat} {vs : List V} {us : List Value}, VsRel W vs us → VsRel W (vs.eraseIdx k) (us.eraseIdx k)
  | _, [], [], _ => trivial
  | 0, _ :: _, _ :: _, h => h.2
  | k + 1, _ :: vs, _ :: us, h => ⟨h.1, VsRel.eraseIdx (k := k) (vs := vs) (us := us) h.2⟩
  | _, [], _ :: _, h => h.elim
  | _, _ :: _, [], h => h.elim
theorem VsRel.one {W : Wd} {v : V} {u : Value} (h : VRel W v u) : VsRel W [v] [u] := ⟨h, trivial⟩

/-- an instance's dict: fields in order -/
noncomputable def FRel (W : Wd) : List (Str × V) → List DictEntry → Prop
  | [], [] => True
  | (x, v) :: fs, e :: es => (∃ t, e.key = .str x t) ∧ VRel W v e.val ∧ FRel W fs es
  | _, _ => False
theorem FRel.ext {W W' : Wd} (x : Ext W W') : ∀ {fs : List (Str × V)} {es : List DictEntry}, FRel W fs es → FRel W' fs es
  | [], [], _ => trivial
  | _ :: _, _ :: _, h => ⟨h.1, h.2.1.ext x, FRel.ext x h.2.2⟩
  | [], _ :: _, h => h.elim
  | _ :: _, [], h => h.elim
theorem FRel.length {W : Wd} : ∀ {fs : List (Str × V)} {es : List DictEntry}, FRel W fs es → fs.length = es.length
  | [], [], _ => rfl
  | _ :: _, _ :: _, h => congrArg (· + 1) (FRel.length h.2.2)
  | [], _ :: _, h => h.elim
  | _ :: _, [], h => h.elim

noncomputable abbrev tupOf (vs : Array Value) (n : Nat) : Obj := { cls := .type "tuple", data := .seq vs n }

structure Cx where
  prog : Program
  w : World
  K : Frag
  C : Addr
  base : Heap
  P : PI

noncomputable def AObj.own : AObj → Prop
  | .ro _ => False
  | _ => True

/-- how the heap bears one abstract object -/
noncomputable def OAt (c : Cx) (W : Wd) (h : Heap) (i : Nat) : AObj → Prop
  | .list xs => ∃ vs n, h.get? (W.ρ i) = some (listOf vs.toArray n) ∧ VsRel W xs vs
  | .tup xs => ∃ vs n, h.get? (W.ρ i) = some (tupOf vs.toArray n) ∧ VsRel W xs vs
  | .inst fs => ∃ ds n, h.get? (W.ρ i) = some (instObj c.C (W.δ i)) ∧ h.get? (W.δ i) = some (dictOf ds n) ∧ FRel W fs ds
  | .ro xs => ∃ vs, c.base.IsList (W.ρ i) (List.toArray vs) ∧ VsRel W xs vs

theorem OAt.move {c : Cx} {W W' : Wd} {h h' : Heap} {i : Nat} {o : AObj} (x : Ext W W') (hi : W'.ρ i = W.ρ i) (hd : ∀ fs, o = .inst fs → W'.δ i = W.δ i)
    (k1 : o.own → ∀ q, h.get? (W.ρ i) = some q → h'.get? (W.ρ i) = some q) (k2 : ∀ fs, o = .inst fs → ∀ q, h.get? (W.δ i) = some q → h'.get? (W.δ i) = some q) (H : OAt c W h i o) : OAt c W' h' i o := by
  cases o with
  | list xs => obtain ⟨vs, n, a, b⟩ := H; exact ⟨vs, n, by rw [hi]; exact k1 trivial _ a, b.ext x⟩
  | tup xs => obtain ⟨vs, n, a, b⟩ := H; exact ⟨vs, n, by rw [hi]; exact k1 trivial _ a, b.ext x⟩
  | inst fs => obtain ⟨ds, n, a, b, d⟩ := H; exact ⟨ds, n, by rw [hi, hd fs rfl]; exact k1 trivial _ a, by rw [hd fs rfl]; exact k2 fs rfl _ b, d.ext x⟩
  | ro xs => obtain ⟨vs, a, b⟩ := H; exact ⟨vs, by rw [hi]; exact a, b.ext x⟩

noncomputable abbrev Frs := List (Addr × (Str → Option Value))

structure Inv (c : Cx) (fr : Frs) (pins : List (Addr × Obj)) (W : Wd) (σ : Nat → Option AObj) (h : Heap) : Prop where
  stays : c.base.StaysIn h
  frs : ∀ p ∈ fr, h.Ns p.1 p.2
  pin : ∀ p ∈ pins, h.get? p.1 = some p.2
  dom : ∀ i o, σ i = some o → i < W.n
  own : ∀ i o, σ i = some o → OAt c W h i o
  lfr : ∀ p ∈ fr, W.lab p.1 = some .frame
  lpin : ∀ p ∈ pins, W.lab p.1 = some .pin
  lown : ∀ i o, σ i = some o → o.own → W.lab (W.ρ i) = some (.own i)
  ldic : ∀ i fs, σ i = some (.inst fs) → W.lab (W.δ i) = some (.dic i)
  new : ∀ a, W.lab a ≠ none → (c.base.get? a = none ∧ (W.lab a ≠ some .pin → c.base.objs.size ≤ a)) ∧ ∃ o, h.get? a = some o
  nodup : (fr.map (·.1)).Nodup
  sz : c.base.objs.size ≤ h.objs.size

variable {c : Cx} {fr : Frs} {pins : List (Addr × Obj)} {W : Wd} {σ : Nat → Option AObj} {h : Heap}

theorem Inv.fresh (I : Inv c fr pins W σ h) {a : Addr} (ha : W.lab a ≠ none) : c.base.get? a = none := (I.new a ha).1.1
theorem base_none {c : Cx} {a : Addr} (ha : c.base.objs.size ≤ a) : c.base.get? a = none := by
  cases q : c.base.get? a with
  | none => rfl
  | some o => exact absurd (Nat.lt_of_lt_of_le (Heap.lt_size q) ha) (Nat.lt_irrefl _)
theorem lab_ne {t : Tag} {a : Addr} (h : W.lab a = some t) : W.lab a ≠ none := by rw [h]; exact fun x => nomatch x
theorem ne_of_lab {a b : Addr} {t u : Tag} (ha : W.lab a = some t) (hb : W.lab b = some u) (h : t ≠ u) : a ≠ b := by
  rintro rfl
  rw [ha] at hb
  exact h (Option.some.inj hb)

/-- everything that is followed lies as it lay -/
theorem Inv.keeps (I : Inv c fr pins W σ h) {h' : Heap} (hk : ∀ a o, W.lab a ≠ none → h.get? a = some o → h'.get? a = some o) (hb : c.base.StaysIn h') (hz : c.base.objs.size ≤ h'.objs.size) : Inv c fr pins W σ h' where
  stays := hb
  frs := fun p hp => let ⟨o, es, ep, ho, r⟩ := I.frs p hp; ⟨o, es, ep, hk _ _ (lab_ne (I.lfr p hp)) ho, r⟩
  pin := fun p hp => hk _ _ (lab_ne (I.lpin p hp)) (I.pin p hp)
  dom := I.dom
  own := fun i o e => (I.own i o e).move (Ext.refl W) rfl (fun _ _ => rfl) (fun n q hq => hk _ _ (lab_ne (I.lown i o e n)) hq) (fun fs e' q hq => hk _ _ (lab_ne (I.ldic i fs (e' ▸ e))) hq)
  lfr := I.lfr
  lpin := I.lpin
  lown := I.lown
  ldic := I.ldic
  new := fun a ha => ⟨(I.new a ha).1, let ⟨o, e⟩ := (I.new a ha).2; ⟨o, hk a o ha e⟩⟩
  nodup := I.nodup
  sz := hz

theorem Inv.keepsAll (I : Inv c fr pins W σ h) {h' : Heap} (hk : ∀ a o, h.get? a = some o → h'.get? a = some o) (hz : h.objs.size ≤ h'.objs.size) : Inv c fr pins W σ h' :=
  I.keeps (fun a o _ => hk a o) (fun a o e => hk a o (I.stays a o e)) (Nat.le_trans I.sz hz)

/-- an object that nobody follows is changed -/
theorem Inv.other (I : Inv c fr pins W σ h) {h' : Heap} {x : Addr} (hx : W.lab x = none) (hxb : c.base.get? x = none) (hs : Heap.SameBut x h h') : Inv c fr pins W σ h' :=
  I.keeps (fun a o ha e => (hs.2 a (fun q => ha (q ▸ hx))).trans e) (fun a o e => (hs.2 a (fun q => by rw [q, hxb] at e; cases e)).trans (I.stays a o e)) (by rw [hs.1]; exact I.sz)

theorem Inv.push (I : Inv c fr pins W σ h) (o : Obj) : Inv c fr pins W σ (h.push o) :=
  I.keepsAll (fun _ _ e => Heap.get?_push_of_some o e) (by rw [Heap.size_push]; exact Nat.le_succ _)

theorem Inv.unlab_size (I : Inv c fr pins W σ h) {a : Addr} (ha : h.objs.size ≤ a) : W.lab a = none := by
  cases q : W.lab a with
  | none => rfl
  | some t => obtain ⟨_, o, e⟩ := I.new a (lab_ne q); exact absurd (Nat.lt_of_lt_of_le (Heap.lt_size e) ha) (Nat.lt_irrefl _)
theorem Inv.unbase_size (I : Inv c fr pins W σ h) {a : Addr} (ha : h.objs.size ≤ a) : c.base.get? a = none := by
  cases q : c.base.get? a with
  | none => rfl
  | some o => exact absurd (Nat.lt_of_lt_of_le (Heap.lt_size (I.stays a o q)) ha) (Nat.lt_irrefl _)

/-- the frame at hand gets other names -/
theorem Inv.setFrame {L : Addr} {m m' : Str → Option Value} (I : Inv c ((L, m) :: fr) pins W σ h) {h' : Heap} (hs : Heap.SameBut L h h') (hn : h'.Ns L m') : Inv c ((L, m') :: fr) pins W σ h' := by
  have lL := I.lfr (L, m) (.head _)
  have nd : L ∉ fr.map (·.1) := by have := I.nodup; rw [List.map_cons, List.nodup_cons] at this; exact this.1
  have ne : ∀ a t, W.lab a = some t → t ≠ .frame → a ≠ L := fun a t ha ht => ne_of_lab ha lL ht
  refine ⟨fun a o e => (hs.2 a (fun q => ?_)).trans (I.stays a o e), ?_, fun p hp => (hs.2 _ (ne _ _ (I.lpin p hp) (by decide))).trans (I.pin p hp), I.dom, fun i o e => ?_, ?_, I.lpin, I.lown, I.ldic, fun a ha => ⟨(I.new a ha).1, ?_⟩, I.nodup, by rw [hs.1]; exact I.sz⟩
  · have := I.fresh (lab_ne lL); rw [q, this] at e; cases e
  · intro p hp
    rcases List.mem_cons.mp hp with rfl | hp
    · exact hn
    · exact (I.frs p (.tail _ hp)).sameBut hs (fun q => nd (q ▸ List.mem_map_of_mem hp))
  · exact (I.own i o e).move (Ext.refl W) rfl (fun _ _ => rfl) (fun n q hq => (hs.2 _ (ne _ _ (I.lown i o e n) (by simp))).trans hq) (fun fs e' q hq => (hs.2 _ (ne _ _ (I.ldic i fs (e' ▸ e)) (by simp))).trans hq)
  · intro p hp
    rcases List.mem_cons.mp hp with rfl | hp
    · exact lL
    · exact I.lfr p (.tail _ hp)
  · by_cases q : a = L
    · obtain ⟨o, _, _, ho, _⟩ := hn
      exact ⟨o, q ▸ ho⟩
    · obtain ⟨_, o, e⟩ := I.new a ha
      exact ⟨o, (hs.2 a q).trans e⟩

theorem OAt.there {c : Cx} {W : Wd} {h : Heap} {i : Nat} {o : AObj} (hn : o.own) (H : OAt c W h i o) : ∃ q, h.get? (W.ρ i) = some q := by
  cases o with
  | list xs => obtain ⟨_, _, a, _⟩ := H; exact ⟨_, a⟩
  | tup xs => obtain ⟨_, _, a, _⟩ := H; exact ⟨_, a⟩
  | inst fs => obtain ⟨_, _, a, _, _⟩ := H; exact ⟨_, a⟩
  | ro xs => exact hn.elim

/-- what is followed, but one address and the frames, lies as it lay -/
structure Keep (c : Cx) (W : Wd) (x : Addr) (h h' : Heap) : Prop where
  base : c.base.StaysIn h'
  keep : ∀ a o, W.lab a ≠ none → W.lab a ≠ some .frame → a ≠ x → h.get? a = some o → h'.get? a = some o
  frame : ∀ a o, W.lab a = some .frame → h.get? a = some o → ∃ o', h'.get? a = some o'
  size : c.base.objs.size ≤ h'.objs.size
theorem Keep.of (I : Inv c fr pins W σ h) {h' : Heap} {x : Addr} {t : Tag} (hx : W.lab x = some t) (ht : t ≠ .frame) (hs : Heap.SameBut x h h') : Keep c W x h h' where
  base := fun a o e => (hs.2 a (fun q => by have := I.fresh (lab_ne hx); rw [q, this] at e; cases e)).trans (I.stays a o e)
  keep := fun a o _ _ ne e => (hs.2 a ne).trans e
  frame := fun a o ha e => ⟨o, (hs.2 a (ne_of_lab ha hx (Ne.symm ht))).trans e⟩
  size := by rw [hs.1]; exact I.sz
theorem Keep.frs (I : Inv c fr pins W σ h) {h' : Heap} {x : Addr} {t : Tag} (hx : W.lab x = some t) (ht : t ≠ .frame) (hs : Heap.SameBut x h h') : ∀ p ∈ fr, h'.Ns p.1 p.2 :=
  fun p hp => (I.frs p hp).sameBut hs (ne_of_lab (I.lfr p hp) hx (Ne.symm ht))

/-- an own object is changed -/
theorem Inv.setOwn' (I : Inv c fr pins W σ h) {h' : Heap} {i : Nat} {o o' : AObj} (hi : σ i = some o) (k : Keep c W (W.ρ i) h h') (hf : ∀ p ∈ fr, h'.Ns p.1 p.2) (ho : OAt c W h' i o')
    (hinst : (∃ fs, o' = .inst fs) → ∃ fs, o = .inst fs) (hn : o.own := by trivial) (hn' : o'.own := by trivial) : Inv c fr pins W (upd σ i o') h' := by
  have li := I.lown i o hi hn
  have ne : ∀ a t, W.lab a = some t → t ≠ .own i → a ≠ W.ρ i := fun a t ha ht => ne_of_lab ha li ht
  have nf : ∀ a t, W.lab a = some t → t ≠ .frame → W.lab a ≠ some .frame := fun a t ha ht q => ht (Option.some.inj (ha.symm.trans q))
  refine ⟨k.base, hf, fun p hp => k.keep _ _ (lab_ne (I.lpin p hp)) (nf _ _ (I.lpin p hp) (by simp)) (ne _ _ (I.lpin p hp) (by simp)) (I.pin p hp), ?_, ?_, I.lfr, I.lpin, ?_, ?_, fun a ha => ⟨(I.new a ha).1, ?_⟩, I.nodup, k.size⟩
  · intro j q e
    unfold upd at e
    split at e
    · rename_i z; subst z; exact I.dom _ _ hi
    · exact I.dom _ _ e
  · intro j q e
    unfold upd at e
    split at e
    · rename_i z; subst z; cases e; exact ho
    · rename_i z
      exact (I.own j q e).move (Ext.refl W) rfl (fun _ _ => rfl) (fun n y hy => k.keep _ _ (lab_ne (I.lown j q e n)) (nf _ _ (I.lown j q e n) (by simp)) (ne _ _ (I.lown j q e n) (by simpa using z)) hy)
        (fun fs e' y hy => k.keep _ _ (lab_ne (I.ldic j fs (e' ▸ e))) (nf _ _ (I.ldic j fs (e' ▸ e)) (by simp)) (ne _ _ (I.ldic j fs (e' ▸ e)) (by simp)) hy)
  · intro j q e n
    unfold upd at e
    split at e
    · rename_i z; subst z; exact li
    · exact I.lown j q e n
  · intro j fs e
    unfold upd at e
    split at e
    · rename_i z; subst z; cases e
      obtain ⟨fs', rfl⟩ := hinst ⟨fs, rfl⟩
      exact I.ldic _ _ hi
    · exact I.ldic j fs e
  · obtain ⟨_, q, e⟩ := I.new a ha
    by_cases z : a = W.ρ i
    · rw [z]; exact ho.there hn'
    · by_cases zf : W.lab a = some .frame
      · exact k.frame a q zf e
      · exact ⟨q, k.keep a q ha zf z e⟩

theorem Inv.setOwn (I : Inv c fr pins W σ h) {h' : Heap} {i : Nat} {o o' : AObj} (hi : σ i = some o) (hs : Heap.SameBut (W.ρ i) h h') (ho : OAt c W h' i o')
    (hinst : (∃ fs, o' = .inst fs) → ∃ fs, o = .inst fs) (hn : o.own := by trivial) (hn' : o'.own := by trivial) : Inv c fr pins W (upd σ i o') h' :=
  I.setOwn' hi (Keep.of I (I.lown i o hi hn) (by simp) hs) (Keep.frs I (I.lown i o hi hn) (by simp) hs) ho hinst hn hn'

/-- an own instance's dict is changed -/
theorem Inv.setDict (I : Inv c fr pins W σ h) {h' : Heap} {i : Nat} {fs fs' : List (Str × V)} (hi : σ i = some (.inst fs)) (k : Keep c W (W.δ i) h h') (hf : ∀ p ∈ fr, h'.Ns p.1 p.2) {ds : List DictEntry} {n : Nat}
    (hd : h'.get? (W.δ i) = some (dictOf ds n)) (hfr : FRel W fs' ds) : Inv c fr pins W (upd σ i (.inst fs')) h' := by
  have li := I.lown i _ hi trivial
  have ld := I.ldic i _ hi
  have ne : ∀ a t, W.lab a = some t → t ≠ .dic i → a ≠ W.δ i := fun a t ha ht => ne_of_lab ha ld ht
  have nf : ∀ a t, W.lab a = some t → t ≠ .frame → W.lab a ≠ some .frame := fun a t ha ht q => ht (Option.some.inj (ha.symm.trans q))
  refine ⟨k.base, hf, fun p hp => k.keep _ _ (lab_ne (I.lpin p hp)) (nf _ _ (I.lpin p hp) (by simp)) (ne _ _ (I.lpin p hp) (by simp)) (I.pin p hp), ?_, ?_, I.lfr, I.lpin, ?_, ?_, fun a ha => ⟨(I.new a ha).1, ?_⟩, I.nodup, k.size⟩
  · intro j q e
    unfold upd at e
    split at e
    · rename_i z; subst z; exact I.dom _ _ hi
    · exact I.dom _ _ e
  · intro j q e
    unfold upd at e
    split at e
    · rename_i z; subst z; cases e
      obtain ⟨_, _, a, _, _⟩ := I.own _ _ hi
      exact ⟨ds, n, k.keep _ _ (lab_ne li) (nf _ _ li (by simp)) (ne _ _ li (by simp)) a, hd, hfr⟩
    · rename_i z
      exact (I.own j q e).move (Ext.refl W) rfl (fun _ _ => rfl) (fun n y hy => k.keep _ _ (lab_ne (I.lown j q e n)) (nf _ _ (I.lown j q e n) (by simp)) (ne _ _ (I.lown j q e n) (by simp)) hy)
        (fun fs e' y hy => k.keep _ _ (lab_ne (I.ldic j fs (e' ▸ e))) (nf _ _ (I.ldic j fs (e' ▸ e)) (by simp)) (ne _ _ (I.ldic j fs (e' ▸ e)) (by simpa using z)) hy)
  · intro j q e n
    unfold upd at e
    split at e
    · rename_i z; subst z; exact li
    · exact I.lown j q e n
  · intro j gs e
    unfold upd at e
    split at e
    · rename_i z; subst z; cases e; exact ld
    · exact I.ldic j gs e
  · obtain ⟨_, q, e⟩ := I.new a ha
    by_cases z : a = W.δ i
    · rw [z]; exact ⟨_, hd⟩
    · by_cases zf : W.lab a = some .frame
      · exact k.frame a q zf e
      · exact ⟨q, k.keep a q ha zf z e⟩

/-- a new own object at an address that nobody follows -/
noncomputable def Wd.add (W : Wd) (a d : Addr) (two : Bool) : Wd where
  n := W.n + 1
  ρ := fun j => if j = W.n then a else W.ρ j
  δ := fun j => if j = W.n then d else W.δ j
  lab := fun x => if x = a then some (.own W.n) else if two = true ∧ x = d then some (.dic W.n) else W.lab x
theorem Wd.ext_add (W : Wd) (a d : Addr) (two : Bool) : Ext W (W.add a d two) := ⟨Nat.le_succ _, fun i hi => if_neg (Nat.ne_of_lt hi)⟩
theorem Wd.ρ_add (W : Wd) (a d : Addr) (two : Bool) : (W.add a d two).ρ W.n = a := if_pos rfl
theorem Wd.δ_add (W : Wd) (a d : Addr) (two : Bool) : (W.add a d two).δ W.n = d := if_pos rfl

theorem Inv.add (I : Inv c fr pins W σ h) {a d : Addr} {two : Bool} {o : AObj} (ha : W.lab a = none) (hab : c.base.objs.size ≤ a)
    (hd : two = true → W.lab d = none ∧ d ≠ a ∧ c.base.objs.size ≤ d ∧ ∃ o, h.get? d = some o) (ht : (∃ fs, o = .inst fs) → two = true) (ho : OAt c (W.add a d two) h W.n o) (hn : o.own := by trivial) : Inv c fr pins (W.add a d two) (upd σ W.n o) h := by
  have old : ∀ x t, W.lab x = some t → (W.add a d two).lab x = some t := fun x t hx => by
    unfold Wd.add
    dsimp only
    rw [if_neg (fun q => by rw [q, ha] at hx; cases hx), if_neg (fun q => by rw [q.2, (hd q.1).1] at hx; cases hx)]
    exact hx
  refine ⟨I.stays, I.frs, I.pin, ?_, ?_, fun p hp => old _ _ (I.lfr p hp), fun p hp => old _ _ (I.lpin p hp), ?_, ?_, ?_, I.nodup, I.sz⟩
  · intro j q e
    unfold upd at e
    split at e
    · rename_i z; subst z; exact Nat.lt_succ_self _
    · exact Nat.lt_succ_of_lt (I.dom j q e)
  · intro j q e
    unfold upd at e
    split at e
    · rename_i z; subst z; cases e; exact ho
    · rename_i z
      exact (I.own j q e).move (W.ext_add a d two) (if_neg z) (fun _ _ => if_neg z) (fun _ _ x => x) (fun _ _ _ x => x)
  · intro j q e n
    unfold upd at e
    split at e
    · rename_i z; subst z; rw [Wd.ρ_add]; unfold Wd.add; exact if_pos rfl
    · rename_i z
      have : (W.add a d two).ρ j = W.ρ j := if_neg z
      rw [this]; exact old _ _ (I.lown j q e n)
  · intro j fs e
    unfold upd at e
    split at e
    · rename_i z; subst z; cases e
      have t := ht ⟨fs, rfl⟩
      rw [Wd.δ_add]
      unfold Wd.add
      dsimp only
      rw [if_neg (hd t).2.1, if_pos ⟨t, rfl⟩]
    · rename_i z
      have : (W.add a d two).δ j = W.δ j := if_neg z
      rw [this]; exact old _ _ (I.ldic j fs e)
  · intro x hx
    by_cases qa : x = a
    · subst qa
      have := ho.there hn
      rw [Wd.ρ_add] at this
      exact ⟨⟨base_none hab, fun _ => hab⟩, this⟩
    · by_cases qd : two = true ∧ x = d
      · obtain ⟨t, rfl⟩ := qd
        exact ⟨⟨base_none (hd t).2.2.1, fun _ => (hd t).2.2.1⟩, (hd t).2.2.2⟩
      · have e : (W.add a d two).lab x = W.lab x := by
          unfold Wd.add
          dsimp only
          rw [if_neg qa, if_neg qd]
        rw [e] at hx ⊢
        exact I.new x hx

/-- a new own object, pushed -/
theorem Inv.alloc (I : Inv c fr pins W σ h) {ob : Obj} {o : AObj} (hn : ∀ fs, o ≠ .inst fs) (ho : OAt c (W.add h.objs.size 0 false) (h.push ob) W.n o) (hw : o.own := by trivial) :
    Inv c fr pins (W.add h.objs.size 0 false) (upd σ W.n o) (h.push ob) :=
  (I.push ob).add (I.unlab_size (Nat.le_refl _)) I.sz (fun x => nomatch x) (fun ⟨fs, e⟩ => absurd e (hn fs)) ho hw

/-- the ledger that the kit's rules ask for: all that is followed, but the frame at hand and one address -/
theorem Inv.capture {L : Addr} {m : Str → Option Value} (I : Inv c ((L, m) :: fr) pins W σ h) (x : Addr) :
    ∃ rest : List (Addr × Obj), News c.base L h rest ∧ (∀ p ∈ rest, p.1 ≠ x) ∧ (∀ p ∈ rest, p.1 < h.objs.size) ∧
      ∀ h' L', News c.base L' h' rest → ∀ a o, W.lab a ≠ none → a ≠ L → a ≠ x → h.get? a = some o → h'.get? a = some o := by
  refine ⟨(List.range h.objs.size).filterMap fun a => if W.lab a ≠ none ∧ a ≠ L ∧ a ≠ x then (h.get? a).map fun o => (a, o) else none, ?_, ?_, ?_, ?_⟩
  · intro p hp
    obtain ⟨a, _, ha⟩ := List.mem_filterMap.mp hp
    split at ha
    · rename_i q
      obtain ⟨o, ho, rfl⟩ := Option.map_eq_some_iff.mp ha
      exact ⟨ho, q.2.1, I.fresh q.1⟩
    · cases ha
  · intro p hp
    obtain ⟨a, _, ha⟩ := List.mem_filterMap.mp hp
    split at ha
    · rename_i q
      obtain ⟨o, ho, rfl⟩ := Option.map_eq_some_iff.mp ha
      exact q.2.2
    · cases ha
  · intro p hp
    obtain ⟨a, hr, ha⟩ := List.mem_filterMap.mp hp
    split at ha
    · obtain ⟨o, ho, rfl⟩ := Option.map_eq_some_iff.mp ha
      exact Heap.lt_size ho
    · cases ha
  · intro h' L' N a o ha hL hx ho
    exact (N (a, o) (List.mem_filterMap.mpr ⟨a, List.mem_range.mpr (Heap.lt_size ho), by rw [if_pos ⟨ha, hL, hx⟩, ho]; rfl⟩)).1

theorem Inv.toFr {L : Addr} {m : Str → Option Value} (I : Inv c ((L, m) :: fr) pins W σ h) : Fr c.base L h m := ⟨I.frs _ (.head _), I.stays, (I.new L (lab_ne (I.lfr _ (.head _)))).1.2 (by rw [I.lfr _ (.head _)]; simp)⟩

/-- back from the kit's frame and ledger -/
theorem Inv.keepOf {L : Addr} {m m' : Str → Option Value} (I : Inv c ((L, m) :: fr) pins W σ h) {h' : Heap} {x : Addr} (F : Fr c.base L h' m')
    (hk : ∀ a o, W.lab a ≠ none → a ≠ L → a ≠ x → h.get? a = some o → h'.get? a = some o) (hx : ∀ t, W.lab x = some t → t ≠ .frame) : Keep c W x h h' ∧ ∀ p ∈ ((L, m') :: fr : Frs), h'.Ns p.1 p.2 := by
  have lL := I.lfr _ (.head _)
  have nd : L ∉ fr.map (·.1) := by have := I.nodup; rw [List.map_cons, List.nodup_cons] at this; exact this.1
  refine ⟨⟨F.keep, fun a o ha hf ne e => hk a o ha (fun q => hf (q ▸ lL)) ne e, fun a o ha e => ?_, ?_⟩, fun p hp => ?_⟩
  · by_cases q : a = L
    · obtain ⟨o, _, _, ho, _⟩ := F.ns
      exact ⟨o, q ▸ ho⟩
    · exact ⟨o, hk a o (lab_ne ha) q (fun z => hx _ (z ▸ ha) rfl) e⟩
  · obtain ⟨o, _, _, ho, _⟩ := F.ns
    exact Nat.le_of_lt (Nat.lt_of_le_of_lt F.above (Heap.lt_size ho))
  · rcases List.mem_cons.mp hp with rfl | hp
    · exact F.ns
    · obtain ⟨o, es, ep, ho, r⟩ := I.frs p (.tail _ hp)
      have lp := I.lfr p (.tail _ hp)
      exact ⟨o, es, ep, hk _ _ (lab_ne lp) (fun q => nd (q ▸ List.mem_map_of_mem hp)) (fun z => hx _ (z ▸ lp) rfl) ho, r⟩

/-- nothing that is followed has changed -/
theorem Inv.ofKeep (I : Inv c fr pins W σ h) {h' : Heap} {x : Addr} {fr' : Frs} (hx : W.lab x = none) (k : Keep c W x h h') (hfs : fr'.map (·.1) = fr.map (·.1)) (hf : ∀ p ∈ fr', h'.Ns p.1 p.2) : Inv c fr' pins W σ h' where
  stays := k.base
  frs := hf
  pin := fun p hp => k.keep _ _ (lab_ne (I.lpin p hp)) (fun q => by rw [I.lpin p hp] at q; cases q) (fun q => by rw [← q, I.lpin p hp] at hx; cases hx) (I.pin p hp)
  dom := I.dom
  own := fun i o e => (I.own i o e).move (Ext.refl W) rfl (fun _ _ => rfl)
    (fun n q hq => k.keep _ _ (lab_ne (I.lown i o e n)) (fun z => by rw [I.lown i o e n] at z; cases z) (fun z => by rw [← z, I.lown i o e n] at hx; cases hx) hq)
    (fun fs e' q hq => k.keep _ _ (lab_ne (I.ldic i fs (e' ▸ e))) (fun z => by rw [I.ldic i fs (e' ▸ e)] at z; cases z) (fun z => by rw [← z, I.ldic i fs (e' ▸ e)] at hx; cases hx) hq)
  lfr := fun p hp => by
    have : p.1 ∈ fr.map (·.1) := hfs ▸ List.mem_map_of_mem hp
    obtain ⟨q, hq, e⟩ := List.mem_map.mp this
    rw [← e]; exact I.lfr q hq
  lpin := I.lpin
  lown := I.lown
  ldic := I.ldic
  new := fun a ha => by
    obtain ⟨b, o, e⟩ := I.new a ha
    refine ⟨b, ?_⟩
    by_cases zf : W.lab a = some .frame
    · exact k.frame a o zf e
    · exact ⟨o, k.keep a o ha zf (fun q => ha (q ▸ hx)) e⟩
  nodup := hfs ▸ I.nodup
  sz := k.size

/-- a new own object that the kit's rules have laid -/
theorem Inv.allocOf {L : Addr} {m : Str → Option Value} (I : Inv c ((L, m) :: fr) pins W σ h) {h' : Heap} {q : Addr} {ob : Obj} {o : AObj} {rest : List (Addr × Obj)} (hq : h.objs.size ≤ q)
    (F : Fr c.base L h' m) (N : News c.base L h' ((q, ob) :: rest)) (hback : ∀ h' L', News c.base L' h' rest → ∀ a o, W.lab a ≠ none → a ≠ L → a ≠ h.objs.size → h.get? a = some o → h'.get? a = some o)
    (hn : ∀ fs, o ≠ .inst fs) (ho : h'.get? q = some ob → OAt c (W.add q 0 false) h' W.n o) (hw : o.own := by trivial) : Inv c ((L, m) :: fr) pins (W.add q 0 false) (upd σ W.n o) h' := by
  have hx := I.unlab_size (Nat.le_refl h.objs.size)
  have hk : ∀ a o, W.lab a ≠ none → a ≠ L → a ≠ h.objs.size → h.get? a = some o → h'.get? a = some o := hback h' L fun p hp => N p (.tail _ hp)
  obtain ⟨k, hf⟩ := I.keepOf F hk (fun t ht => by rw [hx] at ht; cases ht)
  have I' := I.ofKeep hx k rfl hf
  have hb : c.base.objs.size ≤ q := Nat.le_trans I.sz hq
  exact I'.add (I.unlab_size hq) hb (fun x => nomatch x) (fun ⟨fs, e⟩ => absurd e (hn fs)) (ho (N _ (.head _)).1) hw

end Mine
end

section
open PySem PySem.W PySem.Calls PyProof.Rows
set_option maxRecDepth 100000
set_option linter.unusedVariables false
namespace Mine

/-- the ground of an activation: what is fixed while its block runs -/
structure G where
  c : Cx
  d : Nat
  k : Nat
  hd : Bool
  pins : List (Addr × Obj)
  fenvs : List Env
  L : Addr
  fr : Frs

noncomputable def HOk (hd : Bool) (pins : List (Addr × Obj)) (A : Around) : Prop :=
  A.handled = none ∨ (hd = true ∧ ∃ e oe vs, A.handled = some (.ref e) ∧ (e, oe) ∈ pins ∧ oe.data = .fields vs ∧ vs[2]? = some .none ∧ 2 < vs.size)

/-- the frames of the stack are the program's own -/
noncomputable def FOk (g : G) : Prop := ∀ e ∈ g.fenvs, e.scope.kind ≠ .module ∧ ∃ L, e.frame = some L ∧ L ∈ g.L :: g.fr.map (·.1)

structure AOk (g : G) (A : Around) : Prop where
  fo : FOk g
  frames : A.frames = some g.fenvs
  hd : HOk g.hd g.pins A
  k : g.k ≤ 6
  depth : A.depth + 8 * g.d ≤ 980 + g.k
  units : A.units + 60 * g.d ≤ 9800 + g.k

noncomputable def LRel (W : Wd) (loc : Str → Option V) (m : Str → Option Value) : Prop := ∀ x v, loc x = some v → ∃ u, m x = some u ∧ VRel W v u
theorem LRel.ext {W W' : Wd} (x : Ext W W') {loc : Str → Option V} {m : Str → Option Value} (h : LRel W loc m) : LRel W' loc m :=
  fun y v e => let ⟨u, a, b⟩ := h y v e; ⟨u, a, b.ext x⟩

structure St (g : G) (W : Wd) (m : Str → Option Value) (st : S) (s : Shared) : Prop where
  inv : Inv g.c ((g.L, m) :: g.fr) g.pins W st.heap s.heap
  next : st.next = W.n
  loc : LRel W st.loc m

noncomputable def Same (s s' : Shared) : Prop := ∃ h' tk, s' = { s with heap := h', toks := tk }
theorem Same.refl (s : Shared) : Same s s := ⟨s.heap, s.toks, rfl⟩
theorem Same.trans {s₁ s₂ s₃ : Shared} (x : Same s₁ s₂) (y : Same s₂ s₃) : Same s₁ s₃ := by
  obtain ⟨h, t, rfl⟩ := x
  obtain ⟨h', t', rfl⟩ := y
  exact ⟨h', t', rfl⟩
theorem Same.mk' {s : Shared} {h : Heap} {t : Nat} : Same s { s with heap := h, toks := t } := ⟨h, t, rfl⟩
theorem Same.heap {s : Shared} {h : Heap} : Same s { s with heap := h } := ⟨h, s.toks, rfl⟩
theorem Same.toks {s : Shared} {t : Nat} : Same s { s with toks := t } := ⟨s.heap, t, rfl⟩

/-- what an exception's class is -/
noncomputable def clsIs (c : Cx) (v : Value) : Prop := ∃ a, v = .ref a ∧ nsIn c.K mainGlobals "BadWeightError" = some (some (.ref a))

/-- an exception that flies: its record, with or without a traceback -/
noncomputable def Thrown (c : Cx) (W : Wd) (h : Heap) (e : Value) : Prop :=
  ∃ a oe vs, e = .ref a ∧ W.lab a = none ∧ c.base.get? a = none ∧ h.get? a = some oe ∧ clsIs c oe.cls ∧ oe.data = .fields vs ∧ vs[2]? = some .none ∧
    (vs[1]? = some .none ∨ ∃ T oT ts, vs[1]? = some (.ref T) ∧ T ≠ a ∧ W.lab T = none ∧ c.base.get? T = none ∧ h.get? T = some oT ∧ oT.data = .fields ts ∧ 3 < ts.size)

/-- what is asked behind a run -/
noncomputable def Post {α β : Type} (g : G) (W : Wd) (s : Shared) (Rel : Wd → β → α → Prop) (Q : α → Shared → Prop) (E : Value → Shared → Prop) (r : R β) : Prop := match r with
  | .fail => False
  | .ok b st' => ∀ W' mm' s' a, Ext W W' → St g W' mm' st' s' → Same s s' → Rel W' b a → Q a s'
  | .exc _ st' => ∀ W' mm' s' e, Ext W W' → St g W' mm' st' s' → Same s s' → Thrown g.c W' s'.heap e → E e s'

/-- the tree t does what m says -/
noncomputable def Sim {α β : Type} (g : G) (W₀ : Wd) (t : Sem α) (m : M β) (R : Wd → β → α → Prop) : Prop :=
  ∀ (A : Around) (W : Wd) (mm : Str → Option Value) (st : S) (s : Shared) (Q : α → Shared → Prop) (E : Value → Shared → Prop),
    AOk g A → Ext W₀ W → St g W mm st s → Post g W s R Q E (m st) → wpAny (model g.c.prog g.c.w) A t Q E s

noncomputable abbrev VR : Wd → V → Value → Prop := VRel

section
variable {α β γ δ : Type} {g : G} {W : Wd}

theorem Post.move {s s' : Shared} {W' : Wd} {R : Wd → β → α → Prop} {Q : α → Shared → Prop} {E : Value → Shared → Prop} {r : Mine.R β} (h : Post g W s R Q E r) (hx : Ext W W') (hs : Same s s') : Post g W' s' R Q E r := by
  cases r with
  | fail => exact h
  | ok b st' => exact fun W₂ mm s₂ a hx' hS hs' hr => h W₂ mm s₂ a (hx.trans hx') hS (hs.trans hs') hr
  | exc x st' => exact fun W₂ mm s₂ a hx' hS hs' ht => h W₂ mm s₂ a (hx.trans hx') hS (hs.trans hs') ht
theorem Post.bind {s : Shared} {st : S} {m : M β} {k : β → M δ} {R : Wd → β → α → Prop} {R' : Wd → δ → γ → Prop} {Q : α → Shared → Prop} {Q' : γ → Shared → Prop} {E : Value → Shared → Prop} (hP : Post g W s R' Q' E ((m >>= k) st))
    (h : ∀ b st' W' mm' s' a, Ext W W' → St g W' mm' st' s' → Same s s' → R W' b a → Post g W' s' R' Q' E (k b st') → Q a s') : Post g W s R Q E (m st) := by
  revert hP
  show Post g W s R' Q' E (match m st with | .fail => .fail | .ok a s' => k a s' | .exc x s' => .exc x s') → _
  cases m st with
  | fail => exact id
  | ok b st' => exact fun hP W' mm' s' a hx hS hs hr => h b st' W' mm' s' a hx hS hs hr (hP.move hx hs)
  | exc x st' => exact id
/-- other ends -/
theorem Post.imp {α' : Type} {s : Shared} {R : Wd → β → α → Prop} {Q : α → Shared → Prop} {R' : Wd → β → α' → Prop} {Q' : α' → Shared → Prop} {E : Value → Shared → Prop} {r : Mine.R β} {f : α' → α} (h : Post g W s R Q E r) (k : ∀ W' b a s', R' W' b a → (R W' b (f a) → Q (f a) s') → Q' a s') : Post g W s R' Q' E r := by
  cases r with
  | fail => exact h
  | ok b st' => exact fun W₂ mm s₂ a hx' hS hs' hr => k W₂ b a s₂ hr fun hr' => h W₂ mm s₂ (f a) hx' hS hs' hr'
  | exc x st' => exact h
theorem Sim.fail {t : Sem α} {R : Wd → β → α → Prop} : Sim g W t (failM : M β) R := fun _ _ _ _ _ _ _ _ _ _ h => h.elim
theorem Sim.never {t : Sem α} {m : M β} {R : Wd → β → α → Prop} (e : ∀ st, m st = .fail) : Sim g W t m R := fun _ _ _ st _ _ _ _ _ _ h => by
  rw [e st] at h; exact h.elim
theorem Sim.start {t : Sem α} {m : M β} {R : Wd → β → α → Prop} {W' : Wd} (x : Ext W W') (h : Sim g W t m R) : Sim g W' t m R :=
  fun A W₁ mm st s Q E hA hx => h A W₁ mm st s Q E hA (x.trans hx)
theorem Sim.pure {a : α} {b : β} {R : Wd → β → α → Prop} (h : ∀ W', Ext W W' → R W' b a) : Sim g W (Pure.pure a) (Pure.pure b : M β) R :=
  fun _ W₁ mm st s _ _ _ hx hS hP => wpAny_pure (hP W₁ mm s a (Ext.refl _) hS (Same.refl _) (h _ hx))
theorem Sim.bind {t : Sem α} {f : α → Sem γ} {m : M β} {k : β → M δ} {R : Wd → β → α → Prop} {R' : Wd → δ → γ → Prop}
    (h : Sim g W t m R) (h' : ∀ W₁ b a, Ext W W₁ → R W₁ b a → Sim g W₁ (f a) (k b) R') : Sim g W (t >>= f) (m >>= k) R' :=
  fun A W₁ mm st s Q E hA hx hS hP => wpAny_bind (h A W₁ mm st s _ E hA hx hS (hP.bind fun b st' W' mm' s' a hx' hS' _ hr hP' => h' W' b a (hx.trans hx') hr A W' mm' st' s' Q E hA (Ext.refl _) hS' hP'))

/-- another tree that is as good -/
theorem Sim.via {t t' : Sem α} {m : M β} {R : Wd → β → α → Prop} (hw : ∀ A Q E s, wpAny (model g.c.prog g.c.w) A t' Q E s → wpAny (model g.c.prog g.c.w) A t Q E s) (h : Sim g W t' m R) : Sim g W t m R :=
  fun A W₁ mm st s Q E hA hx hS hP => hw _ _ _ _ (h A W₁ mm st s Q E hA hx hS hP)
theorem Sim.eqM {t : Sem α} {m m' : M β} {R : Wd → β → α → Prop} (e : m' = m) (h : Sim g W t m R) : Sim g W t m' R := e ▸ h
theorem Sim.holding {vs : List Value} {t : Sem α} {m : M β} {R : Wd → β → α → Prop} (h : Sim g W t m R) : Sim g W (holding vs t) m R := h.via fun _ _ _ _ => wpAny_holding
theorem Sim.standAt {p : Pos} {f : Unit → Sem α} {m : M β} {R : Wd → β → α → Prop} (h : Sim g W (f ()) m R) : Sim g W (PySem.standAt p >>= f) m R := h.via fun _ _ _ _ x => wpAny_bind (wpAny_standAt x)
theorem Sim.rule {p : String} {f : Unit → Sem α} {m : M β} {R : Wd → β → α → Prop} (h : Sim g W (f ()) m R) : Sim g W (PySem.rule p >>= f) m R := h.via fun _ _ _ _ x => wpAny_bind (wpAny_rule x)
theorem Sim.skip {f : Unit → Sem α} {m : M β} {R : Wd → β → α → Prop} (h : Sim g W (f ()) m R) : Sim g W (Pure.pure () >>= f) m R := h.via fun _ _ _ _ x => wpAny_bind (wpAny_pure x)
theorem Sim.operate {vs : List Value} {t : Sem Value} {m : M β} {R : Wd → β → Value → Prop} (h : Sim g W t m R) : Sim g W (operate vs t) m R :=
  h.via fun _ _ _ _ x Γ p hΓ => by rw [Sem.wp_operate]; exact x Γ p hΓ
theorem Sim.tail {t : Sem α} {m : M β} {k : β → δ} {f : α → γ} {R : Wd → β → α → Prop} {R' : Wd → δ → γ → Prop} (h : Sim g W t m R) (hr : ∀ W' b a, Ext W W' → R W' b a → ∀ W'', Ext W' W'' → R' W'' (k b) (f a)) :
    Sim g W (t >>= fun a => Pure.pure (f a)) (m >>= fun b => (Pure.pure (k b) : M δ)) R' :=
  h.bind fun W₁ b a hx hR => Sim.pure (hr W₁ b a hx hR)
/-- a tail on the tree alone -/
theorem Sim.tailT {t : Sem α} {m : M β} {f : α → Sem γ} {R : Wd → β → α → Prop} {R' : Wd → β → γ → Prop} (h : Sim g W t m R)
    (hr : ∀ W' b a, Ext W W' → R W' b a → Sim g W' (f a) (Pure.pure b : M β) R') : Sim g W (t >>= f) m R' := by
  have e : m = (m >>= fun b => (Pure.pure b : M β)) := by
    funext st
    show m st = (match m st with | .fail => .fail | .ok a s' => .ok a s' | .exc x s' => .exc x s')
    cases m st <;> rfl
  rw [e]
  exact h.bind hr
end

/-- in a leaf: the state moves on -/
theorem St.toks {g : G} {W : Wd} {m : Str → Option Value} {st : S} {s : Shared} (h : St g W m st s) (t : Nat) : St g W m st { s with toks := t } := ⟨h.inv, h.next, h.loc⟩

/-- what an environment is to its abstract one -/
structure EnvOk (g : G) (W : Wd) (ev : AEnv) (env : Env) : Prop where
  kind : env.scope.kind = .function
  names : ∀ x, env.scope.names.lookup x = ev.names.lookup x
  globals : env.globals = mainGlobals
  builtins : env.builtins = builtinsNs
  locals : env.locals = g.L
  hd : ev.hd = g.hd
theorem EnvOk.ext {g : G} {W W' : Wd} {ev : AEnv} {env : Env} (x : Ext W W') (h : EnvOk g W ev env) : EnvOk g W' ev env :=
  ⟨h.kind, h.names, h.globals, h.builtins, h.locals, h.hd⟩

section
variable {g : G} {W : Wd} {ev : AEnv} {env : Env}

/-! constants -/
theorem sim_int {i : Int} : Sim g W (mkInt i) (pure (.int i) : M V) VR := fun A W₁ mm st s Q E hA hx hS hP =>
  wpAny_mkInt (hP W₁ mm _ _ (Ext.refl _) (hS.toks _) Same.toks ⟨_, rfl⟩)
theorem sim_text {x : Str} : Sim g W (mkText x) (pure (.str x) : M V) VR := fun A W₁ mm st s Q E hA hx hS hP =>
  wpAny_mkText (hP W₁ mm _ _ (Ext.refl _) (hS.toks _) Same.toks ⟨_, rfl⟩)
theorem kindOf_eq (O : EnvOk g W ev env) (x : Str) : env.kindOf x = ev.names.lookup x := O.names x

/-! names -/
theorem Post.ite {α β : Type} {p : Prop} [Decidable p] {s : Shared} {st : S} {m : M β} {R : Wd → β → α → Prop} {Q : α → Shared → Prop} {E : Value → Shared → Prop} (h : Post g W s R Q E ((if p then m else failM) st)) : p ∧ Post g W s R Q E (m st) := by
  by_cases q : p
  · rw [if_pos q] at h; exact ⟨q, h⟩
  · rw [if_neg q] at h; exact h.elim
theorem Post.itn {α β : Type} {p : Prop} [Decidable p] {s : Shared} {st : S} {m : M β} {R : Wd → β → α → Prop} {Q : α → Shared → Prop} {E : Value → Shared → Prop} (h : Post g W s R Q E ((if p then failM else m) st)) : ¬ p ∧ Post g W s R Q E (m st) := by
  by_cases q : p
  · rw [if_pos q] at h; exact h.elim
  · rw [if_neg q] at h; exact ⟨q, h⟩
theorem Post.get {α β γ : Type} {s : Shared} {st : S} {f : S → Option γ} {k : γ → M β} {R : Wd → β → α → Prop} {Q : α → Shared → Prop} {E : Value → Shared → Prop} (h : Post g W s R Q E ((getM f >>= k) st)) : ∃ a, f st = some a ∧ Post g W s R Q E (k a st) := by
  have e : (getM f >>= k) st = (match f st with | some a => k a st | none => Mine.R.fail) := by
    show (match (match f st with | some a => Mine.R.ok a st | none => Mine.R.fail) with | .fail => Mine.R.fail | .ok a s' => k a s' | .exc x s' => .exc x s') = _
    cases f st <;> rfl
  rw [e] at h
  cases q : f st with
  | none => rw [q] at h; exact h.elim
  | some a => rw [q] at h; exact ⟨a, rfl, h⟩
theorem Post.get0 {α β : Type} {s : Shared} {st : S} {f : S → Option β} {R : Wd → β → α → Prop} {Q : α → Shared → Prop} {E : Value → Shared → Prop} (h : Post g W s R Q E (getM f st)) : ∃ a, f st = some a ∧ Post g W s R Q E (.ok a st) := by
  unfold getM at h
  cases q : f st with
  | none => rw [q] at h; exact h.elim
  | some a => rw [q] at h; exact ⟨a, rfl, h⟩

theorem sim_load (O : EnvOk g W ev env) {x : Str} {pos : Pos} : Sim g W (eval (.Name x pos) env) (loadV ev x) VR := by
  intro A W₁ mm st s Q E hA hx hS hP
  obtain ⟨hdb, hP⟩ := Post.itn hP
  obtain ⟨hk, hP⟩ := Post.ite hP
  obtain ⟨v, hl, hP⟩ := Post.get0 hP
  obtain ⟨u, hu, hr⟩ := hS.loc x v hl
  refine wpAny_Name (wpAny_loadName_local (m := mm) O.kind ((kindOf_eq O x).trans hk) ?_ hu (hP W₁ mm s u (Ext.refl _) hS (Same.refl _) hr)) (beq_eq_false_iff_ne.mpr hdb)
  rw [O.locals]; exact hS.inv.frs _ (.head _)

theorem sim_store (O : EnvOk g W ev env) {x : Str} {v : V} {u : Value} (hv : VRel W v u) : Sim g W (storeName env x u) (storeV ev x v) (fun _ _ _ => True) := by
  intro A W₁ mm st s Q E hA hx hS hP
  obtain ⟨hk, hP⟩ := Post.ite hP
  have hn := hS.inv.frs _ (.head _)
  dsimp only at hn
  rw [← O.locals] at hn
  refine wpAny_storeName_local (m := mm) ((kindOf_eq O x).trans hk) hn (fun h' hn' hs => ?_) (by rw [O.kind]; rfl)
  rw [O.locals] at hn' hs
  refine hP W₁ _ _ () (Ext.refl _) ⟨hS.inv.setFrame hs hn', hS.next, fun y w hy => ?_⟩ Same.mk' trivial
  dsimp only [updL] at hy
  by_cases hyx : y = x
  · rw [if_pos hyx] at hy; cases hy
    exact ⟨u, if_pos hyx, hv.ext hx⟩
  · rw [if_neg hyx] at hy
    obtain ⟨z, hz, hr⟩ := hS.loc y w hy
    exact ⟨z, (if_neg hyx).trans hz, hr⟩

theorem sim_bindName (O : EnvOk g W ev env) {x : Str} {v : V} {u : Value} (hv : VRel W v u) : Sim g W (bindName env x u) (storeV ev x v) (fun _ _ _ => True) :=
  (sim_store O hv).via fun _ _ _ _ => wpAny_bindName
end
end Mine
end

section
open PySem PySem.W PySem.Calls PyProof.Rows
set_option maxRecDepth 100000
set_option linter.unusedVariables false
set_option linter.unusedSimpArgs false
namespace Mine

theorem listAt_some {h : Nat → Option AObj} {i : Nat} {xs : List V} (e : listAt h i = some xs) : h i = some (.list xs) := by
  unfold listAt at e
  split at e
  · rename_i q; rw [q]; cases e; rfl
  · cases e
theorem instAt_some {h : Nat → Option AObj} {i : Nat} {xs : List (Str × V)} (e : instAt h i = some xs) : h i = some (.inst xs) := by
  unfold instAt at e
  split at e
  · rename_i q; rw [q]; cases e; rfl
  · cases e
theorem seqAt_some {h : Nat → Option AObj} {i : Nat} {xs : List V} (e : seqAt h i = some xs) : h i = some (.list xs) ∨ h i = some (.ro xs) := by
  unfold seqAt at e
  split at e
  · rename_i q; cases e; exact .inl q
  · rename_i q; cases e; exact .inr q
  · cases e
theorem refOf_some {v : V} {i : Nat} (e : refOf v = some i) : v = .ref i := by
  cases v with
  | ref j => cases e; rfl
  | _ => cases e
theorem intOf_some {v : V} {i : Int} (e : intOf v = some i) : v = .int i := by
  cases v with
  | int j => cases e; rfl
  | _ => cases e
theorem intPair_some {a b : V} {x y : Int} (e : intPair a b = some (x, y)) : a = .int x ∧ b = .int y := by
  unfold intPair at e
  split at e
  · rename_i q
    split at e
    · rename_i q'; cases e; exact ⟨intOf_some q, intOf_some q'⟩
    · cases e
  · cases e

/-- a state with a new object -/
theorem St.alloc {g : G} {W : Wd} {m : Str → Option Value} {st : S} {s : Shared} (hS : St g W m st s) {ob : Obj} {o : AObj} (hn : ∀ fs, o ≠ .inst fs)
    (ho : OAt g.c (W.add s.heap.objs.size 0 false) (s.heap.push ob) W.n o) (hw : o.own := by trivial) :
    St g (W.add s.heap.objs.size 0 false) m { st with heap := upd st.heap st.next o, next := st.next + 1 } { s with heap := s.heap.push ob } := by
  refine ⟨?_, congrArg (· + 1) hS.next, hS.loc.ext (W.ext_add _ _ _)⟩
  have := hS.inv.alloc hn ho hw
  rw [hS.next]; exact this
theorem St.ref {g : G} {W : Wd} {m : Str → Option Value} {st : S} {s : Shared} (hS : St g W m st s) : VRel (W.add s.heap.objs.size 0 false) (.ref st.next) (.ref s.heap.objs.size) := by
  rw [hS.next]
  exact ⟨Nat.lt_succ_self _, by rw [Wd.ρ_add]⟩

theorem OAt.isList {c : Cx} {W : Wd} {h : Heap} {i : Nat} {xs : List V} (H : OAt c W h i (.list xs)) : ∃ vs, h.IsList (W.ρ i) (List.toArray vs) ∧ VsRel W xs vs := by
  obtain ⟨vs, n, a, b⟩ := H
  exact ⟨vs, ⟨_, a, rfl, n, rfl⟩, b⟩
theorem OAt.isRo {c : Cx} {W : Wd} {h : Heap} {i : Nat} {xs : List V} (H : OAt c W h i (.ro xs)) (k : c.base.StaysIn h) : ∃ vs, h.IsList (W.ρ i) (List.toArray vs) ∧ VsRel W xs vs := by
  obtain ⟨vs, ⟨o, ho, r⟩, b⟩ := H
  exact ⟨vs, ⟨o, k _ _ ho, r⟩, b⟩

section
variable {g : G} {W : Wd}

theorem St.list {m : Str → Option Value} {st : S} {s : Shared} (hS : St g W m st s) {i : Nat} {xs : List V} (e : listAt st.heap i = some xs) : ∃ vs, s.heap.IsList (W.ρ i) (List.toArray vs) ∧ VsRel W xs vs := (hS.inv.own i _ (listAt_some e)).isList
theorem St.seq {m : Str → Option Value} {st : S} {s : Shared} (hS : St g W m st s) {i : Nat} {xs : List V} (e : seqAt st.heap i = some xs) : ∃ vs, s.heap.IsList (W.ρ i) (List.toArray vs) ∧ VsRel W xs vs := by
  rcases seqAt_some e with q | q
  · exact (hS.inv.own i _ q).isList
  · exact (hS.inv.own i _ q).isRo hS.inv.stays

theorem sim_newList {vs : List V} {us : List Value} (h : VsRel W vs us) (hz : us.length ≤ sizeLine) : Sim g W (newList us) (alRef (.list vs)) VR := by
  intro A W₁ mm st s Q E hA hx hS hP
  refine wpAny_newList ?_ (by simpa using hz)
  exact hP _ mm _ _ (W₁.ext_add _ _ _) (hS.alloc (fun _ e => nomatch e) ⟨us, 0, by rw [Wd.ρ_add]; exact Heap.get?_push_size _ rfl, (h.ext hx).ext (W₁.ext_add _ _ _)⟩) Same.heap hS.ref
theorem sim_newTuple {vs : List V} {us : List Value} (h : VsRel W vs us) (hz : us.length ≤ sizeLine) : Sim g W (newTuple us) (alRef (.tup vs)) VR := by
  intro A W₁ mm st s Q E hA hx hS hP
  refine wpAny_newTuple ?_ (by simpa using hz)
  exact hP _ mm _ _ (W₁.ext_add _ _ _) (hS.alloc (fun _ e => nomatch e) ⟨us, 0, by rw [Wd.ρ_add]; exact Heap.get?_push_size _ rfl, (h.ext hx).ext (W₁.ext_add _ _ _)⟩) Same.heap hS.ref

theorem VsRel.empty : ∀ {xs : List V} {vs : List Value}, VsRel W xs vs → xs.isEmpty = vs.isEmpty
  | [], [], _ => rfl
  | _ :: _, _ :: _, _ => rfl
  | [], _ :: _, h => h.elim
  | _ :: _, [], h => h.elim

theorem sim_truthy {v : V} {u : Value} (hv : VRel W v u) : Sim g W (truthy u) (truthyV v) (fun _ b b' => b' = b) := by
  intro A W₁ mm st s Q E hA hx hS hP
  cases v with
  | bool b =>
    obtain rfl : u = .bool b := hv
    exact wpAny_truthy_bool (hP W₁ mm s b (Ext.refl _) hS (Same.refl _) rfl)
  | ref i =>
    obtain ⟨hi, rfl⟩ := hv.ext hx
    obtain ⟨xs, hxs, hP⟩ := Post.get hP
    obtain ⟨hl, hP⟩ := Post.ite hP
    obtain ⟨vs, hL, hr⟩ := hS.seq hxs
    refine wpAny_truthy_list hL (by rw [List.size_toArray, ← hr.length]; omega) ?_
    refine hP W₁ mm _ _ (Ext.refl _) (hS.toks _) Same.toks ?_
    rw [hr.empty]
    cases vs <;> rfl
  | _ => exact hP.elim

theorem sim_binI {op : Operator} {x y : Int} {t t' : Tok} : Sim g W (binaryOp op (.int x t) (.int y t')) (binI op x y) VR := by
  intro A W₁ mm st s Q E hA hx hS hP
  cases op with
  | Add => exact add_int (hP W₁ mm _ _ (Ext.refl _) (hS.toks _) Same.toks ⟨_, rfl⟩)
  | Sub => exact sub_int (hP W₁ mm _ _ (Ext.refl _) (hS.toks _) Same.toks ⟨_, rfl⟩)
  | Mod =>
    obtain ⟨h0, hP⟩ := Post.itn hP
    exact mod_int' h0 (hP W₁ mm _ _ (Ext.refl _) (hS.toks _) Same.toks ⟨_, rfl⟩)
  | Pow =>
    obtain ⟨⟨h1, h2, rfl⟩, hP⟩ := Post.ite hP
    refine pow_int h1 ?_ (hP W₁ mm _ _ (Ext.refl _) (hS.toks _) Same.toks ⟨_, rfl⟩)
    have : Builtin.Int.intBits 10 = 4 := by decide +kernel
    rw [this]; omega
  | _ => exact hP.elim

theorem isAdd_eq {op : Operator} (h : isAdd op = true) : op = .Add := by
  cases op <;> first | rfl | cases h

theorem sim_cat {i j : Nat} (hi : i < W.n) (hj : j < W.n) : Sim g W (binaryOp .Add (.ref (W.ρ i)) (.ref (W.ρ j))) (rdL i >>= fun xs => rdL j >>= fun ys => if xs.length + ys.length < 100000 then alRef (.list (xs ++ ys)) else failM) VR := by
  intro A W₁ mm st s Q E hA hx hS hP
  obtain ⟨xs, hxs, hP⟩ := Post.get hP
  obtain ⟨ys, hys, hP⟩ := Post.get hP
  obtain ⟨hl, hP⟩ := Post.ite hP
  obtain ⟨vs, hL, hr⟩ := hS.list hxs
  obtain ⟨vs', hL', hr'⟩ := hS.list hys
  rw [hx.eq i hi] at hL
  rw [hx.eq j hj] at hL'
  have h1 := hr.length
  have h2 := hr'.length
  obtain ⟨rest, N, hne, hlt, hback⟩ := hS.inv.capture s.heap.objs.size
  refine add_arrays hS.inv.toFr N hL hL' (fun h' F' N' => ?_) (by rw [List.size_toArray, List.size_toArray, sizeLine_eq]; omega)
  have hI := hS.inv.allocOf (o := .list (xs ++ ys)) (Nat.le_refl _) F' N' hback (fun _ e => nomatch e) fun e => ⟨vs ++ vs', 0, by rw [Wd.ρ_add]; exact e, (hr.append hr').ext (W₁.ext_add _ _ _)⟩
  refine hP _ mm _ _ (W₁.ext_add _ _ _) ⟨?_, congrArg (· + 1) hS.next, hS.loc.ext (W₁.ext_add _ _ _)⟩ Same.heap hS.ref
  rw [← hS.next] at hI; exact hI

theorem sim_bin {op : Operator} {v w : V} {u z : Value} (hv : VRel W v u) (hw : VRel W w z) : Sim g W (binaryOp op u z) (binV op v w) VR := by
  unfold binV
  cases hp : intPair v w with
  | some p =>
    obtain ⟨rfl, rfl⟩ := intPair_some hp
    obtain ⟨t, rfl⟩ := hv
    obtain ⟨t', rfl⟩ := hw
    exact sim_binI
  | none =>
    intro A W₁ mm st s Q E hA hx hS hP
    obtain ⟨ha, hP⟩ := Post.ite hP
    obtain rfl := isAdd_eq ha
    obtain ⟨i, hi, hP⟩ := Post.get hP
    obtain ⟨j, hj, hP⟩ := Post.get hP
    obtain rfl := refOf_some hi
    obtain rfl := refOf_some hj
    obtain ⟨hi, rfl⟩ := hv
    obtain ⟨hj, rfl⟩ := hw
    exact sim_cat hi hj A W₁ mm st s Q E hA hx hS hP
end
end Mine
end

section
open PySem PySem.W PySem.Calls PyProof.Rows
set_option maxRecDepth 100000
set_option linter.unusedVariables false
set_option linter.unusedSimpArgs false
namespace Mine

noncomputable def FAddr (c : Cx) : FId → Addr → Prop
  | .glob n, fa => nsIn c.K mainGlobals n = some (some (.ref fa))
  | .meth n, fa => findIn c.K (.ref c.C) n = some (some (.ref fa)) ∧ isFn c.K (.ref fa) = true
  | .getW, fa => ∃ p rest, findIn c.K (.ref c.C) wName = some (some (.ref p)) ∧ recIn c.K p "property" = some (.ref fa :: rest)
  | .setW, fa => ∃ p a rest, findIn c.K (.ref c.C) wName = some (some (.ref p)) ∧ recIn c.K p "property" = some (a :: .ref fa :: rest)

noncomputable def bindR (params : List Str) (dvs pos : List Value) : Option (List Value) :=
  if pos.length ≤ params.length ∧ params.length ≤ pos.length + dvs.length then some (pos ++ dvs.drop (pos.length + dvs.length - params.length)) else none

theorem bind_rel {W : Wd} {code : FnC} {dvs : List Value} (hd : VsRel W code.defaults dvs) {pos : List V} {pos' : List Value} (hp : VsRel W pos pos')
    {vs : List V} (e : bindV code pos [] = some vs) : ∃ us, bindR code.params dvs pos' = some us ∧ VsRel W vs us := by
  have l1 := hp.length
  have l2 := hd.length
  by_cases q : pos.length ≤ code.params.length ∧ code.params.length ≤ pos.length + code.defaults.length
  · have e' : vs = pos ++ code.defaults.drop (pos.length + code.defaults.length - code.params.length) := Option.some.inj (e.symm.trans (if_pos q))
    rw [e', l1, l2]
    exact ⟨_, if_pos (by rw [← l1, ← l2]; exact q), hp.append hd.drop⟩
  · exact nomatch e.symm.trans (if_neg q)

structure FnOk (c : Cx) (code : FnC) (fa : Addr) : Prop where
  fn : ∃ oc od osl name qual params dV kV doc pm an cdv ct dvs,
    c.K.lookup fa = some ⟨oc, od, .func (fnOf name qual params code.body code.scope dV kV doc pm an cdv ct), osl⟩ ∧ codeIn c.K cdv qual = true ∧ (∀ W, VsRel W code.defaults dvs) ∧
    (∀ (s : Shared) (pos : List Value) (us : List Value), c.K.In s.heap → bindR code.params dvs pos = some us → BindsTo s (fnOf name qual params code.body code.scope dV kV doc pm an cdv ct) ⟨pos, []⟩ (code.params.zip us))
  co : code.scope.isCoroutine = false
  gen : code.scope.isGenerator = false
  kind : code.scope.kind = .function
  nodup : code.params.Nodup
  par : ∀ x ∈ code.params, code.scope.names.lookup x = some .local ∨ code.scope.names.lookup x = some .cell

/-- what is known of the text's own objects -/
structure CxOk (c : Cx) : Prop where
  X : c.K.In c.base
  g : ∃ mg mb, c.base.Ns mainGlobals mg ∧ c.base.Ns builtinsNs mb ∧ ∀ x : Str, x ≠ "__name__" → mb x = bootBuiltins x
  lim : c.base.NoLimit
  get : ∀ n, plainGet c.K c.C n = true
  hasDict : hasDictIn c.K c.C = true
  setattr : findIn c.K (.ref c.C) "__setattr__" = some (some (.builtin "object.__setattr__"))
  over : plainOver c.K c.C = true
  makes : makesIn c.K c.C = true
  keep : keepIn c.K (.ref c.C) = true
  stream : nsIn c.K mainGlobals "Stream" = some (some (.ref c.C))
  fields : ∀ x ∈ c.P.fields, findIn c.K (.ref c.C) x = some none ∧ takerIn c.K c.C x = some none
  weight : ∃ mg, c.base.Ns mainGlobals mg ∧ ∃ a Bn newE inN bmN B nid ini bmB, nsIn c.K mainGlobals "BadWeightError" = some (some (.ref a)) ∧ ExcBaseFacts Bn newE inN bmN ∧ bmB.contains (.type Bn) = true ∧ ExcBaseFacts B nid ini bmB ∧ OwnCls "BadWeightError" a bmB newE mg c.base
  dbg : c.P.code (.glob "__debug__") = none
  fn : ∀ f code, c.P.code f = some code → ∃ fa, FAddr c f fa ∧ FnOk c code fa
  prop : ∃ p, findIn c.K (.ref c.C) wName = some (some (.ref p)) ∧ specialIn c.K (.ref p) "__get__" = some (some (.builtin "property.__get__")) ∧ takesIn c.K (.ref p) = some true ∧
    takerIn c.K c.C wName = some (some (.ref p)) ∧ typeIn c.K (.ref p) = some (.type "property")
  frees : ∀ n ∈ (["len", "abs", "isinstance", "int", "zip"] : List Str), nsIn c.K mainGlobals n = some none
  isi : kitOne c.K (.type "int") (.type "int") = some true ∧ kitOne c.K (.type "int") (.ref c.C) = some false ∧ kitOne c.K (.ref c.C) (.ref c.C) = some true
  isiC : findIn c.K (.ref c.C) "__class__" = some (some (.builtin "object.__class__")) ∧ specialIn c.K (.builtin "object.__class__") "__get__" = some (some (.builtin "getset_descriptor.__get__")) ∧
    takesIn c.K (.builtin "object.__class__") = some true ∧ mroIn c.K c.C (.type "object") = some true
  subInt : subIn c.K (.type "int") (.ref c.C) = some false

/-- a call does what m says -/
noncomputable def SimC (g : G) (W₀ : Wd) (code : Code) (m : M V) : Prop :=
  ∀ (A : Around) (W : Wd) (mm : Str → Option Value) (st : S) (s : Shared) (Rr : Result → Shared → Prop),
    AOk g A → Ext W₀ W → St g W mm st s → Post g W s VRel (fun a s' => Rr (.ok (.ret a)) s') (fun e s' => Rr (.error e) s') (m st) → codeAny (model g.c.prog g.c.w) A code Rr s

/-- all calls of the text's own defs are served, d deep -/
noncomputable def FnSim (c : Cx) (d : Nat) : Prop :=
  ∀ (f : FId) (code : FnC) (fa : Addr) (g : G) (W : Wd) (vs : List V) (us : List Value),
    c.P.code f = some code → FnOk c code fa → g.c = c → g.d = d → VsRel W vs us → SimC g W (.call (.ref fa) ⟨us, []⟩) (callF c.P (phi c.P d) g.hd f vs [])

theorem SimC.sim {g : G} {W : Wd} {f : Value} {us : List Value} {m : M V} (h : SimC g W (.call f ⟨us, []⟩) m) : Sim g W (call f us []) m VR :=
  fun A W₁ mm st s Q E hA hx hS hP => wpAny_call (h A W₁ mm st s _ hA hx hS hP)

/-- one activation of a built-in further -/
noncomputable def G.up (g : G) : G := { g with k := g.k + 1 }
theorem AOk.up {g : G} {A : Around} (h : AOk g A) (hk : g.k + 1 ≤ 6) : AOk g.up A.in1 where
  fo := h.fo
  frames := h.frames
  hd := h.hd
  k := hk
  depth := Nat.le_succ_of_le h.depth
  units := by have := h.units; show A.units + 1 + 60 * g.d ≤ 9800 + (g.k + 1); omega
theorem St.up {g : G} {W : Wd} {m : Str → Option Value} {st : S} {s : Shared} (h : St g W m st s) : St g.up W m st s := ⟨h.inv, h.next, h.loc⟩
theorem St.down {g : G} {W : Wd} {m : Str → Option Value} {st : S} {s : Shared} (h : St g.up W m st s) : St g W m st s := ⟨h.inv, h.next, h.loc⟩
theorem AOk.room {g : G} {A : Around} (h : AOk g A) : A.units + 64 < cLine := by
  have h1 := h.units
  have h2 := h.k
  have : cLine = 9900 := by decide
  omega
theorem AOk.depthLt {g : G} {A : Around} (h : AOk g A) : A.depth < recursionLimit := by
  have h1 := h.depth
  have h2 := h.k
  have : recursionLimit = 1000 := by decide
  omega

section
variable {g : G} {W : Wd} {ev : AEnv} {env : Env}

theorem glob_kind (O : EnvOk g W ev env) {f : Str} (hf : isGlobal ev f = true) : env.kindOf f = some .globalImplicit := by
  unfold isGlobal at hf
  rw [kindOf_eq O]
  split at hf
  · assumption
  · cases hf

theorem sim_glob (C : CxOk g.c) (O : EnvOk g W ev env) {f : Str} {pos : Pos} {v : Value} (hf : isGlobal ev f = true) (hv : nsIn g.c.K mainGlobals f = some (some v)) (hd : (f == ("__debug__" : Str)) = false) :
    Sim g W (eval (.Name f pos) env) (pure () : M Unit) (fun _ _ u => u = v) := by
  intro A W₁ mm st s Q E hA hx hS hP
  obtain ⟨mg, mb, hg, hb, hbt⟩ := C.g
  have := mg_of C.X hg hv
  refine Name_function_global O.kind (glob_kind O hf) (loadGlobal_global (mg := mg) ?_ this ?_) hd
  · rw [O.globals]; exact hg.keeps hS.inv.stays
  · exact hP W₁ mm s v (Ext.refl _) hS (Same.refl _) rfl

theorem sim_boot (C : CxOk g.c) (O : EnvOk g W ev env) {f : Str} {pos : Pos} {v : Value} (hf : isGlobal ev f = true) (hn : nsIn g.c.K mainGlobals f = some none) (hv : bootBuiltins f = some v) (hnm : f ≠ "__name__") (hd : (f == ("__debug__" : Str)) = false) :
    Sim g W (eval (.Name f pos) env) (pure () : M Unit) (fun _ _ u => u = v) := by
  intro A W₁ mm st s Q E hA hx hS hP
  obtain ⟨mg, mb, hg, hb, hbt⟩ := C.g
  have := mg_none_of C.X hg hn
  refine Name_function_global O.kind (glob_kind O hf) (loadGlobal_builtin (mg := mg) (mb := mb) ?_ this ?_ ((hbt f hnm).trans hv) ?_) hd
  · rw [O.globals]; exact hg.keeps hS.inv.stays
  · rw [O.builtins]; exact hb.keeps hS.inv.stays
  · exact hP W₁ mm s v (Ext.refl _) hS (Same.refl _) rfl

/-! comparisons of data -/
theorem readsAll_of {h : Heap} {σ : Nat → Option AObj} {W : Wd} {n : Nat} (ih : ∀ (v : V) (u : Value) (d : PyData), pyOf n σ v = some d → VRel W v u → ∃ as, Reads h u d as) : ∀ (vs : List V) (us : List Value) (ds : List PyData), optAll (vs.map (pyOf n σ)) = some ds → VsRel W vs us → ∃ as, ReadsAll h us ds as
  | [], [], ds, e, _ => by cases e; exact ⟨_, .nil⟩
  | v :: vs, u :: us, ds, e, hv => by
    cases e1 : pyOf n σ v with
    | none => rw [List.map_cons, e1] at e; exact nomatch e
    | some d =>
      rw [List.map_cons, e1] at e
      obtain ⟨dr, e2, rfl⟩ := Option.map_eq_some_iff.mp e
      obtain ⟨as, r⟩ := ih v u d e1 hv.1
      obtain ⟨bs, r'⟩ := readsAll_of ih vs us dr e2 hv.2
      exact ⟨_, .cons r r'⟩
  | [], _ :: _, _, _, h => h.elim
  | _ :: _, [], _, _, h => h.elim
theorem reads_of {c : Cx} {fr : Frs} {pins : List (Addr × Obj)} {W : Wd} {σ : Nat → Option AObj} {h : Heap} (I : Inv c fr pins W σ h) : ∀ (n : Nat) (v : V) (u : Value) (d : PyData), pyOf n σ v = some d → VRel W v u → ∃ as, Reads h u d as
  | 0, _, _, _, e, _ => nomatch e
  | n + 1, v, u, d, e, hv => by
    cases v with
    | none => cases e; obtain rfl : u = .none := hv; exact ⟨_, .none⟩
    | bool b => cases e; obtain rfl : u = .bool b := hv; exact ⟨_, .bool _⟩
    | int i => cases e; obtain ⟨t, rfl⟩ := hv; exact ⟨_, .int _ _⟩
    | str x => cases e; obtain ⟨t, rfl⟩ := hv; exact ⟨_, .str _ _⟩
    | bytes _ => exact nomatch e
    | ref i =>
      obtain ⟨hi, rfl⟩ := hv
      have e' : pyObj (pyOf n σ) (σ i) = some d := e
      cases ho : σ i with
      | none => rw [ho] at e'; exact nomatch e'
      | some o =>
        rw [ho] at e'
        cases o with
        | list xs =>
          obtain ⟨ds, e1, rfl⟩ := Option.map_eq_some_iff.mp e'
          obtain ⟨vs, k, a, b⟩ := I.own i _ ho
          obtain ⟨as, r⟩ := readsAll_of (reads_of I n) xs vs ds e1 b
          exact ⟨_, .list a rfl rfl r⟩
        | tup xs =>
          obtain ⟨ds, e1, rfl⟩ := Option.map_eq_some_iff.mp e'
          obtain ⟨vs, k, a, b⟩ := I.own i _ ho
          obtain ⟨as, r⟩ := readsAll_of (reads_of I n) xs vs ds e1 b
          exact ⟨_, .tuple a rfl rfl r⟩
        | _ => exact nomatch e'
end
end Mine
end

section
open PySem PySem.W PySem.Calls PyProof.Rows
set_option maxRecDepth 100000
set_option linter.unusedVariables false
set_option linter.unusedSimpArgs false
namespace Mine

section
variable {g : G} {W : Wd}

/-- is it None -/
theorem none_rel {v : V} {u : Value} (hv : VRel W v u) : plainIs u .none = true ∧ (u == Value.none) = isNone v := by
  cases v with
  | none => obtain rfl : u = .none := hv; exact ⟨rfl, rfl⟩
  | bool b => obtain rfl : u = .bool b := hv; exact ⟨rfl, rfl⟩
  | int i => obtain ⟨t, rfl⟩ := hv; exact ⟨rfl, rfl⟩
  | str i => obtain ⟨t, rfl⟩ := hv; exact ⟨rfl, rfl⟩
  | bytes i => obtain ⟨t, rfl⟩ := hv; exact ⟨rfl, rfl⟩
  | ref i => obtain ⟨t, rfl⟩ := hv; exact ⟨rfl, rfl⟩
theorem isNone_eq {v : V} (h : isNone v = true) : v = .none := by
  cases v <;> first | rfl | cases h
theorem compare_is {op : CmpOp} {v w o : V} {u z : Value} (e : isV op v w = some o) (hv : VRel W v u) (hw : VRel W w z) : Sim g W (compareOp op u z) (pure o : M V) VR := by
  intro A W₁ mm st s Q E hA hx hS hP
  obtain ⟨pl, eq⟩ := none_rel hv
  have fin : ∀ b, o = .bool b → Q (.bool b) s := fun b e => by subst e; exact hP W₁ mm s _ (Ext.refl _) hS (Same.refl _) rfl
  unfold isV at e
  split at e
  · obtain rfl : z = .none := hw
    exact wpAny_is_plain pl (fin _ (by rw [eq]; exact (Option.some.inj e).symm))
  · obtain rfl : z = .none := hw
    exact wpAny_isNot_plain pl (fin _ (by rw [eq]; exact (Option.some.inj e).symm))
  · cases e

theorem callF_code {P : PI} {Φ : Phi} {hd : Bool} {f : FId} {vs : List V} {kw : List (Str × V)} {st : S} {α : Type} {s : Shared} {Rel : Wd → V → α → Prop} {Q : α → Shared → Prop} {E : Value → Shared → Prop} (h : Post g W s Rel Q E (callF P Φ hd f vs kw st)) : ∃ code, P.code f = some code := by
  unfold callF at h
  cases q : P.code f with
  | none => rw [q] at h; exact h.elim
  | some c => exact ⟨c, rfl⟩

theorem inst_at {c : Cx} {fr : Frs} {pins : List (Addr × Obj)} {W : Wd} {σ : Nat → Option AObj} {h : Heap} (I : Inv c fr pins W σ h) {i : Nat} {fs : List (Str × V)} (hi : σ i = some (.inst fs)) :
    ∃ ds n, PySem.W.InstAt h (W.ρ i) (instObj c.C (W.δ i)) c.C (some (dictOf ds n)) ∧ FRel W fs ds := by
  obtain ⟨ds, n, a, b, d⟩ := I.own i _ hi
  exact ⟨ds, n, ⟨a, rfl, rfl, b⟩, d⟩
theorem isInst_some {h : Nat → Option AObj} {v : V} (e : isInst h v = true) : ∃ i fs, v = .ref i ∧ h i = some (.inst fs) := by
  unfold isInst at e
  split at e
  · rename_i i q
    obtain ⟨fs, e⟩ := Option.isSome_iff_exists.mp e
    exact ⟨i, fs, refOf_some q, instAt_some e⟩
  · cases e

/-- the type of the right side is not asked first -/
theorem right_at (C : CxOk g.c) {m : Str → Option Value} {st : S} {s : Shared} (hS : St g W m st s) {w : V} {z : Value} (hw : VRel W w z) (hb : (isInst st.heap w || isIntV w) = true) : ∃ tb, Looks (model g.c.prog g.c.w) s.heap (typeOf z) tb ∧ notFirst g.c.K g.c.C tb = true := by
  cases hi : isIntV w with
  | true =>
    obtain ⟨x, hx⟩ := Option.isSome_iff_exists.mp hi
    obtain rfl := intOf_some hx
    obtain ⟨t, rfl⟩ := hw
    refine ⟨.type "int", Looks.of_pure rfl, ?_⟩
    unfold notFirst
    rw [C.subInt]; rfl
  | false =>
    rw [hi, Bool.or_false] at hb
    obtain ⟨j, fs, rfl, hj⟩ := isInst_some hb
    obtain ⟨_, rfl⟩ := hw
    obtain ⟨ds', k', I', _⟩ := inst_at hS.inv hj
    exact ⟨.ref g.c.C, I'.type, by unfold notFirst; simp⟩

theorem handed_rel {v : V} {u : Value} (h : VRel W v u) : handedIn u = true := by
  cases v with
  | none => obtain rfl : u = .none := h; rfl
  | bool b => obtain rfl : u = .bool b := h; rfl
  | int i => obtain ⟨t, rfl⟩ := h; rfl
  | str i => obtain ⟨t, rfl⟩ := h; rfl
  | bytes i => obtain ⟨t, rfl⟩ := h; rfl
  | ref i => obtain ⟨t, rfl⟩ := h; rfl
theorem cmp_back {v : V} {u : Value} {Q : Value → Shared → Prop} {s : Shared} (h : VRel W v u) (q : Q u s) : PySem.W.CmpBack Q u s := by
  cases v with
  | none => obtain rfl : u = .none := h; exact q
  | bool b => obtain rfl : u = .bool b := h; exact q
  | int i => obtain ⟨t, rfl⟩ := h; exact q
  | str i => obtain ⟨t, rfl⟩ := h; exact q
  | bytes i => obtain ⟨t, rfl⟩ := h; exact q
  | ref i => obtain ⟨t, rfl⟩ := h; exact q

theorem rich_of {op : CmpOp} {n : Str} (h : cmpName op = some n) : (cmpInfo op).2.1 = n ∧ ∀ u z, compareOp op u z = richCompare op u z := by
  cases op <;> first | (cases h; exact ⟨rfl, fun _ _ => rfl⟩) | cases h
theorem sim_cmpObj (C : CxOk g.c) (F : FnSim g.c g.d) {op : CmpOp} {n : Str} {w : V} {i : Nat} {z : Value} (hn : cmpName op = some n) (hi : i < W.n) (hw : VRel W w z) {A : Around} {W₁ : Wd} {mm : Str → Option Value} {st : S} {s : Shared} {Q : Value → Shared → Prop} {E : Value → Shared → Prop}
    (hA : AOk g A) (hx : Ext W W₁) (hS : St g W₁ mm st s) {fs : List (Str × V)} (ho : st.heap i = some (.inst fs)) (hb : (isInst st.heap w || isIntV w) = true)
    (hP : Post g W₁ s VR Q E (callF g.c.P (phi g.c.P g.d) g.hd (.meth n) [.ref i, w] [] st)) : wpAny (model g.c.prog g.c.w) A (compareOp op (.ref (W₁.ρ i)) z) Q E s := by
  obtain ⟨code, hc⟩ := callF_code hP
  obtain ⟨fa, hfa, hfn⟩ := C.fn _ _ hc
  obtain ⟨ds, k, I, _⟩ := inst_at hS.inv ho
  obtain ⟨tb, hL, hnf⟩ := right_at C hS (hw.ext hx) hb
  obtain ⟨hop, hcmp⟩ := rich_of hn
  rw [hcmp]
  refine cmp_K (Nat.lt_of_le_of_lt (Nat.le_add_right _ _) hA.room) hS.inv.toFr C.X I hL hnf (f := fa) (by rw [hop]; exact hfa.1) hfa.2 ?_
  exact (F _ _ fa g W₁ [.ref i, w] [.ref (W₁.ρ i), z] hc hfn rfl rfl ⟨⟨Nat.lt_of_lt_of_le hi hx.le, rfl⟩, hw.ext hx, trivial⟩).sim A W₁ mm st s _ E hA (Ext.refl _) hS (hP.imp (f := id) fun _ _ _ _ hr q => cmp_back hr (q hr))

theorem sim_cmpI {op : CmpOp} {x y : Int} {t t' : Tok} {r : Bool} (h : cmpI op x y = some r) {A : Around} {s : Shared} {Q : Value → Shared → Prop} {E : Value → Shared → Prop} (hA : AOk g A) (hq : Q (.bool r) s) : wpAny (model g.c.prog g.c.w) A (compareOp op (.int x t) (.int y t')) Q E s := by
  cases op with
  | Lt => cases h; exact lt_int hq
  | LtE => cases h; exact le_int hq
  | Gt => cases h; exact gt_int hq
  | GtE => cases h; exact ge_int hq
  | Eq => cases h; exact PyProof.Rows.eq_dataH (.int _ _) (.int _ _) rfl rfl hA.room hq
  | NotEq => cases h; exact PyProof.Rows.ne_dataH (.int _ _) (.int _ _) rfl rfl hA.room hq
  | _ => cases h

theorem eqD_some {m : Str → Option Value} {st : S} {s : Shared} (hS : St g W m st s) {v w : V} {u z : Value} (hv : VRel W v u) (hw : VRel W w z) {r : Bool} (h : eqD st.heap v w = some r) : ∃ da db as bs, Reads s.heap u da as ∧ Reads s.heap z db bs ∧ SeqAt.shaped da = true ∧ SeqAt.shaped db = true ∧ PyData.eqv da db = r := by
  unfold eqD at h
  cases h1 : pyOf depthLim st.heap v with
  | none => rw [h1] at h; cases h
  | some da =>
    cases h2 : pyOf depthLim st.heap w with
    | none => rw [h1, h2] at h; cases h
    | some db =>
      rw [h1, h2] at h
      by_cases hs : (SeqAt.shaped da && SeqAt.shaped db) = true
      · have e := Option.some.inj ((if_pos hs).symm.trans h)
        obtain ⟨as, r1⟩ := reads_of hS.inv _ v u da h1 hv
        obtain ⟨bs, r2⟩ := reads_of hS.inv _ w z db h2 hw
        rw [Bool.and_eq_true] at hs
        exact ⟨da, db, as, bs, r1, r2, hs.1, hs.2, e⟩
      · exact nomatch (if_neg hs).symm.trans h

theorem okB_some {α : Type} {s : Shared} {st : S} {o : Option Bool} {Rel : Wd → V → α → Prop} {Q : α → Shared → Prop} {E : Value → Shared → Prop} (h : Post g W s Rel Q E (okB o st)) : ∃ r, o = some r ∧ Post g W s Rel Q E (.ok (.bool r) st) := by
  obtain ⟨v, e, h⟩ := Post.get0 h
  obtain ⟨r, hr, rfl⟩ := Option.map_eq_some_iff.mp e
  exact ⟨r, hr, h⟩

theorem sim_compare (C : CxOk g.c) (F : FnSim g.c g.d) {op : CmpOp} {v w : V} {u z : Value} (hv : VRel W v u) (hw : VRel W w z) : Sim g W (compareOp op u z) (compareV g.c.P (phi g.c.P g.d) g.hd op v w) VR := by
  unfold compareV
  cases he : isV op v w with
  | some o => exact compare_is he hv hw
  | none =>
    intro A W₁ mm st s Q E hA hx hS hP
    have hP : Post g W₁ s VR Q E (cmpV g.c.P (phi g.c.P g.d) g.hd op v w st) := hP
    unfold cmpV at hP
    by_cases hi : isInst st.heap v = true
    · rw [if_pos hi] at hP
      by_cases hb : (isInst st.heap w || isIntV w) = true
      · rw [if_pos hb] at hP
        cases hn : cmpName op with
        | none => rw [hn] at hP; exact hP.elim
        | some n =>
          rw [hn] at hP
          obtain ⟨i, fs, rfl, ho⟩ := isInst_some hi
          obtain ⟨hil, rfl⟩ := hv
          rw [← hx.eq i hil]
          exact sim_cmpObj C F hn hil hw hA hx hS ho hb hP
      · rw [if_neg hb] at hP; exact hP.elim
    · rw [if_neg hi] at hP
      cases hp : intPair v w with
      | some p =>
        rw [hp] at hP
        obtain ⟨rfl, rfl⟩ := intPair_some hp
        obtain ⟨t, rfl⟩ := hv
        obtain ⟨t', rfl⟩ := hw
        obtain ⟨r, hr, hP⟩ := okB_some hP
        exact sim_cmpI hr hA (hP W₁ mm s _ (Ext.refl _) hS (Same.refl _) rfl)
      | none =>
        rw [hp] at hP
        cases op with
        | Eq =>
          obtain ⟨r, hr, hP⟩ := okB_some hP
          obtain ⟨da, db, as, bs, r1, r2, s1, s2, rfl⟩ := eqD_some hS (hv.ext hx) (hw.ext hx) hr
          exact PyProof.Rows.eq_dataH r1 r2 s1 s2 hA.room (hP W₁ mm s _ (Ext.refl _) hS (Same.refl _) rfl)
        | NotEq =>
          obtain ⟨r, hr, hP⟩ := okB_some hP
          obtain ⟨r', hr', rfl⟩ := Option.map_eq_some_iff.mp hr
          obtain ⟨da, db, as, bs, r1, r2, s1, s2, rfl⟩ := eqD_some hS (hv.ext hx) (hw.ext hx) hr'
          exact PyProof.Rows.ne_dataH r1 r2 s1 s2 hA.room (hP W₁ mm s _ (Ext.refl _) hS (Same.refl _) rfl)
        | _ => exact hP.elim
end
end Mine
end

section
open PySem PySem.W PySem.Calls PyProof.Rows
set_option maxRecDepth 100000
set_option linter.unusedVariables false
set_option linter.unusedSimpArgs false
namespace Mine

theorem frel_get {W : Wd} {x : Str} : ∀ {fs : List (Str × V)} {ds : List DictEntry} {v : V}, FRel W fs ds → getR x fs = some v → ∃ u, getL x ds = some (some u) ∧ VRel W v u
  | [], _, _, _, e => by simp [getR] at e
  | (y, w) :: fs, e :: ds, v, h, q => by
    obtain ⟨⟨t, hk⟩, hv, hr⟩ := h
    simp only [getR] at q
    by_cases hy : y = x
    · rw [if_pos hy] at q; cases q
      refine ⟨e.val, ?_, hv⟩
      unfold getL
      rw [List.find?_cons, hk]
      simp [Value.isStr, hy]
    · rw [if_neg hy] at q
      obtain ⟨u, a, b⟩ := frel_get hr q
      refine ⟨u, ?_, b⟩
      have hne : e.key.isStr x = false := by rw [hk]; simp [Value.isStr, hy]
      unfold getL at a ⊢
      rw [List.find?_cons, hne]
      have hr' : e.refKey = false := by simp [DictEntry.refKey, hk]
      rw [List.any_cons, hr', Bool.false_or]
      exact a
  | _ :: _, [], _, h, _ => h.elim
theorem frel_none {W : Wd} {x : Str} : ∀ {fs : List (Str × V)} {ds : List DictEntry}, FRel W fs ds → getR x fs = none → getL x ds = some none
  | [], [], _, _ => rfl
  | (y, w) :: fs, e :: ds, h, q => by
    obtain ⟨⟨t, hk⟩, hv, hr⟩ := h
    simp only [getR] at q
    by_cases hy : y = x
    · rw [if_pos hy] at q; cases q
    · rw [if_neg hy] at q
      have a := frel_none hr q
      have hne : e.key.isStr x = false := by rw [hk]; simp [Value.isStr, hy]
      unfold getL at a ⊢
      rw [List.find?_cons, hne]
      have hr' : e.refKey = false := by simp [DictEntry.refKey, hk]
      rw [List.any_cons, hr', Bool.false_or]
      exact a
  | _ :: _, [], h, _ => h.elim
  | [], _ :: _, h, _ => h.elim
theorem frel_some {W : Wd} {x : Str} {fs : List (Str × V)} {ds : List DictEntry} (h : FRel W fs ds) : (getL x ds).isSome = true := by
  cases q : getR x fs with
  | none => rw [frel_none h q]; rfl
  | some v => obtain ⟨u, a, _⟩ := frel_get h q; rw [a]; rfl
theorem frel_put {W : Wd} {x : Str} {v : V} {u : Value} {hs : Int} {t : Tok} (hv : VRel W v u) : ∀ {fs : List (Str × V)} {ds : List DictEntry}, FRel W fs ds → FRel W (putR x v fs) (putL x hs (.str x t) u ds)
  | [], [], _ => ⟨⟨t, rfl⟩, hv, trivial⟩
  | (y, w) :: fs, e :: ds, h => by
    obtain ⟨⟨t', hk⟩, hv', hr⟩ := h
    by_cases hy : y = x
    · have hne : e.key.isStr x = true := by rw [hk]; simp [Value.isStr, hy]
      simp only [putR, putL, if_pos hy, hne, if_true]
      exact ⟨⟨t', hk⟩, hv, hr⟩
    · have hne : e.key.isStr x = false := by rw [hk]; simp [Value.isStr, hy]
      simp only [putR, putL, if_neg hy, hne, Bool.false_eq_true, if_false]
      exact ⟨⟨t', hk⟩, hv', frel_put hv hr⟩
  | _ :: _, [], h => h.elim
  | [], _ :: _, h => h.elim
theorem putR_len (x : Str) (v : V) : ∀ fs : List (Str × V), (putR x v fs).length ≤ fs.length + 1
  | [] => Nat.le_refl _
  | (y, w) :: r => by
    unfold putR
    split
    · exact Nat.le_succ _
    · have := putR_len x v r; simp only [List.length_cons]; omega
section
variable {g : G} {W : Wd}

theorem Post.noExc {α β : Type} {s : Shared} {st : S} {m : M β} {R : Wd → β → α → Prop} {Q : α → Shared → Prop} {E : Value → Shared → Prop} (h : Post g W s R Q E (noExc m st)) {E' : Value → Shared → Prop} : Post g W s R Q E' (m st) := by
  unfold Mine.noExc at h
  cases q : m st with
  | ok b st' => rw [q] at h; exact h
  | _ => rw [q] at h; exact h.elim
theorem Post.up {β α : Type} {s : Shared} {R : Wd → β → α → Prop} {Q : α → Shared → Prop} {E : Value → Shared → Prop} {r : Mine.R β} (h : Post g W s R Q E r) : Post g.up W s R Q E r := by
  cases r with
  | fail => exact h
  | ok b st' => exact fun W' mm s' a hx hS hs hr => h W' mm s' a hx hS.down hs hr
  | exc x st' => exact fun W' mm s' a hx hS hs hr => h W' mm s' a hx hS.down hs hr

theorem sim_attr (C : CxOk g.c) (F : FnSim g.c g.d) (hk : g.k ≤ 4) {v : V} {u : Value} {x : Str} {b : Bool} (hv : VRel W v u) : Sim g W (getAttr u x b) (attrV g.c.P (phi g.c.P g.d) g.hd v x) VR := by
  intro A W₁ mm st s Q E hA hx hS hP
  replace hP := Post.get hP; obtain ⟨i, hi, hP⟩ := hP
  obtain rfl := refOf_some hi
  obtain ⟨hi, rfl⟩ := hv.ext hx
  replace hP := Post.get hP; obtain ⟨fs, ho, hP⟩ := hP
  have ho := instAt_some ho
  obtain ⟨ds, n, I, hf⟩ := inst_at hS.inv ho
  by_cases hw : x = wName
  · subst hw
    rw [if_pos rfl] at hP
    obtain ⟨code, hc⟩ := callF_code (Post.noExc hP (E' := E))
    obtain ⟨fa, ⟨p, rest, hp1, hp2⟩, hfn⟩ := C.fn _ _ hc
    obtain ⟨p', hp3, hp4, hp5, _⟩ := C.prop
    obtain rfl : p = p' := by rw [hp1] at hp3; cases hp3; rfl
    refine get_prop hS.inv.toFr C.X I (C.get _) C.hasDict hp1 hp4 hp5 hp2 ?_
    refine F .getW code fa g.up W₁ [.ref i] [.ref (W₁.ρ i)] hc hfn rfl rfl ⟨⟨hi, rfl⟩, trivial⟩ A.in1 W₁ mm st { s with toks := s.toks + 1 } _ (hA.up (Nat.le_succ_of_le (Nat.succ_le_succ hk))) (Ext.refl _) (hS.toks _).up ?_
    exact (((Post.noExc hP).move (Ext.refl _) Same.toks).up).imp (f := id) fun _ _ _ _ hr q => handed_on (handed_rel hr) (q hr)
  · rw [if_neg hw] at hP
    replace hP := Post.ite hP; obtain ⟨hm, hP⟩ := hP
    replace hP := Post.get0 hP; obtain ⟨w, hw', hP⟩ := hP
    obtain ⟨u, hu, hr⟩ := frel_get hf hw'
    have hfx := C.fields x (by simpa using hm)
    refine get_own (attr := none) hS.inv.toFr C.X I (C.get _) C.hasDict hfx.1 rfl hu (handed_rel hr) ?_
    exact hP W₁ mm _ _ (Ext.refl _) (hS.toks _) Same.toks hr

theorem sim_setAttr (C : CxOk g.c) (F : FnSim g.c g.d) (hk : g.k ≤ 4) {v w : V} {u z : Value} {x : Str} (hv : VRel W v u) (hw : VRel W w z) :
    Sim g W (setAttr u x z) (setAttrV g.c.P (phi g.c.P g.d) g.hd v x w) (fun _ _ _ => True) := by
  intro A W₁ mm st s Q E hA hx hS hP
  replace hP := Post.get hP; obtain ⟨i, hi, hP⟩ := hP
  obtain rfl := refOf_some hi
  obtain ⟨hi, rfl⟩ := hv.ext hx
  replace hP := Post.get hP; obtain ⟨fs, ho, hP⟩ := hP
  have ho := instAt_some ho
  obtain ⟨ds, n, I, hf⟩ := inst_at hS.inv ho
  by_cases hwn : x = wName
  · subst hwn
    rw [if_pos rfl] at hP
    have hP : Post g W₁ s VR (fun _ s' => Q () s') E (callF g.c.P (phi g.c.P g.d) g.hd .setW [.ref i, w] [] st) := hP.bind fun b st' W' mm' s' a _ hS' _ _ hP' => hP' W' mm' s' () (Ext.refl _) hS' (Same.refl _) trivial
    obtain ⟨code, hc⟩ := callF_code hP
    obtain ⟨fa, ⟨p, a, rest, hp1, hp2⟩, hfn⟩ := C.fn _ _ hc
    obtain ⟨p', hp3, hp4, hp5, hp6, hp7⟩ := C.prop
    obtain rfl : p = p' := by rw [hp1] at hp3; cases hp3; rfl
    refine set_prop hS.inv.toFr C.X I C.setattr C.over hp6 hp7 hp2 ?_
    have hk1 : g.k + 1 ≤ 5 := Nat.succ_le_succ hk
    exact F .setW code fa g.up.up W₁ [.ref i, w] [.ref (W₁.ρ i), z] hc hfn rfl rfl ⟨⟨hi, rfl⟩, hw.ext hx, trivial⟩ A.in1.in1 W₁ mm st { s with toks := s.toks + 1 } _ ((hA.up (Nat.le_succ_of_le hk1)).up (Nat.succ_le_succ hk1)) (Ext.refl _) (hS.toks _).up.up (hP.move (Ext.refl _) Same.toks).up.up
  · rw [if_neg hwn] at hP
    replace hP := Post.ite hP; obtain ⟨⟨hm, hlen⟩, hP⟩ := hP
    have hfx := C.fields x (by simpa using hm)
    obtain ⟨rest, N, hne, hlt, hback⟩ := hS.inv.capture (W₁.δ i)
    have ld := hS.inv.ldic i _ ho
    have hpf := frel_put (hs := PyData.keyHash g.c.w.params x) (t := s.toks + 1) (x := x) (hw.ext hx) hf
    have hpl' := hpf.length
    have hpl := putR_len x w fs
    refine set_dict (news := (W₁.δ i, dictOf ds n) :: rest) hS.inv.toFr C.X ?_ I rfl C.setattr C.over hfx.2 C.hasDict (frel_some hf) rfl (Upd.head hne) (by omega) ?_
    · intro p hp
      rcases List.mem_cons.mp hp with rfl | hp
      · exact ⟨I.dict, ne_of_lab ld (hS.inv.lfr _ (.head _)) (by simp), hS.inv.fresh (lab_ne ld)⟩
      · exact N p hp
    · intro h' F' N'
      obtain ⟨k', hfrs⟩ := hS.inv.keepOf F' (hback h' g.L fun p hp => N' p (.tail _ hp)) (fun t ht => by rw [ld] at ht; cases ht; simp)
      exact hP W₁ mm _ () (Ext.refl _) ⟨hS.inv.setDict ho k' hfrs (N' _ (.head _)).1 hpf, hS.next, hS.loc⟩ Same.mk' trivial
end
end Mine
end

section
open PySem PySem.W PySem.Calls PyProof.Rows
set_option maxRecDepth 100000
set_option linter.unusedVariables false
set_option linter.unusedSimpArgs false
namespace Mine

section
variable {g : G} {W : Wd}

theorem sim_setSub {v k x : V} {u z y : Value} (hv : VRel W v u) (hk : VRel W k z) (hy : VRel W x y) : Sim g W (setItem u z y) (setSubV v k x) (fun _ _ _ => True) := by
  intro A W₁ mm st s Q E hA hx hS hP
  replace hP := Post.get hP; obtain ⟨i, hi, hP⟩ := hP
  replace hP := Post.get hP; obtain ⟨n, hn, hP⟩ := hP
  replace hP := Post.get hP; obtain ⟨xs, ho, hP⟩ := hP
  replace hP := Post.ite hP; obtain ⟨⟨h0, h1, h2⟩, hP⟩ := hP
  obtain rfl := refOf_some hi
  obtain rfl := intOf_some hn
  obtain ⟨hi, rfl⟩ := hv.ext hx
  obtain ⟨t, rfl⟩ := hk
  have ho := listAt_some ho
  obtain ⟨vs, n0, hat, hr⟩ := hS.inv.own i _ ho
  have hlen := hr.length
  refine ki_setAt hat h0 (by omega) (by rw [List.size_toArray]; omega) ?_
  refine hP W₁ mm _ () (Ext.refl _) ⟨hS.inv.setOwn ho (Heap.SameBut.update ..) ⟨_, n0, ?_, hr.set (k := n.toNat) (hy.ext hx)⟩ (fun ⟨_, e⟩ => nomatch e), hS.next, hS.loc⟩ Same.heap trivial
  rw [Heap.get?_update_self _ hat rfl]
  simp [Obj.mapSeq]

/-- growing the heap behind what is followed -/
theorem Inv.grow {c : Cx} {L : Addr} {m : Str → Option Value} {fr : Frs} {pins : List (Addr × Obj)} {W : Wd} {σ : Nat → Option AObj} {h h' : Heap} (I : Inv c ((L, m) :: fr) pins W σ h) (hk : ∀ a o, h.get? a = some o → h'.get? a = some o) :
    Inv c ((L, m) :: fr) pins W σ h' := by
  refine I.keeps (fun a o _ => hk a o) (fun a o e => hk a o (I.stays a o e)) ?_
  have lL := I.lfr _ (.head _)
  obtain ⟨hb, o, e⟩ := I.new _ (lab_ne lL)
  exact Nat.le_of_lt (Nat.lt_of_le_of_lt (hb.2 (by rw [lL]; simp)) (Heap.lt_size (hk _ _ e)))
theorem Inv.unlab_none {c : Cx} {fr : Frs} {pins : List (Addr × Obj)} {W : Wd} {σ : Nat → Option AObj} {h : Heap} (I : Inv c fr pins W σ h) {a : Addr} (ha : h.get? a = none) : W.lab a = none ∧ c.base.get? a = none := by
  constructor
  · cases q : W.lab a with
    | none => rfl
    | some t => obtain ⟨_, o, e⟩ := I.new a (lab_ne q); rw [ha] at e; cases e
  · cases q : c.base.get? a with
    | none => rfl
    | some o => have := I.stays a o q; rw [ha] at this; cases this

theorem sim_len {v : V} {u : Value} (hv : VRel W v u) : Sim g W (call (.builtin "len") [u]) (lenV v) VR := by
  intro A W₁ mm st s Q E hA hx hS hP
  replace hP := Post.get hP; obtain ⟨i, hi, hP⟩ := hP
  replace hP := Post.get hP; obtain ⟨xs, ho, hP⟩ := hP
  replace hP := Post.ite hP; obtain ⟨h0, hP⟩ := hP
  obtain rfl := refOf_some hi
  obtain ⟨hi, rfl⟩ := hv.ext hx
  obtain ⟨vs, hL, hr⟩ := hS.list ho
  have hlen := hr.length
  refine call_len_list hL (by rw [List.size_toArray]; omega) (hP W₁ mm _ _ (Ext.refl _) (hS.toks _) Same.toks ⟨s.toks + 1, ?_⟩)
  rw [List.size_toArray, hlen]

theorem sim_abs {v : V} {u : Value} (hv : VRel W v u) : Sim g W (call (.builtin "abs") [u]) (absV v) VR := by
  intro A W₁ mm st s Q E hA hx hS hP
  replace hP := Post.get hP; obtain ⟨i, hi, hP⟩ := hP
  obtain rfl := intOf_some hi
  obtain ⟨t, rfl⟩ := hv
  refine call_abs_int fun u tk => hP W₁ mm _ _ (Ext.refl _) (hS.toks _) Same.toks ⟨u, ?_⟩
  congr 1
  split <;> omega

theorem in_base (C : CxOk g.c) {W : Wd} {m : Str → Option Value} {st : S} {s : Shared} (hS : St g W m st s) : g.c.K.In s.heap := fun a o e => hS.inv.stays a o (C.X a o e)

theorem sim_isint (C : CxOk g.c) {v : V} {u : Value} (hv : VRel W v u) : Sim g W (call (.builtin "isinstance") [u, .type "int"]) (isinstV v "int") VR := by
  intro A W₁ mm st s Q E hA hx hS hP
  unfold isinstV at hP
  rw [if_pos rfl] at hP
  cases hi : intOf v with
  | none => rw [hi] at hP; exact hP.elim
  | some i =>
    rw [hi] at hP
    obtain rfl := intOf_some hi
    obtain ⟨t, rfl⟩ := hv
    exact kia_one kitx_int (in_base C hS) trivial C.isi.1 (fun q => nomatch q) fun tk => hP W₁ mm _ _ (Ext.refl _) (hS.toks _) Same.toks rfl

theorem stream_ne_int : ("Stream" : Str) ≠ ("int" : Str) := by decide

theorem sim_isstream (C : CxOk g.c) {v : V} {u : Value} (hv : VRel W v u) : Sim g W (call (.builtin "isinstance") [u, .ref g.c.C]) (isinstV v "Stream") VR := by
  intro A W₁ mm st s Q E hA hx hS hP
  obtain ⟨i1, i3, i4⟩ := C.isi
  have K := in_base C hS
  unfold isinstV at hP
  rw [if_neg stream_ne_int, if_pos rfl] at hP
  by_cases hi : isIntV v = true
  · rw [if_pos hi] at hP
    obtain ⟨x, hx'⟩ := Option.isSome_iff_exists.mp hi
    obtain rfl := intOf_some hx'
    obtain ⟨t, rfl⟩ := hv
    exact kia_one kitx_int K trivial i3 (fun q => nomatch q) fun tk => hP W₁ mm _ _ (Ext.refl _) (hS.toks _) Same.toks rfl
  · rw [if_neg hi] at hP
    by_cases hin : isInst st.heap v = true
    · rw [if_pos hin] at hP
      obtain ⟨i, fs, rfl, ho⟩ := isInst_some hin
      obtain ⟨_, rfl⟩ := hv.ext hx
      obtain ⟨ds, n, I, _⟩ := inst_at hS.inv ho
      obtain ⟨c1, c2, c3, c4⟩ := C.isiC
      exact kia_one (kitx_own (C.get _) C.hasDict c1 c2 c3 c4) K I i4 (fun q => nomatch q) fun tk => hP W₁ mm _ _ (Ext.refl _) (hS.toks _) Same.toks rfl
    · rw [if_neg hin] at hP; exact hP.elim

/-! slices -/
theorem vs_pick {W : Wd} {xs : List V} {us : List Value} (h : VsRel W xs us) {b : Int} (hb : 0 ≤ b) : VsRel W (xs.take b.toNat) (slicePick us.toArray none (some b) none).toList := by
  have e : sliceBounds none (some b) none us.toArray.size = (((0 : Nat) : Int), ((min b.toNat us.toArray.size : Nat) : Int), 1) := by
    simp only [sliceBounds, Option.getD_none, show (1 : Int) > 0 by decide, if_true, if_neg (Int.not_lt.mpr hb)]
    refine Prod.ext rfl (Prod.ext ?_ rfl)
    show max 0 (min b (us.toArray.size : Int)) = ((min b.toNat us.toArray.size : Nat) : Int)
    obtain ⟨n, rfl⟩ := Int.eq_ofNat_of_zero_le hb
    rw [Int.toNat_natCast]
    omega
  rw [kmk_pick_nat _ e]
  simp only [List.drop_zero, Nat.sub_zero, List.size_toArray]
  rw [kmk_take_min]
  exact h.take

theorem sim_append {i : Nat} {v : V} {u : Value} (hi : i < W.n) (hv : VRel W v u) : Sim g W (call (.builtin "list.append") [.ref (W.ρ i), u]) (appendM i v) VR := by
  intro A W₁ mm st s Q E hA hx hS hP
  replace hP := Post.get hP; obtain ⟨xs, ho, hP⟩ := hP
  replace hP := Post.ite hP; obtain ⟨h0, hP⟩ := hP
  rw [← hx.eq i hi]
  have ho := listAt_some ho
  obtain ⟨vs, n, hat, hr⟩ := hS.inv.own i _ ho
  have hlen := hr.length
  refine append_at (n := n) hat (fun h' hs ho' => ?_) (by rw [List.size_toArray, sizeLine_eq]; omega)
  refine hP W₁ mm _ _ (Ext.refl _) ⟨hS.inv.setOwn ho hs ⟨vs ++ [u], n + 1, ?_, hr.append (VsRel.one (hv.ext hx))⟩ (fun ⟨_, e⟩ => nomatch e), hS.next, hS.loc⟩ Same.heap rfl
  rw [ho']; simp
end
end Mine
end

section
open PySem PySem.W PySem.Calls PyProof.Rows
set_option maxRecDepth 100000
set_option linter.unusedVariables false
set_option linter.unusedSimpArgs false
namespace Mine

section
variable {g : G} {W : Wd} {ev : AEnv} {env : Env} {P : PI} {Φ : Phi}

/-! arguments -/
theorem starEach_cons {e : Expr} {r : List Expr} (h : starred e = false) : starEach (e :: r) env = (false, eval e env) :: starEach r env := by
  cases e <;> first | rfl | cases h
theorem starEach_plain {pos : Pos} : ∀ (es : List Expr), (es.all fun e => !starred e) = true → backTo pos (starEach es env) = (evalEach es env).map fun t => (false, t)
  | [], _ => rfl
  | e :: r, h => by
    rw [List.all_cons, Bool.and_eq_true] at h
    rw [starEach_cons (by simpa using h.1)]
    show (false, eval _ env) :: backTo pos (starEach r env) = _
    rw [starEach_plain (pos := pos) r h.2]
    rfl

/-- the subterms' simulations, one by one -/
noncomputable def SimEach (g : G) (W : Wd) : List (Sem Value) → List (M V) → Prop
  | [], [] => True
  | t :: ts, m :: ms => Sim g W t m VR ∧ SimEach g W ts ms
  | _, _ => False
theorem SimEach.start {W W' : Wd} (x : Ext W W') : ∀ {ts : List (Sem Value)} {ms : List (M V)}, SimEach g W ts ms → SimEach g W' ts ms
  | [], [], _ => trivial
  | _ :: _, _ :: _, h => ⟨h.1.start x, SimEach.start x h.2⟩
  | [], _ :: _, h => h.elim
  | _ :: _, [], h => h.elim

noncomputable def allM : List (M V) → M (List V)
  | [] => pure []
  | m :: ms => m >>= fun v => allM ms >>= fun vs => pure (v :: vs)
theorem denEs_all : ∀ es : List Expr, denEs P Φ ev es = allM (denEach P Φ ev es)
  | [] => rfl
  | e :: r => by
    show (denE P Φ ev e >>= fun v => denEs P Φ ev r >>= fun vs => pure (v :: vs)) = (denE P Φ ev e >>= fun v => allM (denEach P Φ ev r) >>= fun vs => pure (v :: vs))
    rw [denEs_all r]

theorem sim_spliced : ∀ {W : Wd} {ts : List (Sem Value)} {ms : List (M V)}, SimEach g W ts ms → Sim g W (spliced (ts.map fun t => (false, t))) (allM ms) VsRel
  | W, [], [], _ => Sim.pure fun _ _ => trivial
  | W, t :: ts, m :: ms, h => by
    show Sim g W (t >>= fun v => (pure [v] : Sem (List Value)) >>= fun here => holding here (spliced (ts.map fun t => (false, t))) >>= fun r => pure (here ++ r)) _ _
    refine h.1.bind fun W₁ v u hx hv => ?_
    show Sim g W₁ (holding [u] (spliced (ts.map fun t => (false, t))) >>= fun r => pure ([u] ++ r)) (allM ms >>= fun vs => pure (v :: vs)) VsRel
    refine Sim.tail (k := fun vs => v :: vs) (f := fun r => [u] ++ r) (Sim.holding (sim_spliced (h.2.start hx))) fun W' b a hx' hr W'' hx'' => ⟨(hv.ext hx').ext hx'', hr.ext hx''⟩
  | _, [], _ :: _, h => h.elim
  | _, _ :: _, [], h => h.elim

/-- the same for a rule in continuation form -/
noncomputable def SimT {α β : Type} (g : G) (W₀ : Wd) (T : Around → (α → Shared → Prop) → (Value → Shared → Prop) → Shared → Prop) (m : M β) (R : Wd → β → α → Prop) : Prop :=
  ∀ (A : Around) (W : Wd) (mm : Str → Option Value) (st : S) (s : Shared) (Q : α → Shared → Prop) (E : Value → Shared → Prop),
    AOk g A → Ext W₀ W → St g W mm st s → Post g W s R Q E (m st) → T A Q E s
section
variable {α β γ δ : Type}
theorem Sim.toT {t : Sem α} {m : M β} {R : Wd → β → α → Prop} (h : Sim g W t m R) : SimT g W (fun A Q E s => wpAny (model g.c.prog g.c.w) A t Q E s) m R := h
theorem SimT.via {t : Sem α} {T : Around → (α → Shared → Prop) → (Value → Shared → Prop) → Shared → Prop} {m : M β} {R : Wd → β → α → Prop} (hw : ∀ A Q E s, AOk g A → T A Q E s → wpAny (model g.c.prog g.c.w) A t Q E s) (h : SimT g W T m R) : Sim g W t m R :=
  fun A W₁ mm st s Q E hA hx hS hP => hw _ _ _ _ hA (h A W₁ mm st s Q E hA hx hS hP)
theorem SimT.ret {a : α} {b : β} {R : Wd → β → α → Prop} (h : ∀ W', Ext W W' → R W' b a) : SimT g W (fun _ Q _ s => Q a s) (pure b : M β) R :=
  fun _ W₁ mm st s _ _ _ hx hS hP => hP W₁ mm s a (Ext.refl _) hS (Same.refl _) (h _ hx)
theorem SimT.seq {T : Around → (α → Shared → Prop) → (Value → Shared → Prop) → Shared → Prop} {T' : α → Around → (γ → Shared → Prop) → (Value → Shared → Prop) → Shared → Prop} {m : M β} {k : β → M δ} {R : Wd → β → α → Prop} {R' : Wd → δ → γ → Prop}
    (h : SimT g W T m R) (h' : ∀ W₁ b a, Ext W W₁ → R W₁ b a → SimT g W₁ (T' a) (k b) R') : SimT g W (fun A Q E s => T A (fun a s' => T' a A Q E s') E s) (m >>= k) R' :=
  fun A W₁ mm st s Q E hA hx hS hP => h A W₁ mm st s _ E hA hx hS (hP.bind fun b st' W' mm' s' a hx' hS' _ hr hP' => h' W' b a (hx.trans hx') hr A W' mm' st' s' Q E hA (Ext.refl _) hS' hP')
end

/-- a call with its arguments, by what its callee is -/
theorem sim_callWith (C : CxOk g.c) {f : Value} {first : List Value} {pos : Pos} {ts : List (Sem Value)} {ms : List (M V)} {k : List V → M V}
    (hkeep : ∀ h, g.c.K.In h → ∃ k, (k = Keeper.frame ∨ k = Keeper.machine ∨ k = Keeper.boundFrame) ∧ Looks (model g.c.prog g.c.w) h (keeperOf f) k)
    (hs : SimEach g W ts ms) (hc : ∀ W₁ vs us, Ext W W₁ → VsRel W₁ vs us → Sim g W₁ (call f (first ++ us) []) (k vs) VR) :
    Sim g W (callWith pos f first (ts.map fun t => (false, t)) []) (allM ms >>= k) VR := by
  have hplain : ((ts.map fun t => (false, t)).any (·.1) || ([] : List (Option Str × Sem Value)).any (·.1.isNone)) = false := by
    rw [List.any_map, List.any_nil, Bool.or_false, List.any_eq_false]
    exact fun _ _ h => nomatch h
  have one : SimT g W (fun A (Q : List Value → Shared → Prop) E s => wpAny (model g.c.prog g.c.w) A (evalArgs f true (ts.map fun t => (false, t)) []) (fun a s₁ => a.kw = [] ∧ Q a.pos s₁) E s) (allM ms) VsRel := by
    cases ts with
    | nil =>
      cases ms with
      | nil => exact fun A W₁ mm st s Q E hA hx hS hP => evalArgs_kw_nil rfl (wpAny_pure ⟨rfl, hP W₁ mm s [] (Ext.refl _) hS (Same.refl _) trivial⟩)
      | cons _ _ => exact hs.elim
    | cons t ts => exact fun A W₁ mm st s Q E hA hx hS hP => evalArgs_kw rfl (sim_spliced hs A W₁ mm st s _ E hA hx hS (hP.imp (f := id) fun _ _ _ _ hr q => wpAny_pure ⟨rfl, q hr⟩))
  have main : SimT g W (fun A (Q : Value → Shared → Prop) E s => wpAny (model g.c.prog g.c.w) A (evalArgs f true (ts.map fun t => (false, t)) []) (fun a s₁ => g.c.K.In s₁.heap ∧ wpAny (model g.c.prog g.c.w) A (call f (first ++ a.pos) a.kw) Q E s₁) E s) (allM ms >>= k) VR := by
    intro A W₁ mm st s Q E hA hx hS hP
    refine wpAny_mono (one A W₁ mm st s (fun us s₁ => g.c.K.In s₁.heap ∧ wpAny (model g.c.prog g.c.w) A (call f (first ++ us) []) Q E s₁) E hA hx hS (hP.bind fun vs st' W' mm' s' us hx' hS' _ hr hP' => ⟨in_base C hS', hc W' vs us (hx.trans hx') hr A W' mm' st' s' Q E hA (Ext.refl _) hS' hP'⟩)) (fun a s₁ h => ?_) fun _ _ h => h
    rw [h.1]; exact h.2
  exact SimT.via (fun A Q E s _ h => callWith_of hplain hkeep h) main
end
end Mine
end

section
open PySem PySem.W PySem.Calls PyProof.Rows
set_option maxRecDepth 100000
set_option linter.unusedVariables false
set_option linter.unusedSimpArgs false
namespace Mine

structure Gd (g : G) : Prop where
  C : CxOk g.c
  F : FnSim g.c g.d
  k : g.k ≤ 2

section
variable {g : G} {W : Wd} {ev : AEnv} {env : Env}

theorem testV_nil {P : PI} {Φ : Phi} {hd : Bool} {a : V} {ms : List (M V)} : testV P Φ hd a [] ms = failM := by cases ms <;> rfl
theorem testV_cons {P : PI} {Φ : Phi} {hd : Bool} {a : V} {op : CmpOp} {ops : List CmpOp} {m : M V} {ms : List (M V)} (h : ¬ (ops = [] ∧ ms = [])) : testV P Φ hd a (op :: ops) (m :: ms) = (do
    let b ← m
    match ← compareV P Φ hd op a b with
    | .bool true => testV P Φ hd b ops ms
    | .bool false => pure false
    | _ => failM) := by
  cases ops <;> cases ms <;> first | (exact absurd ⟨rfl, rfl⟩ h) | rfl
theorem testChain_cons {pos : Pos} {a : Value} {op : CmpOp} {ops : List CmpOp} {m : Sem Value} {ms : List (Sem Value)} (h : ¬ (ops = [] ∧ ms = [])) : testChain pos a (op :: ops) (m :: ms) = (do
    let rv ← holding [a] m
    standAt pos
    let c ← holding [a, rv] (compareOp op a rv)
    release [a, rv] [c]
    if ← holding [c, rv] (truthy c) then testChain pos rv ops ms else pure false) := by
  cases ops <;> cases ms <;> first | (exact absurd ⟨rfl, rfl⟩ h) | rfl
theorem SimEach.nil_iff {ts : List (Sem Value)} {ms : List (M V)} (h : SimEach g W ts ms) : ts = [] ↔ ms = [] := by
  cases ts <;> cases ms <;> first | (simp; done) | exact h.elim

theorem Sim.release {α β : Type} {vs keep : List Value} {f : Unit → Sem α} {m : M β} {R : Wd → β → α → Prop} (h : Sim g W (f ()) m R) : Sim g W (PySem.release vs keep >>= f) m R := h.via fun _ _ _ _ x => wpAny_bind (wpAny_release x)

/-- truth of a bool -/
theorem sim_boolc {β : Type} {b : Bool} {f : Bool → Sem Value} {m : M β} {R : Wd → β → Value → Prop} {vs : List Value} (h : Sim g W (f b) m R) : Sim g W (PySem.holding vs (truthy (.bool b)) >>= f) m R :=
  h.via fun _ _ _ _ x => wpAny_bind (wpAny_holding (wpAny_truthy_bool x))
theorem sim_boolb {β : Type} {b : Bool} {f : Bool → Sem Bool} {m : M β} {R : Wd → β → Bool → Prop} {vs : List Value} (h : Sim g W (f b) m R) : Sim g W (PySem.holding vs (truthy (.bool b)) >>= f) m R :=
  h.via fun _ _ _ _ x => wpAny_bind (wpAny_holding (wpAny_truthy_bool x))

theorem sim_chain (D : Gd g) {pos : Pos} {ops : List CmpOp} {a : V} {u : Value} {ts : List (Sem Value)} {ms : List (M V)} (ha : VRel W a u) (h : SimEach g W ts ms) : Sim g W (compareChain pos u ops ts) (chainV g.c.P (phi g.c.P g.d) g.hd a ops ms) VR := by
  match ops, ts, ms, h with
  | [op], [t], [m], h =>
    refine (Sim.holding h.1).bind fun W₁ b z hx hb => ?_
    exact Sim.standAt (Sim.operate (sim_compare D.C D.F (ha.ext hx) hb))
  | [], _, _, _ => exact Sim.fail
  | _ :: _ :: _, _, _, _ => exact Sim.fail
  | [_], [], [], _ => exact Sim.fail
  | [_], _ :: _ :: _, _ :: _ :: _, _ => exact Sim.fail
theorem sim_test (D : Gd g) {pos : Pos} : ∀ (ops : List CmpOp) {W : Wd} {a : V} {u : Value} {ts : List (Sem Value)} {ms : List (M V)}, VRel W a u → SimEach g W ts ms →
    Sim g W (testChain pos u ops ts) (testV g.c.P (phi g.c.P g.d) g.hd a ops ms) (fun _ b b' => b' = b)
  | [], W, a, u, ts, ms, ha, h => by rw [testV_nil]; exact Sim.fail
  | op :: ops, W, a, u, [], [], ha, h => by cases ops <;> exact Sim.fail
  | _ :: _, _, _, _, [], _ :: _, _, h => h.elim
  | _ :: _, _, _, _, _ :: _, [], _, h => h.elim
  | op :: ops, W, a, u, t :: ts, m :: ms, ha, h => by
    by_cases q : ops = [] ∧ ms = []
    · obtain ⟨rfl, rfl⟩ := q
      obtain rfl : ts = [] := h.2.nil_iff.mpr rfl
      refine (Sim.holding h.1).bind fun W₁ b z hx hb => ?_
      refine Sim.standAt ((Sim.operate (sim_compare D.C D.F (ha.ext hx) hb)).bind fun W₂ r y hx₂ hr => ?_)
      cases r with
      | bool b' =>
        obtain rfl : y = .bool b' := hr
        exact fun A W₃ mm st s Q E hA hx₃ hS hP => wpAny_holding (wpAny_truthy_bool (hP W₃ mm s _ (Ext.refl _) hS (Same.refl _) rfl))
      | _ => exact Sim.fail
    · rw [testV_cons q, testChain_cons (fun z => q ⟨z.1, h.2.nil_iff.mp z.2⟩)]
      refine (Sim.holding h.1).bind fun W₁ b z hx hb => ?_
      refine Sim.standAt ((Sim.holding (sim_compare D.C D.F (ha.ext hx) hb)).bind fun W₂ r y hx₂ hr => ?_)
      refine Sim.release ?_
      cases r with
      | bool b' =>
        obtain rfl : y = .bool b' := hr
        refine sim_boolb ?_
        cases b' with
        | true => exact sim_test D ops (hb.ext hx₂) ((h.2.start hx).start hx₂)
        | false => exact Sim.pure fun _ _ => rfl
      | _ => exact Sim.fail

theorem sim_marked {P : PI} {Φ : Phi} : ∀ (ops : List CmpOp) (es : List Expr), SimEach g W (evalEach es env) (denEach P Φ ev es) → SimEach g W (markedEach ops es (evalEach es env)) (denEach P Φ ev es)
  | [], es, h => by cases es <;> exact h
  | _ :: _, [], h => by cases ‹List CmpOp› <;> exact h
  | [op], [e], h => by
    refine ⟨?_, trivial⟩
    cases q : behindInMarks op e with
    | false => rw [markedBehindIn_of_false q]; exact h.1
    | true =>
      cases e <;> first | (simp [behindInMarks] at q; done) | exact Sim.fail
  | op :: op' :: ops, e :: es, h => ⟨h.1, sim_marked (op' :: ops) es h.2⟩
  | [op], e :: e' :: es, h => ⟨h.1, sim_marked [] (e' :: es) h.2⟩

/-! callees -/
noncomputable def CallRel (c : Cx) (n : Str) (W : Wd) (k : Callee × Nat) (p : Value × List Value) : Prop := k.2 < W.n ∧ p.2 = [.ref (W.ρ k.2)] ∧ match k.1 with
  | .inst => ∃ fa code, p.1 = .ref fa ∧ FAddr c (.meth n) fa ∧ c.P.code (.meth n) = some code ∧ FnOk c code fa
  | .list => p.1 = .builtin "list.append"

theorem sim_callee (D : Gd g) {v : V} {u : Value} {n : Str} {pl : Sem Bool} (hv : VRel W v u) : Sim g W (getMethod u n pl) (calleeM g.c.P v n) (CallRel g.c n) := by
  intro A W₁ mm st s Q E hA hx hS hP
  replace hP := Post.get hP; obtain ⟨i, hi, hP⟩ := hP
  obtain rfl := refOf_some hi
  obtain ⟨hi, rfl⟩ := hv.ext hx
  by_cases ha : n = ("append" : Str)
  · subst ha
    rw [if_pos rfl] at hP
    replace hP := Post.get hP; obtain ⟨xs, ho, hP⟩ := hP
    obtain ⟨vs, k, hat, hr⟩ := hS.inv.own i _ (listAt_some ho)
    exact getMethod_builtin ⟨_, hat, rfl⟩ PySem.F.plainAttrs_list slot_list_append type_list_append (fun a ea => by cases ea; exact ⟨_, hat, rfl⟩) (hP W₁ mm _ _ (Ext.refl _) hS (Same.refl _) ⟨hi, rfl, rfl⟩)
  · rw [if_neg ha] at hP
    replace hP := Post.get hP; obtain ⟨fs, ho, hP⟩ := hP
    replace hP := Post.itn hP; obtain ⟨h1, hP⟩ := hP
    replace hP := Post.ite hP; obtain ⟨h2, hP⟩ := hP
    obtain ⟨code, hc⟩ := Option.isSome_iff_exists.mp h2
    obtain ⟨fa, hfa, hfn⟩ := D.C.fn _ _ hc
    obtain ⟨ds, k, I, hf⟩ := inst_at hS.inv (instAt_some ho)
    have hnone : getR n fs = none := Option.not_isSome_iff_eq_none.mp h1
    refine method_inst hS.inv.toFr D.C.X I (D.C.get _) hfa.1 hfa.2 (frel_none hf hnone) ?_
    exact hP W₁ mm _ _ (Ext.refl _) hS (Same.refl _) ⟨hi, rfl, fa, code, rfl, hfa, hc, hfn⟩

/-- a call of a text's own def -/
theorem sim_fn (D : Gd g) {f : FId} {code : FnC} {fa : Addr} (hc : g.c.P.code f = some code) (hfa : FnOk g.c code fa) {vs : List V} {us : List Value} (hv : VsRel W vs us) :
    Sim g W (call (.ref fa) us []) (callF g.c.P (phi g.c.P g.d) g.hd f vs []) VR := SimC.sim (D.F f code fa g W vs us hc hfa rfl rfl hv)

theorem keep_fn {c : Cx} {code : FnC} {fa : Addr} (h : FnOk c code fa) : keepIn c.K (.ref fa) = true := by
  obtain ⟨oc, od, osl, name, qual, params, dV, kV, doc, pm, an, cdv, ct, dvs, h, _⟩ := h.fn
  unfold keepIn
  dsimp only
  rw [h]
theorem keeps_builtin {M : Model} {id : String} (h : Heap) : ∃ k, (k = Keeper.frame ∨ k = Keeper.machine ∨ k = Keeper.boundFrame) ∧ Looks M h (keeperOf (.builtin id)) k := ⟨.machine, .inr (.inl rfl), Looks.of_pure rfl⟩
theorem keeps_type {M : Model} {id : String} (h : Heap) : ∃ k, (k = Keeper.frame ∨ k = Keeper.machine ∨ k = Keeper.boundFrame) ∧ Looks M h (keeperOf (.type id)) k := ⟨.machine, .inr (.inl rfl), Looks.of_pure rfl⟩

theorem init_under {A : Around} (hA : AOk g A) (hk : g.k + 1 ≤ 6) {C : Addr} {us : List Value} {kw : List (Str × Value)} : AOk g.up (A.under (.builtin "type.__call__" ⟨.ref C :: us, kw⟩)) where
  fo := hA.fo
  frames := hA.frames
  hd := hA.hd
  k := hk
  depth := by rw [depth_under_kw]; have := hA.depth; show A.depth + 1 + 8 * g.d ≤ 980 + (g.k + 1); omega
  units := by
    have := hA.units
    show (A.under (.builtin "type.__call__" ⟨.ref C :: us, kw⟩)).units + 60 * g.d ≤ 9800 + (g.k + 1)
    have : (A.under (.builtin "type.__call__" ⟨.ref C :: us, kw⟩)).units = A.units + 1 := rfl
    omega

theorem bind_run {α β : Type} (m : M α) (f : α → M β) (st : S) : (m >>= f) st = (match m st with | .fail => .fail | .ok a s' => f a s' | .exc x s' => .exc x s') := rfl

theorem make_own {prog : Program} {w : World} {A : Around} {K : Frag} {C : Addr} {R : Result → Shared → Prop} {s : Shared} {rest : List Value} {kw : List (Str × Value)} {fI : Addr} (X : K.In s.heap) (hm : makesIn K C = true)
    (hi : findIn K (.ref C) "__init__" = some (some (.ref fI))) (hf : isFn K (.ref fI) = true)
    (h : codeAny (model prog w) (A.under (.builtin "type.__call__" ⟨.ref C :: rest, kw⟩)) (.call (.ref fI) ⟨.ref (s.heap.objs.size + 1) :: rest, kw⟩) (InitBack (s.heap.objs.size + 1) R) { s with heap := (s.heap.push emptyDict).push (instObj C s.heap.objs.size) }) :
    codeAny (model prog w) A (.call (.ref C) ⟨rest, kw⟩) R s := by
  obtain ⟨hh, g, d, t, os⟩ := s
  exact make_core (makes_of X hm) (looks_findIn X hi) (fun self => bind_fn X self (beq_iff_eq.mp hf)) (.inl rfl) h

theorem St.newInst {g : G} {W : Wd} {m : Str → Option Value} {st : S} {s : Shared} (hS : St g W m st s) :
    St g (W.add (s.heap.objs.size + 1) s.heap.objs.size true) m { st with heap := upd st.heap st.next (.inst []), next := st.next + 1 } { s with heap := (s.heap.push emptyDict).push (instObj g.c.C s.heap.objs.size) } := by
  have I := (hS.inv.push emptyDict).push (instObj g.c.C s.heap.objs.size)
  have hsz : (s.heap.push emptyDict).objs.size = s.heap.objs.size + 1 := Heap.size_push ..
  refine ⟨?_, by show st.next + 1 = W.n + 1; rw [hS.next], hS.loc.ext (W.ext_add _ _ _)⟩
  have hd1 : (s.heap.push emptyDict).get? s.heap.objs.size = some emptyDict := Heap.get?_push_size _ rfl
  have hd : ((s.heap.push emptyDict).push (instObj g.c.C s.heap.objs.size)).get? s.heap.objs.size = some emptyDict := Heap.get?_push_of_some _ hd1
  have hx : ((s.heap.push emptyDict).push (instObj g.c.C s.heap.objs.size)).get? (s.heap.objs.size + 1) = some (instObj g.c.C s.heap.objs.size) := by
    rw [← hsz]; exact Heap.get?_push_size _ rfl
  have := I.add (a := s.heap.objs.size + 1) (d := s.heap.objs.size) (two := true) (o := .inst []) (hS.inv.unlab_size (Nat.le_succ _)) (Nat.le_succ_of_le hS.inv.sz)
    (fun _ => ⟨hS.inv.unlab_size (Nat.le_refl _), Nat.ne_of_lt (Nat.lt_succ_self _), hS.inv.sz, _, hd⟩) (fun _ => rfl) ⟨[], 0, by rw [Wd.ρ_add, Wd.δ_add]; exact hx, by rw [Wd.δ_add]; exact hd, trivial⟩
  rw [hS.next]; exact this

theorem sim_new (D : Gd g) {vs : List V} {us : List Value} (hv : VsRel W vs us) : Sim g W (call (.ref g.c.C) us []) (newM g.c.P (phi g.c.P g.d) g.hd vs) VR := by
  intro A W₁ mm st s Q E hA hx hS hP
  have hP : Post g W₁ s VR Q E ((callF g.c.P (phi g.c.P g.d) g.hd (.meth "__init__") (.ref st.next :: vs) [] >>= fun r => if isNone r = true then pure (.ref st.next) else failM : M V) { st with heap := upd st.heap st.next (.inst []), next := st.next + 1 }) := hP
  have hS₁ := hS.newInst
  have href : VRel (W₁.add (s.heap.objs.size + 1) s.heap.objs.size true) (.ref st.next) (.ref (s.heap.objs.size + 1)) := by
    rw [hS.next]; exact ⟨Nat.lt_succ_self _, by rw [Wd.ρ_add]⟩
  have hx₁ := W₁.ext_add (s.heap.objs.size + 1) s.heap.objs.size true
  generalize ({ st with heap := upd st.heap st.next (.inst []), next := st.next + 1 } : S) = st₁ at hP hS₁
  have hQ := (hP.move hx₁ (Same.heap (h := (s.heap.push emptyDict).push (instObj g.c.C s.heap.objs.size)))).bind (R := VR) (Q := fun a s' => a = .none ∧ Q (.ref (s.heap.objs.size + 1)) s') fun b st' W' mm' s' a hx' hS' hs' hr hP' => by
    replace hP' := Post.ite hP'; obtain ⟨hb, hP'⟩ := hP'
    obtain rfl := isNone_eq hb
    exact ⟨hr, hP' W' mm' s' _ (Ext.refl _) hS' (Same.refl _) (href.ext hx')⟩
  obtain ⟨code, hc⟩ := callF_code hQ
  obtain ⟨fa, hfa, hfn⟩ := D.C.fn _ _ hc
  refine wpAny_call (make_own (in_base D.C hS) D.C.makes hfa.1 hfa.2 ?_)
  exact D.F (.meth "__init__") code fa g.up _ (.ref st.next :: vs) (.ref (s.heap.objs.size + 1) :: us) hc hfn rfl rfl ⟨href, (hv.ext hx).ext hx₁⟩ _ _ mm st₁ _ _ (init_under hA (Nat.le_trans (Nat.succ_le_succ D.k) (by decide))) (Ext.refl _) hS₁.up hQ.up

theorem sim_method (D : Gd g) {n : Str} {k : Callee × Nat} {p : Value × List Value} (h : CallRel g.c n W k p) {vs : List V} {us : List Value} (hv : VsRel W vs us) :
    Sim g W (call p.1 (p.2 ++ us) []) (methodM g.c.P (phi g.c.P g.d) g.hd k.1 k.2 n vs) VR := by
  obtain ⟨k, i⟩ := k
  obtain ⟨f, first⟩ := p
  obtain ⟨hi, h2, h⟩ := h
  dsimp only at h2 h hi ⊢
  subst h2
  cases k with
  | inst =>
    obtain ⟨fa, code, rfl, hfa, hc, hfn⟩ := h
    exact sim_fn D hc hfn ⟨⟨hi, rfl⟩, hv⟩
  | list =>
    obtain rfl : f = _ := h
    match vs, us, hv with
    | [v], [u], hv => exact sim_append hi hv.1
    | [], _, _ => exact Sim.fail
    | _ :: _ :: _, _, _ => exact Sim.fail

theorem keeps_callee {n : Str} {k : Callee × Nat} {p : Value × List Value} (h : CallRel g.c n W k p) {M : Model} (hp : Heap) (X : g.c.K.In hp) : ∃ k, (k = Keeper.frame ∨ k = Keeper.machine ∨ k = Keeper.boundFrame) ∧ Looks M hp (keeperOf p.1) k := by
  obtain ⟨k, i⟩ := k
  obtain ⟨hi, h2, h⟩ := h
  cases k with
  | inst => obtain ⟨fa, code, q, hfa, hc, hfn⟩ := h; rw [q]; exact keeps_K (keep_fn hfn) hp X
  | list => rw [show p.1 = _ from h]; exact keeps_builtin hp
end
end Mine
end

section
open PySem PySem.W PySem.Calls PyProof.Rows
set_option maxRecDepth 100000
set_option linter.unusedVariables false
set_option linter.unusedSimpArgs false
namespace Mine

/-! exceptions on their way: traceback records, frames -/
structure Calm (c : Cx) (W : Wd) (h h' : Heap) : Prop where
  base : c.base.StaysIn h'
  keep : ∀ a o, W.lab a ≠ none → W.lab a ≠ some .frame → h.get? a = some o → h'.get? a = some o
  frame : ∀ a o, W.lab a = some .frame → h.get? a = some o → ∃ sl, h'.get? a = some { o with slots := sl }
  size : h.objs.size ≤ h'.objs.size

section
variable {c : Cx} {fr : Frs} {pins : List (Addr × Obj)} {W : Wd} {σ : Nat → Option AObj} {h h' h'' : Heap}

theorem Inv.calm (I : Inv c fr pins W σ h) (k : Calm c W h h') : Inv c fr pins W σ h' := by
  refine I.ofKeep (x := h.objs.size) (I.unlab_size (Nat.le_refl _)) ⟨k.base, fun a o ha hf _ e => k.keep a o ha hf e, fun a o ha e => let ⟨sl, q⟩ := k.frame a o ha e; ⟨_, q⟩, Nat.le_trans I.sz k.size⟩ rfl fun p hp => ?_
  obtain ⟨o, es, ep, ho, hd, r⟩ := I.frs p hp
  obtain ⟨sl, hs⟩ := k.frame _ _ (I.lfr p hp) ho
  exact ⟨_, es, ep, hs, hd, r⟩
theorem Calm.trans (x : Calm c W h h') (y : Calm c W h' h'') : Calm c W h h'' :=
  ⟨y.base, fun a o ha hf e => y.keep a o ha hf (x.keep a o ha hf e), fun a o ha e => let ⟨sl, q⟩ := x.frame a o ha e; let ⟨sl', q'⟩ := y.frame a _ ha q; ⟨sl', q'⟩, Nat.le_trans x.size y.size⟩
theorem Inv.calmRefl (I : Inv c fr pins W σ h) : Calm c W h h := ⟨I.stays, fun _ _ _ _ e => e, fun _ o _ e => ⟨o.slots, e⟩, Nat.le_refl _⟩
theorem Inv.calmPush (I : Inv c fr pins W σ h) (o : Obj) : Calm c W h (h.push o) :=
  ⟨fun a o' e => Heap.get?_push_of_some _ (I.stays a o' e), fun _ _ _ _ e => Heap.get?_push_of_some _ e, fun _ o' _ e => ⟨o'.slots, Heap.get?_push_of_some _ e⟩, by rw [Heap.size_push]; exact Nat.le_succ _⟩
theorem Inv.calmOther (I : Inv c fr pins W σ h) {x : Addr} (hx : W.lab x = none) (hb : c.base.get? x = none) (hs : Heap.SameBut x h h') : Calm c W h h' :=
  ⟨fun a o e => (hs.2 a (fun q => by rw [q, hb] at e; cases e)).trans (I.stays a o e), fun a o ha _ e => (hs.2 a (fun q => ha (q ▸ hx))).trans e,
    fun a o ha e => ⟨o.slots, (hs.2 a (fun q => by rw [q, hx] at ha; cases ha)).trans e⟩, by rw [hs.1]; exact Nat.le_refl _⟩
theorem Inv.calmSlots (I : Inv c fr pins W σ h) {S : List Addr} (hS : ∀ b ∈ S, W.lab b = some .frame) (hs : Heap.SlotsOnly S h h') : Calm c W h h' :=
  ⟨fun a o e => (hs.2.1 a (fun q => by rw [I.fresh (lab_ne (hS a q))] at e; cases e)).trans (I.stays a o e), fun a o _ hf e => (hs.2.1 a (fun q => hf (hS a q))).trans e, fun a o _ e => hs.2.2 a o e, by rw [hs.1]; exact Nat.le_refl _⟩
end

section
variable {g : G} {W : Wd} {env : Env}

theorem St.calm {m : Str → Option Value} {st : S} {s : Shared} (hS : St g W m st s) {h' : Heap} (k : Calm g.c W s.heap h') : St g W m st { s with heap := h' } := ⟨hS.inv.calm k, hS.next, hS.loc⟩

theorem frame_lab {m : Str → Option Value} {st : S} {s : Shared} (hS : St g W m st s) {L : Addr} (hL : L ∈ g.L :: g.fr.map (·.1)) : W.lab L = some .frame ∧ ∃ m', s.heap.Ns L m' := by
  rcases List.mem_cons.mp hL with rfl | hL
  · exact ⟨hS.inv.lfr _ (.head _), _, hS.inv.frs _ (.head _)⟩
  · obtain ⟨p, hp, rfl⟩ := List.mem_map.mp hL
    exact ⟨hS.inv.lfr p (.tail _ hp), _, hS.inv.frs p (.tail _ hp)⟩

theorem funFrames {m : Str → Option Value} {st : S} {s : Shared} (hS : St g W m st s) : ∀ (l : List Env), (∀ e ∈ l, e.scope.kind ≠ .module ∧ ∃ L, e.frame = some L ∧ L ∈ g.L :: g.fr.map (·.1)) → s.heap.FunFrames g.c.base l
  | [], _ => trivial
  | e :: r, hl => by
    obtain ⟨hk, L, hf, hL⟩ := hl e (.head _)
    obtain ⟨h1, m', o, es, ep, ho, hd, _⟩ := frame_lab hS hL
    exact ⟨hk, ⟨L, o, hf, hS.inv.fresh (lab_ne h1), ho, fun vs q => by rw [hd] at q; cases q⟩, funFrames hS r fun e' he' => hl e' (.tail _ he')⟩
theorem frames_lab {m : Str → Option Value} {st : S} {s : Shared} (hS : St g W m st s) (hF : FOk g) : ∀ b ∈ g.fenvs.filterMap (·.frame), W.lab b = some .frame := by
  intro b hb
  obtain ⟨e, he, hf⟩ := List.mem_filterMap.mp hb
  obtain ⟨_, L, hf', hL⟩ := hF e he
  rw [hf'] at hf; cases hf
  exact (frame_lab hS hL).1

/-- an exception with a traceback -/
noncomputable def ThrownT (c : Cx) (W : Wd) (h : Heap) (e : Value) : Prop :=
  ∃ a oe vs T oT ts, e = .ref a ∧ W.lab a = none ∧ c.base.get? a = none ∧ h.get? a = some oe ∧ clsIs c oe.cls ∧ oe.data = .fields vs ∧ vs[2]? = some .none ∧
    vs[1]? = some (.ref T) ∧ T ≠ a ∧ W.lab T = none ∧ c.base.get? T = none ∧ h.get? T = some oT ∧ oT.data = .fields ts ∧ 3 < ts.size
theorem ThrownT.thrown {c : Cx} {h : Heap} {e : Value} (t : ThrownT c W h e) : Thrown c W h e := by
  obtain ⟨a, oe, vs, T, oT, ts, h1, h2, h3, h4, h5, h6, h7, h8, h9, h10, h11, h12, h13, h14⟩ := t
  exact ⟨a, oe, vs, h1, h2, h3, h4, h5, h6, h7, .inr ⟨T, oT, ts, h8, h9, h10, h11, h12, h13, h14⟩⟩

theorem cls_mapFields (o : Obj) (f) : (o.mapFields f).cls = o.cls := Obj.cls_mapFields _ _

theorem note_entry {A : Around} {E : Value → Shared → Prop} {m : Str → Option Value} {st : S} {s : Shared} {e L : Addr} {oe : Obj} {vs : Array Value} {head : Value} {hadNext : Bool} {Q : Unit → Shared → Prop} {rest : List Env}
    (hfr : A.frames = some g.fenvs) (hF : FOk g) (hT : g.fenvs = env :: rest) (hf : env.frame = some L) (hS : St g W m st s)
    (h1 : W.lab e = none) (h2 : g.c.base.get? e = none) (he : s.heap.get? e = some oe) (hc : clsIs g.c oe.cls) (hd : oe.data = .fields vs) (h3 : vs[2]? = some .none)
    (h : ∀ s', St g W m st s' → Same s s' → ThrownT g.c W s'.heap (.ref e) → Q () s') :
    wpAny (model g.c.prog g.c.w) A (do let a ← frameOf env; let pl ← entryPlaceOf L hadNext; let b ← EntryCells.newEntry head a .none (rawInt L) .none pl; setField (.ref e) 1 b) Q E s := by
  have hl := funFrames hS g.fenvs hF
  have hlab := frames_lab hS hF
  rw [hT] at hl hlab hfr
  refine wpAny_bind (wpAny_frameOf_fun hfr hl hf fun h₁ hs₁ => ?_)
  have hS₁ := hS.calm (hS.inv.calmSlots hlab hs₁)
  refine wpAny_bind (wpAny_entryPlaceOf fun pl hpl => ?_)
  unfold EntryCells.newEntry newFields
  refine wpAny_bind (wpAny_newObj_type ?_ (hpl.sizeOk5 _ _ _ _ _))
  have hee : e ∉ (env :: rest).filterMap (·.frame) := fun q => by rw [hlab e q] at h1; cases h1
  have he₁ : h₁.get? e = some oe := (hs₁.2.1 e hee).trans he
  have hsz : 1 < vs.size := Nat.lt_trans (by decide : 1 < 2) (Array.getElem?_eq_some_iff.mp h3).1
  generalize hob : ({ cls := .type "traceback", dict := none, data := .fields ([head, .ref L, .none, rawInt L, .none] ++ (if pl.isEmpty then List.replicate 6 Value.none else pl)).toArray } : Obj) = ob
  have hS₂ := hS₁.calm (hS₁.inv.calmPush ob)
  dsimp only at hS₂
  have he₂ := Heap.get?_push_of_some (h := h₁) ob he₁
  have hTe : h₁.objs.size ≠ e := Nat.ne_of_gt (Heap.lt_size he₁)
  have hd₃ := Obj.data_mapFields hd (·.setIfInBounds 1 (Value.ref h₁.objs.size))
  refine wpAny_setField he₂ hd hsz (h _ (hS₂.calm (hS₂.inv.calmOther h1 h2 (Heap.SameBut.update ..))) Same.heap ?_)
  have he₃ := Heap.get?_update_self (Obj.mapFields (·.setIfInBounds 1 (Value.ref h₁.objs.size))) he₂ (Obj.isFreed_of_fields hd₃)
  have hT₃ := (Heap.get?_update_other (h₁.push ob) (Obj.mapFields (·.setIfInBounds 1 (Value.ref h₁.objs.size))) (Ne.symm hTe)).trans (Heap.get?_push_size h₁ (by rw [← hob]; rfl))
  refine ⟨e, _, _, h₁.objs.size, _, ([head, .ref L, .none, rawInt L, .none] ++ (if pl.isEmpty then List.replicate 6 Value.none else pl)).toArray, rfl, h1, h2, he₃, by rw [cls_mapFields]; exact hc, hd₃, by rw [Array.getElem?_setIfInBounds_ne (by decide)]; exact h3,
    by simp [hsz], hTe, hS₁.inv.unlab_size (Nat.le_refl _), hS₁.inv.unbase_size (Nat.le_refl _), hT₃, by rw [← hob], by simp only [List.size_toArray, List.length_append, List.length_cons, List.length_nil]; omega⟩

theorem sim_noteFrame {A : Around} {m : Str → Option Value} {st : S} {s : Shared} {e : Value} {E : Value → Shared → Prop} {rest : List Env} {L : Addr} {Q : Unit → Shared → Prop}
    (hfr : A.frames = some g.fenvs) (hF : FOk g) (hT : g.fenvs = env :: rest) (hf : env.frame = some L) (hS : St g W m st s) (ht : Thrown g.c W s.heap e)
    (h : ∀ s', St g W m st s' → Same s s' → ThrownT g.c W s'.heap e → Q () s') : wpAny (model g.c.prog g.c.w) A (noteFrame e env) Q E s := by
  obtain ⟨a, oe, vs, rfl, h1, h2, h3, h4, h5, h6, h7⟩ := ht
  unfold noteFrame
  simp only [hf]
  rcases h7 with h7 | ⟨T, oT, ts, k1, k2, k3, k4, k5, k6, k7⟩
  · refine wpAny_bind (wpAny_field h3 h5 h7 ?_)
    rw [if_neg (by decide)]
    exact note_entry hfr hF hT hf hS h1 h2 h3 h4 h5 h6 h
  · refine wpAny_bind (wpAny_field h3 h5 k1 ?_)
    rw [if_pos (show (Value.ref T != Value.none) = true from by simp)]
    have hts : ts[3]? = some (ts[3]'k7) := Array.getElem?_eq_getElem k7
    refine wpAny_bind (wpAny_field k5 k6 hts ?_)
    split
    · exact wpAny_pure (h s hS (Same.refl _) ⟨a, oe, vs, T, oT, ts, rfl, h1, h2, h3, h4, h5, h6, k1, k2, k3, k4, k5, k6, k7⟩)
    · refine wpAny_bind (wpAny_setField k5 k6 k7 ?_)
      have hS₁ := hS.calm (hS.inv.calmOther k3 k4 (Heap.SameBut.update (f := Obj.mapFields (·.setIfInBounds 3 Value.none)) ..))
      have he₁ := (Heap.get?_update_other s.heap (Obj.mapFields (·.setIfInBounds 3 Value.none)) k2).trans h3
      exact note_entry hfr hF hT hf hS₁ h1 h2 he₁ h4 h5 h6 fun s' hS' hs' ht' => h s' hS' (Same.heap.trans hs') ht'

theorem sim_noted {A : Around} {m : Str → Option Value} {st : S} {s : Shared} {e : Value} {E : Value → Shared → Prop} {rest : List Env} {L : Addr}
    (hfr : A.frames = some g.fenvs) (hF : FOk g) (hT : g.fenvs = env :: rest) (hf : env.frame = some L) (hS : St g W m st s) (ht : Thrown g.c W s.heap e)
    (h : ∀ s', St g W m st s' → Same s s' → ThrownT g.c W s'.heap e → E e s') : notedBy (model g.c.prog g.c.w) A env E e s := sim_noteFrame hfr hF hT hf hS ht h

theorem sim_flight {A : Around} {m : Str → Option Value} {st : S} {s : Shared} {e : Value} {E : Value → Shared → Prop} {f : Option Addr} {Q : Unit → Shared → Prop}
    (hS : St g W m st s) (ht : ThrownT g.c W s.heap e) (h : ∀ s', St g W m st s' → Same s s' → ThrownT g.c W s'.heap e → Q () s') : wpAny (model g.c.prog g.c.w) A (setFlight e f) Q E s := by
  obtain ⟨a, oe, vs, T, oT, ts, rfl, h1, h2, h3, h4, h5, h6, k1, k2, k3, k4, k5, k6, k7⟩ := ht
  unfold setFlight
  refine wpAny_bind (wpAny_field h3 h5 k1 ?_)
  rw [if_pos (show (Value.ref T != Value.none) = true from by simp)]
  refine wpAny_setField k5 k6 k7 ?_
  have hS₁ := hS.calm (hS.inv.calmOther k3 k4 (Heap.SameBut.update (f := Obj.mapFields (·.setIfInBounds 3 (f.elim .none fun f => rawInt f))) ..))
  have he₁ := (Heap.get?_update_other s.heap (Obj.mapFields (·.setIfInBounds 3 (f.elim .none fun f => rawInt f))) k2).trans h3
  have hd₃ := Obj.data_mapFields k6 (·.setIfInBounds 3 (f.elim .none fun f => rawInt f))
  exact h _ hS₁ Same.heap ⟨a, oe, vs, T, _, _, rfl, h1, h2, he₁, h4, h5, h6, k1, k2, k3, k4, Heap.get?_update_self _ k5 (Obj.isFreed_of_fields hd₃), hd₃, by simp [k7]⟩

theorem sim_cameBack {A : Around} {m : Str → Option Value} {st : S} {s : Shared} {e : Value} {E : Value → Shared → Prop}
    (hS : St g W m st s) (ht : ThrownT g.c W s.heap e) (h : ∀ s', St g W m st s' → Same s s' → ThrownT g.c W s'.heap e → E e s') : cameBackBy (model g.c.prog g.c.w) A env E e s := by
  have ht' := ht
  obtain ⟨a, oe, vs, T, oT, ts, rfl, h1, h2, h3, h4, h5, h6, k1, k2, k3, k4, k5, k6, k7⟩ := ht
  unfold cameBackBy
  refine wpAny_bind (wpAny_field h3 h5 k1 ?_)
  rw [if_neg (by simp)]
  exact sim_flight hS ht' h

theorem sim_leaving {A : Around} {m : Str → Option Value} {st : S} {s : Shared} {e : Value} {E : Value → Shared → Prop} {rest : List Env} {L : Addr} {Q : Unit → Shared → Prop}
    (hfr : A.frames = some g.fenvs) (hF : FOk g) (hT : g.fenvs = env :: rest) (hf : env.frame = some L) (hS : St g W m st s) (ht : Thrown g.c W s.heap e)
    (h : ∀ s', St g W m st s' → Same s s' → ThrownT g.c W s'.heap e → Q () s') : wpAny (model g.c.prog g.c.w) A (leaving env e) Q E s := by
  unfold leaving
  exact wpAny_bind (sim_noteFrame hfr hF hT hf hS ht fun s' hS' hs' ht' => sim_flight hS' ht' fun s'' hS'' hs'' ht'' => h s'' hS'' (hs'.trans hs'') ht'')
end
end Mine
end

section
open PySem PySem.W PySem.Calls PyProof.Rows
set_option maxRecDepth 100000
set_option linter.unusedVariables false
set_option linter.unusedSimpArgs false
namespace Mine

/-! pins -/
noncomputable def Wd.lbl (W : Wd) (Is : List Addr) : Wd := { W with lab := fun a => if a ∈ Is then some .pin else W.lab a }
noncomputable def Wd.unl (W : Wd) (Is : List Addr) : Wd := { W with lab := fun a => if a ∈ Is then none else W.lab a }
theorem Wd.ext_lbl (W : Wd) (Is : List Addr) : Ext W (W.lbl Is) := ⟨Nat.le_refl _, fun _ _ => rfl⟩
theorem Wd.ext_unl (W : Wd) (Is : List Addr) : Ext W (W.unl Is) := ⟨Nat.le_refl _, fun _ _ => rfl⟩
noncomputable def pinsAt (Is : List Addr) (h : Heap) : List (Addr × Obj) := Is.filterMap fun a => (h.get? a).map fun o => (a, o)
theorem mem_pinsAt {Is : List Addr} {h : Heap} {p : Addr × Obj} (hp : p ∈ pinsAt Is h) : p.1 ∈ Is ∧ h.get? p.1 = some p.2 := by
  obtain ⟨a, ha, e⟩ := List.mem_filterMap.mp hp
  obtain ⟨o, ho, rfl⟩ := Option.map_eq_some_iff.mp e
  exact ⟨ha, ho⟩
theorem pinsAt_mem {Is : List Addr} {h : Heap} {a : Addr} {o : Obj} (ha : a ∈ Is) (e : h.get? a = some o) : (a, o) ∈ pinsAt Is h :=
  List.mem_filterMap.mpr ⟨a, ha, by rw [e]; rfl⟩

section
variable {c : Cx} {fr : Frs} {pins ps : List (Addr × Obj)} {W : Wd} {σ : Nat → Option AObj} {h h' : Heap} {Is : List Addr}

theorem Inv.lbl (I : Inv c fr pins W σ h) (hl : ∀ a ∈ Is, W.lab a = none) (hb : ∀ a ∈ Is, c.base.get? a = none) (ht : ∀ a ∈ Is, ∃ o, h.get? a = some o) : Inv c fr pins (W.lbl Is) σ h := by
  have old : ∀ x t, W.lab x = some t → (W.lbl Is).lab x = some t := fun x t hx => by
    show (if x ∈ Is then some Tag.pin else W.lab x) = some t
    rw [if_neg (fun q => by rw [hl x q] at hx; cases hx)]; exact hx
  refine ⟨I.stays, I.frs, I.pin, I.dom, fun i o e => (I.own i o e).move (W.ext_lbl Is) rfl (fun _ _ => rfl) (fun _ _ x => x) (fun _ _ _ x => x), fun p hp => old _ _ (I.lfr p hp), fun p hp => old _ _ (I.lpin p hp), fun i o e n => old _ _ (I.lown i o e n), fun i fs e => old _ _ (I.ldic i fs e), ?_, I.nodup, I.sz⟩
  intro a ha
  by_cases q : a ∈ Is
  · have e : (W.lbl Is).lab a = some .pin := if_pos q
    exact ⟨⟨hb a q, fun z => absurd e z⟩, ht a q⟩
  · have e : (W.lbl Is).lab a = W.lab a := if_neg q
    rw [e] at ha ⊢
    exact I.new a ha
theorem Inv.pinUp (I : Inv c fr pins W σ h) (hl : ∀ a ∈ Is, W.lab a = some .pin) : Inv c fr (pinsAt Is h ++ pins) W σ h :=
  ⟨I.stays, I.frs, fun p hp => (List.mem_append.mp hp).elim (fun q => (mem_pinsAt q).2) (I.pin p), I.dom, I.own, I.lfr, fun p hp => (List.mem_append.mp hp).elim (fun q => hl _ (mem_pinsAt q).1) (I.lpin p), I.lown, I.ldic, I.new, I.nodup, I.sz⟩
theorem Inv.pinDown (I : Inv c fr (ps ++ pins) W σ h) : Inv c fr pins W σ h :=
  ⟨I.stays, I.frs, fun p hp => I.pin p (List.mem_append_right _ hp), I.dom, I.own, I.lfr, fun p hp => I.lpin p (List.mem_append_right _ hp), I.lown, I.ldic, I.new, I.nodup, I.sz⟩
theorem Inv.szOf {L : Addr} {m : Str → Option Value} (I : Inv c ((L, m) :: fr) pins W σ h) (hk : ∀ o, h.get? L = some o → ∃ o', h'.get? L = some o') : c.base.objs.size ≤ h'.objs.size := by
  have lL := I.lfr _ (.head _)
  obtain ⟨hb, o, e⟩ := I.new _ (lab_ne lL)
  obtain ⟨o', e'⟩ := hk o e
  exact Nat.le_of_lt (Nat.lt_of_le_of_lt (hb.2 (by rw [lL]; simp)) (Heap.lt_size e'))
/-- pinned objects change -/
theorem Inv.setPins {L : Addr} {m : Str → Option Value} (I : Inv c ((L, m) :: fr) pins W σ h) (hl : ∀ a ∈ Is, W.lab a = some .pin) (hne : ∀ p ∈ pins, p.1 ∉ Is) (hs : ∀ a o, a ∉ Is → h.get? a = some o → h'.get? a = some o)
    (ht : ∀ a ∈ Is, ∃ o, h'.get? a = some o) : Inv c ((L, m) :: fr) pins W σ h' := by
  have out : ∀ a t, W.lab a = some t → t ≠ .pin → a ∉ Is := fun a t ha hn q => hn (Option.some.inj (ha.symm.trans (hl a q)))
  refine ⟨fun a o e => hs a o (fun q => by rw [I.fresh (lab_ne (hl a q))] at e; cases e) (I.stays a o e), fun p hp => ?_, fun p hp => hs _ _ (hne p hp) (I.pin p hp), I.dom, fun i o e => ?_, I.lfr, I.lpin, I.lown, I.ldic, fun a ha => ⟨(I.new a ha).1, ?_⟩, I.nodup, ?_⟩
  · obtain ⟨o, es, ep, ho, r⟩ := I.frs p hp
    exact ⟨o, es, ep, hs _ _ (out _ _ (I.lfr p hp) (by simp)) ho, r⟩
  · exact (I.own i o e).move (Ext.refl W) rfl (fun _ _ => rfl) (fun n q hq => hs _ _ (out _ _ (I.lown i o e n) (by simp)) hq) (fun fs e' q hq => hs _ _ (out _ _ (I.ldic i fs (e' ▸ e)) (by simp)) hq)
  · by_cases q : a ∈ Is
    · exact ht a q
    · obtain ⟨_, o, e⟩ := I.new a ha; exact ⟨o, hs a o q e⟩
  · exact I.szOf fun o e => ⟨o, hs _ _ (out _ _ (I.lfr _ (.head _)) (by simp)) e⟩
theorem Inv.dropPins {L : Addr} {m : Str → Option Value} (I : Inv c ((L, m) :: fr) pins W σ h) (hl : ∀ a ∈ Is, W.lab a = some .pin) (hne : ∀ p ∈ pins, p.1 ∉ Is) (hs : ∀ a o, a ∉ Is → h.get? a = some o → h'.get? a = some o) :
    Inv c ((L, m) :: fr) pins (W.unl Is) σ h' := by
  have out : ∀ a t, W.lab a = some t → t ≠ .pin → a ∉ Is := fun a t ha hn q => hn (Option.some.inj (ha.symm.trans (hl a q)))
  have keep : ∀ a t, W.lab a = some t → a ∉ Is → (W.unl Is).lab a = some t := fun a t ha q => by
    show (if a ∈ Is then none else W.lab a) = some t
    rw [if_neg q]; exact ha
  refine ⟨fun a o e => hs a o (fun q => by rw [I.fresh (lab_ne (hl a q))] at e; cases e) (I.stays a o e), fun p hp => ?_, fun p hp => hs _ _ (hne p hp) (I.pin p hp), I.dom, fun i o e => ?_, fun p hp => keep _ _ (I.lfr p hp) (out _ _ (I.lfr p hp) (by simp)), fun p hp => keep _ _ (I.lpin p hp) (hne p hp),
    fun i o e n => keep _ _ (I.lown i o e n) (out _ _ (I.lown i o e n) (by simp)), fun i fs e => keep _ _ (I.ldic i fs e) (out _ _ (I.ldic i fs e) (by simp)), fun a ha => ?_, I.nodup, ?_⟩
  · obtain ⟨o, es, ep, ho, r⟩ := I.frs p hp
    exact ⟨o, es, ep, hs _ _ (out _ _ (I.lfr p hp) (by simp)) ho, r⟩
  · exact (I.own i o e).move (W.ext_unl Is) rfl (fun _ _ => rfl) (fun n q hq => hs _ _ (out _ _ (I.lown i o e n) (by simp)) hq) (fun fs e' q hq => hs _ _ (out _ _ (I.ldic i fs (e' ▸ e)) (by simp)) hq)
  · by_cases q : a ∈ Is
    · exact absurd (show (if a ∈ Is then none else W.lab a) = none by rw [if_pos q]) ha
    · have ha' : W.lab a ≠ none := fun z => ha (by show (if a ∈ Is then none else W.lab a) = none; rw [if_neg q]; exact z)
      have e' : (W.unl Is).lab a = W.lab a := if_neg q
      obtain ⟨b, o, e⟩ := I.new a ha'; rw [e']; exact ⟨b, o, hs a o q e⟩
  · exact I.szOf fun o e => ⟨o, hs _ _ (out _ _ (I.lfr _ (.head _)) (by simp)) e⟩
end

noncomputable def G.pin (g : G) (ps : List (Addr × Obj)) : G := { g with pins := ps ++ g.pins }
section
variable {g : G} {W : Wd} {env : Env} {ev : AEnv} {ps : List (Addr × Obj)} {Is : List Addr}
theorem AOk.pin {A : Around} (h : AOk g A) : AOk (g.pin ps) A := ⟨h.fo, h.frames, h.hd.imp_right fun ⟨a, e, oe, vs, b, c, d⟩ => ⟨a, e, oe, vs, b, List.mem_append_right _ c, d⟩, h.k, h.depth, h.units⟩
theorem EnvOk.pin (h : EnvOk g W ev env) : EnvOk (g.pin ps) W ev env := ⟨h.kind, h.names, h.globals, h.builtins, h.locals, h.hd⟩
theorem Gd.pin (h : Gd g) : Gd (g.pin ps) := ⟨h.C, h.F, h.k⟩
theorem St.pinUp {m : Str → Option Value} {st : S} {s : Shared} (h : St g W m st s) (hl : ∀ a ∈ Is, W.lab a = some .pin) : St (g.pin (pinsAt Is s.heap)) W m st s := ⟨h.inv.pinUp hl, h.next, h.loc⟩
theorem St.pinDown {m : Str → Option Value} {st : S} {s : Shared} (h : St (g.pin ps) W m st s) : St g W m st s := ⟨Inv.pinDown (ps := ps) h.inv, h.next, h.loc⟩
theorem St.pinned {m : Str → Option Value} {st : S} {s : Shared} {h₀ : Heap} (h : St (g.pin (pinsAt Is h₀)) W m st s) (ht : ∀ a ∈ Is, ∃ o, h₀.get? a = some o) : (∀ a ∈ Is, s.heap.get? a = h₀.get? a) ∧ ∀ a ∈ Is, W.lab a = some .pin := by
  refine ⟨fun a ha => ?_, fun a ha => ?_⟩
  · obtain ⟨o, e⟩ := ht a ha
    exact (h.inv.pin (a, o) (List.mem_append_left _ (pinsAt_mem ha e))).trans e.symm
  · obtain ⟨o, e⟩ := ht a ha
    exact h.inv.lpin (a, o) (List.mem_append_left _ (pinsAt_mem ha e))

/-! loops -/
noncomputable def FlowRel (W : Wd) : Flow → PySem.Flow → Prop
  | .next, f => f = .next
  | .brk, f => f = .brk
  | .cont, f => f = .cont
  | .ret v, f => ∃ u, f = .ret u ∧ VRel W v u

/-- what is asked behind the head of a loop -/
noncomputable def NPost (g : G) (W : Wd) (s : Shared) (Is : List Addr) (At : Heap → Prop) (Qt Qf : Shared → Prop) (r : R Bool) : Prop := match r with
  | .ok true st' => ∀ W' mm' s', Ext W W' → (∀ a ∈ Is, W'.lab a = some .pin) → St g W' mm' st' s' → Same s s' → At s'.heap → Qt s'
  | .ok false st' => ∀ W' mm' s', Ext W W' → St g W' mm' st' s' → Same s s' → Qf s'
  | _ => False

structure Head (g : G) (W : Wd) (target : Expr) (itv : Value) (env : Env) (Is : List Addr) (At : Nat → Heap → Prop) (next : Nat → M Bool) : Prop where
  there : ∀ k h, At k h → ∀ a ∈ Is, ∃ o, h.get? a = some o
  frame : ∀ k h h', At k h → (∀ a ∈ Is, h'.get? a = h.get? a) → At k h'
  noexc : ∀ k st x st', next k st ≠ .exc x st'
  step : ∀ (k : Nat) (A : Around) (W' : Wd) (mm : Str → Option Value) (st : S) (s : Shared) (Pt Pf : Shared → Prop) (E : Value → Shared → Prop),
    AOk g A → Ext W W' → St g W' mm st s → (∀ a ∈ Is, W'.lab a = some .pin) → (∀ p ∈ g.pins, p.1 ∉ Is) → At k s.heap → NPost g W' s Is (At (k + 1)) Pt Pf (next k st) →
    wpAny (model g.c.prog g.c.w) A (pyNext itv) (fun r s₁ => match r with
      | none => Pf s₁
      | some v => wpAny (model g.c.prog g.c.w) A (letOwnedTupleGo target itv v) (fun _ s₂ => wpAny (model g.c.prog g.c.w) A (assign target env v) (fun _ s₃ => Pt s₃) E s₂) E s₁) E s

theorem codeAny_forLoopO {prog : Program} {w : World} {A : Around} {s : Shared} {R : Result → Shared → Prop} {target it body env} (I : Nat → Shared → Prop)
    (turn : ∀ n s, I n s → wpAny (model prog w) A (pyNext it) (fun r s₁ => match r with
      | none => R (.ok .next) s₁
      | some v => wpAny (model prog w) A (letOwnedTupleGo target it v) (fun _ s₂ => wpAny (model prog w) A (assign target env v) (fun _ s₃ => wpAny (model prog w) A (execs body env) (fun f s₄ => match f with
          | .next | .cont => ∃ m, m < n ∧ I m s₄
          | .brk => R (.ok .next) s₄
          | .ret v => R (.ok (.ret v)) s₄) (notedBy (model prog w) A env fun e s' => R (.error e) s') s₃) (notedBy (model prog w) A env fun e s' => R (.error e) s') s₂) (notedBy (model prog w) A env fun e s' => R (.error e) s') s₁)
      (notedBy (model prog w) A env fun e s' => R (.error e) s') s)
    (n : Nat) (h : I n s) : codeAny (model prog w) A (.forLoop target it body [] env) R s := by
  refine codeAny_loop' rfl I (fun n s hI => ?_) n h
  show wpAny _ _ ((forTurn target it body [] env).onRaise (fun x => do noteFrame x env; theTreesLotGoes x)) _ _ s
  refine wpAny_noted ?_
  simp only [forTurn]
  refine wpAny_bind (wpAny_standAt (wpAny_bind (wpAny_onRaise (wpAny_mono (turn n s hI) (fun r s₁ h₁ => ?_) fun _ _ h' => wpAny_standAt h'))))
  cases r with
  | none => exact wpAny_pure (.inr ⟨rfl, codeAny_block (wpAny_execs_nil h₁)⟩)
  | some v =>
    refine wpAny_bind (wpAny_mono h₁ (fun _ s₂ h₂ => ?_) fun _ _ h' => h')
    refine wpAny_bind (wpAny_mono h₂ (fun _ s₃ h₃ => wpAny_bind (wpAny_mono h₃ (fun f s₄ h₄ => ?_) fun _ _ h' => h')) fun _ _ h' => h')
    cases f with
    | next => exact wpAny_pure (.inl ⟨rfl, h₄⟩)
    | cont => exact wpAny_pure (.inl ⟨rfl, h₄⟩)
    | brk => exact wpAny_pure h₄
    | ret v => exact wpAny_pure h₄

/-- where noteFrame looks -/
structure EnvTop (g : G) (env : Env) : Prop where
  fo : FOk g
  top : ∃ rest L, g.fenvs = env :: rest ∧ env.frame = some L
theorem EnvTop.pin (h : EnvTop g env) : EnvTop (g.pin ps) env := ⟨h.fo, h.top⟩
theorem EnvTop.noted (T : EnvTop g env) {A : Around} (hA : AOk g A) {W : Wd} {m : Str → Option Value} {st : S} {s : Shared} {e : Value} {E : Value → Shared → Prop} (hS : St g W m st s) (ht : Thrown g.c W s.heap e)
    (h : ∀ s', St g W m st s' → Same s s' → ThrownT g.c W s'.heap e → E e s') : notedBy (model g.c.prog g.c.w) A env E e s := by
  obtain ⟨rest, L, h1, h2⟩ := T.top
  exact sim_noted hA.frames T.fo h1 h2 hS ht h
theorem EnvTop.back (T : EnvTop g env) {A : Around} (hA : AOk g A) {W : Wd} {m : Str → Option Value} {st : S} {s : Shared} {e : Value} {E : Value → Shared → Prop} (hS : St g W m st s) (ht : Thrown g.c W s.heap e)
    (h : ∀ s', St g W m st s' → Same s s' → Thrown g.c W s'.heap e → E e s') : notedBy (model g.c.prog g.c.w) A env (fun e s' => cameBackBy (model g.c.prog g.c.w) A env E e s') e s :=
  T.noted hA hS ht fun s₁ hS₁ hs₁ ht₁ => sim_cameBack hS₁ ht₁ fun s₂ hS₂ hs₂ ht₂ => h s₂ hS₂ (hs₁.trans hs₂) ht₂.thrown

/-- the next turn's asking, out of the whole's -/
theorem npost {Is : List Addr} {α : Type} {W : Wd} {s : Shared} {st : S} {m : M Bool} {K : Bool → M Flow} {R : Wd → Flow → α → Prop} {Q : α → Shared → Prop} {E : Value → Shared → Prop} {At : Heap → Prop} {Qt Qf : Shared → Prop} (hn : ∀ x st', m st ≠ .exc x st') (hP : Post g W s R Q E ((m >>= K) st))
    (ht : ∀ st' W' mm' s', Ext W W' → (∀ a ∈ Is, W'.lab a = some .pin) → St g W' mm' st' s' → Same s s' → At s'.heap → Post g W' s' R Q E (K true st') → Qt s')
    (hf : ∀ st' W' mm' s', Ext W W' → St g W' mm' st' s' → Same s s' → Post g W' s' R Q E (K false st') → Qf s') : NPost g W s Is At Qt Qf (m st) := by
  rw [bind_run] at hP
  revert hP
  cases q : m st with
  | fail => exact id
  | exc x st' => exact (hn x st' q).elim
  | ok b st' =>
    cases b with
    | true => exact fun hP W' mm' s' hx hl hS hs hA => ht st' W' mm' s' hx hl hS hs hA (hP.move hx hs)
    | false => exact fun hP W' mm' s' hx hS hs => hf st' W' mm' s' hx hS hs (hP.move hx hs)

/-- out of the pinned ground -/
theorem Post.pin {α β : Type} {ps : List (Addr × Obj)} {W : Wd} {s : Shared} {R : Wd → β → α → Prop} {Q : α → Shared → Prop} {E : Value → Shared → Prop} {r : Mine.R β} (h : Post g W s R Q E r) : Post (g.pin ps) W s R Q E r := by
  cases r with
  | fail => exact h
  | ok b st' => exact fun W' mm s' a hx hS hs hr => h W' mm s' a hx hS.pinDown hs hr
  | exc x st' => exact fun W' mm s' a hx hS hs hr => h W' mm s' a hx hS.pinDown hs hr

theorem sim_forCode (T : EnvTop g env) {target : Expr} {itv : Value} {body : List Stmt} {At : Nat → Heap → Prop} {next : Nat → M Bool} {mb : M Flow} (Hd : Head g W target itv env Is At next)
    (hb : ∀ ps, Sim (g.pin ps) W (execs body env) mb FlowRel) {A : Around} {W₁ : Wd} {mm : Str → Option Value} {st : S} {s : Shared} {Q : PySem.Flow → Shared → Prop} {E : Value → Shared → Prop}
    (hA : AOk g A) (hx : Ext W W₁) (hS : St g W₁ mm st s) (hl : ∀ a ∈ Is, W₁.lab a = some .pin) (hne : ∀ p ∈ g.pins, p.1 ∉ Is) (hAt : At 0 s.heap) {fuel : Nat} (hP : Post g W₁ s FlowRel Q E (loopD fuel next mb 0 st)) :
    codeAny (model g.c.prog g.c.w) A (.forLoop target itv body [] env) (fun r s' => match r with | .ok f => Q f s' | .error e => cameBackBy (model g.c.prog g.c.w) A env E e s') s := by
  refine codeAny_forLoopO (fun n s' => ∃ k W' mm' st', Ext W W' ∧ (∀ a ∈ Is, W'.lab a = some .pin) ∧ St g W' mm' st' s' ∧ At k s'.heap ∧ Post g W' s' FlowRel Q E (loopD n next mb k st')) ?_ fuel ⟨0, W₁, mm, st, hx, hl, hS, hAt, hP⟩
  rintro n s₁ ⟨k, W₂, mm₂, st₂, hx₂, hl₂, hS₂, hAt₂, hP⟩
  cases n with
  | zero => exact hP.elim
  | succ n =>
    refine Hd.step k A W₂ mm₂ st₂ s₁ _ _ _ hA hx₂ hS₂ hl₂ hne hAt₂ (npost (Hd.noexc k st₂) hP ?_ ?_)
    · intro st₃ W₃ mm₃ s₃ hx₃ hl₃ hS₃ hs₃ hAt₃ hP
      have ht := Hd.there _ _ hAt₃
      refine hb (pinsAt Is s₃.heap) A W₃ mm₃ st₃ s₃ _ _ hA.pin (hx₂.trans hx₃) (hS₃.pinUp hl₃) ?_
      have hP : Post g W₃ s₃ FlowRel Q E ((mb >>= loopGo (loopD n next mb (k + 1))) st₃) := hP
      rw [bind_run] at hP
      revert hP
      cases mb st₃ with
      | fail => exact id
      | exc x st₄ => exact fun hP W₄ mm₄ s₄ e hx₄ hS₄ hs₄ ht₄ => T.back hA hS₄.pinDown ht₄ fun s₅ hS₅ hs₅ ht₅ => hP W₄ mm₄ s₅ e hx₄ hS₅ (hs₄.trans hs₅) ht₅
      | ok f st₄ =>
        intro hP W₄ mm₄ s₄ f' hx₄ hS₄ hs₄ hf
        obtain ⟨hkeep, hl₄⟩ := hS₄.pinned ht
        have hP := hP.move hx₄ hs₄
        have again : Post g W₄ s₄ FlowRel Q E (loopD n next mb (k + 1) st₄) → ∃ m, m < n + 1 ∧ ∃ k W' mm' st', Ext W W' ∧ (∀ a ∈ Is, W'.lab a = some .pin) ∧ St g W' mm' st' s₄ ∧ At k s₄.heap ∧ Post g W' s₄ FlowRel Q E (loopD m next mb k st') :=
          fun hP => ⟨n, Nat.lt_succ_self _, k + 1, W₄, mm₄, st₄, (hx₂.trans hx₃).trans hx₄, hl₄, hS₄.pinDown, Hd.frame _ _ _ hAt₃ hkeep, hP⟩
        cases f with
        | next => obtain rfl : f' = .next := hf; exact again hP
        | cont => obtain rfl : f' = .cont := hf; exact again hP
        | brk => obtain rfl : f' = .brk := hf; exact hP W₄ mm₄ s₄ _ (Ext.refl _) hS₄.pinDown (Same.refl _) rfl
        | ret v => obtain ⟨u, rfl, hv⟩ := hf; exact hP W₄ mm₄ s₄ _ (Ext.refl _) hS₄.pinDown (Same.refl _) ⟨u, rfl, hv⟩
    · intro st₃ W₃ mm₃ s₃ hx₃ hS₃ hs₃ hP
      exact hP W₃ mm₃ s₃ _ (Ext.refl _) hS₃ (Same.refl _) rfl
end
end Mine
end

section
open PySem PySem.W PySem.Calls PyProof.Rows
set_option maxRecDepth 100000
set_option linter.unusedVariables false
set_option linter.unusedSimpArgs false
namespace Mine

section
variable {g : G} {W : Wd} {ev : AEnv} {env : Env}

theorem hd_none {A : Around} (hA : AOk g A) (h : g.hd = false) : A.handled = none := by
  rcases hA.hd with q | q
  · exact q
  · rw [h] at q; exact nomatch q.1

/-- nothing flies out of it -/
noncomputable def NoX {α : Type} (m : M α) : Prop := ∀ st x st', m st ≠ .exc x st'
theorem NoX.fail {α : Type} : NoX (failM : M α) := fun _ _ _ h => nomatch h
theorem NoX.pure {α : Type} {a : α} : NoX (Pure.pure a : M α) := fun _ _ _ h => nomatch h
theorem NoX.get {α : Type} {f : S → Option α} : NoX (getM f) := fun st x st' h => by
  unfold getM at h
  cases q : f st <;> rw [q] at h <;> cases h
theorem NoX.bind {α β : Type} {m : M α} {k : α → M β} (h1 : NoX m) (h2 : ∀ a, NoX (k a)) : NoX (m >>= k) := fun st x st' h => by
  rw [bind_run] at h
  cases q : m st with
  | fail => rw [q] at h; cases h
  | exc _ _ => exact h1 _ _ _ q
  | ok a s' => rw [q] at h; exact h2 _ _ _ _ h
theorem NoX.ite {α : Type} {p : Prop} [Decidable p] {m m' : M α} (h1 : NoX m) (h2 : NoX m') : NoX (if p then m else m') := by
  by_cases q : p
  · rw [if_pos q]; exact h1
  · rw [if_neg q]; exact h2
theorem storeV_nox {x : Str} {v : V} : NoX (storeV ev x v) := NoX.ite (fun _ _ _ h => nomatch h) NoX.fail
theorem targetV_nox {t : Expr} {v : V} : NoX (targetV ev t v) := by
  unfold targetV
  cases nameE t with
  | some x => exact storeV_nox
  | none => exact NoX.fail

theorem nameE_some {e : Expr} {x : Str} (h : nameE e = some x) : ∃ p, e = .Name x p := by
  unfold nameE at h
  split at h
  · cases h; exact ⟨_, rfl⟩
  · cases h
theorem sim_target (O : EnvOk g W ev env) {t : Expr} {v : V} {u : Value} (hv : VRel W v u) : Sim g W (assign t env u) (targetV ev t v) (fun _ _ _ => True) := by
  unfold targetV
  cases h : nameE t with
  | none => exact Sim.fail
  | some x =>
    obtain ⟨p, rfl⟩ := nameE_some h
    rw [PySem.assign_Name]
    exact Sim.standAt (sim_bindName O hv)

theorem owned_none {M : Model} {A : Around} {target : Expr} {I : Addr} {o : Obj} {u : Value} {Q : Unit → Shared → Prop} {E : Value → Shared → Prop} {s : Shared} (ho : s.heap.get? I = some o)
    (hc : ∃ T, o.cls = .type T ∧ T ∈ ["list_iterator", "dict_keyiterator", "range_iterator"]) (h : Q () s) : wpAny M A (letOwnedTupleGo target (.ref I) u) Q E s := by
  obtain ⟨T, hT, hm⟩ := hc
  have go : ∀ es k p, wpAny M A (letOwnedTupleGo (.Tuple es k p) (.ref I) u) Q E s := fun es k p => by
    unfold letOwnedTupleGo
    cases u with
    | ref a =>
      refine wpAny_bind (wpAny_load ho ?_)
      rw [hT]
      cases o.data with
      | fields vs =>
        dsimp only
        refine (if_neg fun q0 => ?_) ▸ wpAny_pure h
        have q := (Bool.and_eq_true_iff.mp q0).1
        clear q0 hT
        revert q
        revert hm
        revert T
        decide
      | _ => exact wpAny_pure h
    | _ => exact wpAny_pure h
  cases target <;> first | exact wpAny_pure h | exact go _ _ _ | exact go [] 0 default


theorem nextIt_nox {i : Nat} {t : Expr} (k : Nat) : NoX (nextIt i (targetV ev t) k) := NoX.get.bind fun xs => by
  cases xs[k]? with
  | some v => exact targetV_nox.bind fun _ => NoX.pure
  | none => exact NoX.pure

theorem bind_assoc' {α β γ : Type} (m : M α) (f : α → M β) (k : β → M γ) : (m >>= f) >>= k = m >>= fun a => f a >>= k := by
  funext st
  rw [bind_run, bind_run, bind_run]
  cases m st <;> rfl
theorem npost_get {γ : Type} {Is : List Addr} {s : Shared} {st : S} {f : S → Option γ} {k : γ → M Bool} {At : Heap → Prop} {Qt Qf : Shared → Prop} (h : NPost g W s Is At Qt Qf ((getM f >>= k) st)) : ∃ a, f st = some a ∧ NPost g W s Is At Qt Qf (k a st) := by
  rw [bind_run] at h
  unfold getM at h
  cases q : f st with
  | none => rw [q] at h; exact h.elim
  | some a => rw [q] at h; exact ⟨a, rfl, h⟩

theorem NPost.move {Is : List Addr} {s s' : Shared} {W' : Wd} {At : Heap → Prop} {Qt Qf : Shared → Prop} {r : R Bool} (h : NPost g W s Is At Qt Qf r) (hx : Ext W W') (hs : Same s s') : NPost g W' s' Is At Qt Qf r := by
  match r, h with
  | .ok true _, h => exact fun W₂ mm₂ s₂ hx₂ hl hS₂ hs₂ hA => h W₂ mm₂ s₂ (hx.trans hx₂) hl hS₂ (hs.trans hs₂) hA
  | .ok false _, h => exact fun W₂ mm₂ s₂ hx₂ hS₂ hs₂ => h W₂ mm₂ s₂ (hx.trans hx₂) hS₂ (hs.trans hs₂)
/-- behind a store in the head -/
theorem npost_store {ps : List (Addr × Obj)} {Is : List Addr} {s : Shared} {st : S} {m : M Unit} {At : Heap → Prop} {Qt Qf : Shared → Prop} {k : Unit → M Bool} (hm : NoX m) (h : NPost g W s Is At Qt Qf ((m >>= k) st)) {E : Value → Shared → Prop} {Q : Unit → Shared → Prop} {R : Wd → Unit → Unit → Prop}
    (hq : ∀ st' W' mm' s', Ext W W' → St (g.pin ps) W' mm' st' s' → Same s s' → NPost g W' s' Is At Qt Qf (k () st') → Q () s') : Post (g.pin ps) W s R Q E (m st) := by
  rw [bind_run] at h
  revert h
  cases q : m st with
  | fail => exact id
  | exc x st' => exact (hm _ _ _ q).elim
  | ok a st' => exact fun h W' mm' s' _ hx hS hs _ => hq st' W' mm' s' hx hS hs (NPost.move h hx hs)

theorem head_list (hhd : g.hd = false) (O : EnvOk g W ev env) {t : Expr} {i : Nat} {I : Addr} (hi : i < W.n) : Head g W t (.ref I) env [I] (fun k h => h.IsListIter I (W.ρ i) k) (nextIt i (targetV ev t)) where
  there := by
    rintro k h ⟨o, ho, _⟩ a ha
    obtain rfl := List.mem_singleton.mp ha
    exact ⟨o, ho⟩
  frame := by
    rintro k h h' ⟨o, ho, r⟩ hk
    exact ⟨o, (hk I (.head _)).trans ho, r⟩
  noexc := nextIt_nox
  step := by
    intro k A W' mm st s Pt Pf E hA hx hS hl hne hAt hN
    replace hN := npost_get hN; obtain ⟨xs, ho, hN⟩ := hN
    obtain ⟨vs, hL, hrel⟩ := hS.list ho
    rw [hx.eq i hi] at hL
    have out : ∀ {h' : Heap}, Heap.ExtBut I s.heap h' → ∀ a o, a ∉ [I] → s.heap.get? a = some o → h'.get? a = some o := fun hs a o ha e => hs a o (fun q => ha (q ▸ .head _)) e
    cases hk : xs[k]? with
    | none =>
      rw [hk] at hN
      refine wpAny_pyNext_list_end (hd_none hA hhd) hAt hL (by simpa using hrel.none hk) fun h' hs => ?_
      exact hN (W'.unl [I]) mm _ (W'.ext_unl [I]) ⟨hS.inv.dropPins hl hne (out hs), hS.next, hS.loc.ext (W'.ext_unl [I])⟩ Same.heap
    | some v =>
      rw [hk] at hN
      obtain ⟨u, hu, hv⟩ := hrel.get hk
      refine wpAny_pyNext_list_item hAt hL (by simpa using hu) fun h' hit hs => ?_
      have there : ∀ a ∈ [I], ∃ o, h'.get? a = some o := fun a ha => by obtain rfl := List.mem_singleton.mp ha; obtain ⟨o, ho, _⟩ := hit; exact ⟨o, ho⟩
      refine owned_none (o := hit.choose) hit.choose_spec.1 ⟨_, hit.choose_spec.2.1, by decide⟩ ?_
      have hS₁ : St g W' mm st { s with heap := h' } := ⟨hS.inv.setPins hl hne (out hs.extBut) there, hS.next, hS.loc⟩
      refine sim_target (O.ext hx).pin hv A W' mm st _ _ _ (hA.pin (ps := pinsAt [I] h')) (Ext.refl _) (hS₁.pinUp hl) (npost_store targetV_nox (hN.move (Ext.refl _) Same.heap) fun st' W'' mm' s' hx' hS' hs' hN => ?_)
      obtain ⟨hkeep, hl'⟩ := hS'.pinned there
      obtain ⟨o, ho', r⟩ := hit
      exact hN W'' mm' s' (Ext.refl _) hl' hS'.pinDown (Same.refl _) ⟨o, (hkeep I (.head _)).trans ho', r⟩
end
end Mine
end

section
open PySem PySem.W PySem.Calls PyProof.Rows
set_option maxRecDepth 100000
set_option linter.unusedVariables false
set_option linter.unusedSimpArgs false
namespace Mine

section
variable {g : G} {W : Wd} {ev : AEnv} {env : Env}

theorem St.push {m : Str → Option Value} {st : S} {s : Shared} (h : St g W m st s) (o : Obj) : St g W m st { s with heap := s.heap.push o } := ⟨h.inv.push o, h.next, h.loc⟩
theorem St.lbl {m : Str → Option Value} {st : S} {s : Shared} (h : St g W m st s) {Is : List Addr} (hl : ∀ a ∈ Is, W.lab a = none) (hb : ∀ a ∈ Is, g.c.base.get? a = none) (ht : ∀ a ∈ Is, ∃ o, s.heap.get? a = some o) : St g (W.lbl Is) m st s :=
  ⟨h.inv.lbl hl hb ht, h.next, h.loc.ext (W.ext_lbl Is)⟩
theorem lbl_in {Is : List Addr} {a : Addr} (h : a ∈ Is) : (W.lbl Is).lab a = some .pin := by
  show (if a ∈ Is then some Tag.pin else W.lab a) = _
  rw [if_pos h]

/-- a for over an iterator that is newly laid -/
theorem sim_forOwn (T : EnvTop g env) {target : Expr} {itv : Value} {body : List Stmt} {Is : List Addr} {At : Nat → Heap → Prop} {next : Nat → M Bool} {mb : M Flow} {W₁ : Wd} (Hd : Head g (W₁.lbl Is) target itv env Is At next)
    (hb : ∀ ps, Sim (g.pin ps) (W₁.lbl Is) (execs body env) mb FlowRel) {A : Around} {mm : Str → Option Value} {st : S} {s : Shared} {h' : Heap} {Q : PySem.Flow → Shared → Prop} {E : Value → Shared → Prop}
    (hA : AOk g A) (hS : St g W₁ mm st s) (hk : ∀ a o, s.heap.get? a = some o → h'.get? a = some o) (hge : ∀ a ∈ Is, s.heap.objs.size ≤ a) (hAt : At 0 h') {fuel : Nat} (hP : Post g W₁ s FlowRel Q E (loopD fuel next mb 0 st)) :
    wpAny (model g.c.prog g.c.w) A (runOwn (.forLoop target itv body [] env) env) Q E { s with heap := h' } := by
  have hun : ∀ a ∈ Is, W₁.lab a = none := fun a ha => hS.inv.unlab_size (hge a ha)
  have hS₁ : St g W₁ mm st { s with heap := h' } := ⟨hS.inv.grow hk, hS.next, hS.loc⟩
  have hS₂ := hS₁.lbl hun (fun a ha => base_none (Nat.le_trans hS.inv.sz (hge a ha))) (Hd.there 0 h' hAt)
  refine wpAny_runOwn (sim_forCode T Hd hb hA (Ext.refl _) hS₂ (fun a ha => lbl_in ha) (fun p hp q => ?_) hAt (hP.move (W₁.ext_lbl Is) Same.heap))
  have := hS.inv.lpin p hp
  rw [hun _ q] at this; cases this

theorem folded_pure {e : Expr} (h : ∀ es k p, e ≠ .Set es k p) (x : Value) : foldedSetIterable e env x = pure x := by
  unfold foldedSetIterable
  split
  · exact absurd rfl (h _ _ _)
  · rfl

/-- a for over a value -/
theorem sim_forVal (hhd : g.hd = false) (T : EnvTop g env) (O : EnvOk g W ev env) {t : Expr} {body : List Stmt} {mb : M Flow} (hb : ∀ ps W', Ext W W' → Sim (g.pin ps) W' (execs body env) mb FlowRel) {v : V} {u : Value} (hv : VRel W v u) :
    Sim g W (PySem.holding [u] (pyIter u) >>= fun it => runOwn (.forLoop t it body [] env) env) (itOf v >>= fun i => loopD wlim (nextIt i (targetV ev t)) mb 0) FlowRel := by
  intro A W₁ mm st s Q E hA hx hS hP
  rw [show ∀ k : Nat → M Flow, (itOf v >>= k) = (refM v >>= fun i => rdL i >>= fun _ => k i) from fun k => by unfold itOf; rw [bind_assoc']; refine congrArg (refM v >>= ·) (funext fun i => ?_); rw [bind_assoc']; rfl] at hP
  replace hP := Post.get hP; obtain ⟨i, hi, hP⟩ := hP
  replace hP := Post.get hP; obtain ⟨xs, ho, hP⟩ := hP
  obtain rfl := refOf_some hi
  obtain ⟨hi, rfl⟩ := hv
  obtain ⟨vs, hL, hrel⟩ := hS.list ho
  rw [hx.eq i hi] at hL
  refine wpAny_bind (wpAny_holding (wpAny_pyIter_list hL ?_))
  have hx₁ := hx.trans (W₁.ext_lbl [s.heap.objs.size])
  refine sim_forOwn T (head_list hhd (O.ext hx₁) (t := t) (i := i) (Nat.lt_of_lt_of_le hi hx₁.le)) (fun ps => hb ps _ hx₁) hA hS (fun a o e => Heap.get?_push_of_some _ e) (fun a ha => by obtain rfl := List.mem_singleton.mp ha; exact Nat.le_refl _) ?_ hP
  rw [hx₁.eq i hi]
  exact ⟨_, Heap.get?_push_size _ rfl, rfl, rfl⟩

/-- a while whose test fails at once -/
theorem sim_while (T : EnvTop g env) {test : Expr} {body : List Stmt} {pos : Pos} {mt : M Bool} (ht : Sim g W (isTrue test env (eval test env)) mt (fun _ b b' => b' = b)) :
    Sim g W (exec (.While test body [] pos) env) (whileM mt) FlowRel := by
  intro A W₁ mm st s Q E hA hx hS hP
  refine wpAny_While ?_
  refine codeAny_whileLoop (fun n s' => s' = s) ?_ 0 rfl
  rintro n s₁ rfl
  refine ht A W₁ mm st s₁ _ _ hA hx hS ?_
  rw [whileM, bind_run] at hP
  revert hP
  cases mt st with
  | fail => exact id
  | exc x st₃ => exact fun hP W₃ mm₃ s₃ e hx₃ hS₃ hs₃ ht₃ => T.back hA hS₃ ht₃ fun s₅ hS₅ hs₅ ht₅ => hP W₃ mm₃ s₅ e hx₃ hS₅ (hs₃.trans hs₅) ht₅
  | ok b st₃ =>
    intro hP W₃ mm₃ s₃ b' hx₃ hS₃ hs₃ hb'
    obtain rfl : b' = b := hb'
    cases b' with
    | true => exact hP.elim
    | false => exact wpAny_execs_nil (hP W₃ mm₃ s₃ _ hx₃ hS₃ hs₃ rfl)
end
end Mine
end

section
open PySem PySem.W PySem.Calls PyProof.Rows
set_option maxRecDepth 100000
set_option linter.unusedVariables false
set_option linter.unusedSimpArgs false
namespace Mine

/-! frames come and go -/
noncomputable def Wd.lblF (W : Wd) (C : Addr) : Wd := { W with lab := fun a => if a = C then some .frame else W.lab a }
theorem Wd.ext_lblF (W : Wd) (C : Addr) : Ext W (W.lblF C) := ⟨Nat.le_refl _, fun _ _ => rfl⟩
section
variable {c : Cx} {fr : Frs} {pins : List (Addr × Obj)} {W : Wd} {σ : Nat → Option AObj} {h : Heap} {C : Addr} {m' : Str → Option Value}
theorem Inv.newFrame (I : Inv c fr pins W σ h) (hC : W.lab C = none) (hb : c.base.objs.size ≤ C) (hn : h.Ns C m') : Inv c ((C, m') :: fr) pins (W.lblF C) σ h := by
  have old : ∀ x t, W.lab x = some t → (W.lblF C).lab x = some t := fun x t hx => by
    show (if x = C then some Tag.frame else W.lab x) = some t
    rw [if_neg (fun q => by rw [q, hC] at hx; cases hx)]; exact hx
  refine ⟨I.stays, ?_, I.pin, I.dom, fun i o e => (I.own i o e).move (W.ext_lblF C) rfl (fun _ _ => rfl) (fun _ _ x => x) (fun _ _ _ x => x), ?_, fun p hp => old _ _ (I.lpin p hp), fun i o e n => old _ _ (I.lown i o e n), fun i fs e => old _ _ (I.ldic i fs e), ?_, ?_, I.sz⟩
  · intro p hp
    rcases List.mem_cons.mp hp with rfl | hp
    · exact hn
    · exact I.frs p hp
  · intro p hp
    rcases List.mem_cons.mp hp with rfl | hp
    · exact if_pos rfl
    · exact old _ _ (I.lfr p hp)
  · intro a ha
    by_cases q : a = C
    · obtain ⟨o, _, _, ho, _⟩ := hn
      exact ⟨⟨base_none (q ▸ hb), fun _ => q ▸ hb⟩, o, q ▸ ho⟩
    · have e : (W.lblF C).lab a = W.lab a := if_neg q
      rw [e] at ha ⊢
      exact I.new a ha
  · rw [List.map_cons, List.nodup_cons]
    refine ⟨fun q => ?_, I.nodup⟩
    obtain ⟨p, hp, e⟩ := List.mem_map.mp q
    have := I.lfr p hp
    rw [e, hC] at this; cases this
theorem Inv.dropFrame (I : Inv c ((C, m') :: fr) pins W σ h) : Inv c fr pins (W.unl [C]) σ h := by
  have lC := I.lfr _ (.head _)
  have nd : C ∉ fr.map (·.1) := by have := I.nodup; rw [List.map_cons, List.nodup_cons] at this; exact this.1
  have keep : ∀ a t, W.lab a = some t → a ≠ C → (W.unl [C]).lab a = some t := fun a t ha q => by
    show (if a ∈ [C] then none else W.lab a) = some t
    rw [if_neg (fun z => q (List.mem_singleton.mp z))]; exact ha
  refine ⟨I.stays, fun p hp => I.frs p (.tail _ hp), I.pin, I.dom, fun i o e => (I.own i o e).move (W.ext_unl [C]) rfl (fun _ _ => rfl) (fun _ _ x => x) (fun _ _ _ x => x),
    fun p hp => keep _ _ (I.lfr p (.tail _ hp)) (fun q => nd (q ▸ List.mem_map_of_mem hp)), fun p hp => keep _ _ (I.lpin p hp) (ne_of_lab (I.lpin p hp) lC (by simp)),
    fun i o e n => keep _ _ (I.lown i o e n) (ne_of_lab (I.lown i o e n) lC (by simp)), fun i fs e => keep _ _ (I.ldic i fs e) (ne_of_lab (I.ldic i fs e) lC (by simp)), fun a ha => ?_, ?_, I.sz⟩
  · by_cases q : a ∈ [C]
    · exact absurd (show (if a ∈ [C] then none else W.lab a) = none by rw [if_pos q]) ha
    · have e : (W.unl [C]).lab a = W.lab a := if_neg q
      rw [e] at ha ⊢
      exact I.new a ha
  · have := I.nodup; rw [List.map_cons, List.nodup_cons] at this; exact this.2
theorem Inv.swap {p q : Addr × (Str → Option Value)} (I : Inv c (p :: q :: fr) pins W σ h) : Inv c (q :: p :: fr) pins W σ h := by
  have hm : ∀ {x}, x ∈ q :: p :: fr → x ∈ p :: q :: fr := fun {x} hx => by
    rcases List.mem_cons.mp hx with rfl | hx
    · exact .tail _ (.head _)
    · rcases List.mem_cons.mp hx with rfl | hx
      · exact .head _
      · exact .tail _ (.tail _ hx)
  refine ⟨I.stays, fun x hx => I.frs x (hm hx), I.pin, I.dom, I.own, fun x hx => I.lfr x (hm hx), I.lpin, I.lown, I.ldic, I.new, ?_, I.sz⟩
  have := I.nodup
  simp only [List.map_cons, List.nodup_cons, List.mem_cons, not_or] at this ⊢
  exact ⟨⟨fun e => this.1.1 e.symm, this.2.1⟩, this.1.2, this.2.2⟩
end

/-- the ground inside of a comprehension -/
noncomputable def gc (g : G) (C : Addr) (fr : Frs) (ps : List (Addr × Obj)) : G := { g with L := C, fr := fr, pins := ps ++ g.pins }

section
variable {g : G} {W : Wd} {ev : AEnv} {env : Env}

theorem AOk.gc {A : Around} {C : Addr} {fr : Frs} {ps : List (Addr × Obj)} (h : AOk g A) (hfr : ∀ L ∈ g.L :: g.fr.map (·.1), L ∈ C :: fr.map (·.1)) : AOk (gc g C fr ps) A := ⟨fun e he => ⟨(h.fo e he).1, let ⟨L, a, b⟩ := (h.fo e he).2; ⟨L, a, hfr L b⟩⟩, h.frames, h.hd.imp_right fun ⟨a, e, oe, vs, b, c, d⟩ => ⟨a, e, oe, vs, b, List.mem_append_right _ c, d⟩, h.k, h.depth, h.units⟩
theorem Gd.gc {C : Addr} {fr : Frs} {ps : List (Addr × Obj)} (h : Gd g) : Gd (gc g C fr ps) := ⟨h.C, h.F, h.k⟩

theorem codeAny_compLoopO {prog : Program} {w : World} {A : Around} {s : Shared} {R : Result → Shared → Prop} {elt target iter : Expr} {scope : Scope} {pos : Pos} {it acc : Value} {env : Env} (I : Nat → Shared → Prop)
    (turn : ∀ n s, I n s → wpAny (model prog w) A (pyNext it) (fun r s₁ => match r with
      | none => R (.ok .next) s₁
      | some v => wpAny (model prog w) A (letOwnedTupleGo target it v) (fun _ s₂ => wpAny (model prog w) A (assign target env v) (fun _ s₃ => wpAny (model prog w) A (eval elt env) (fun x s₄ =>
              wpAny (model prog w) A (call (.builtin "list.append") [acc, x]) (fun _ s₅ => ∃ m, m < n ∧ I m s₅) (notedBy (model prog w) A env fun e s' => R (.error e) s') s₄) (notedBy (model prog w) A env fun e s' => R (.error e) s') s₃) (notedBy (model prog w) A env fun e s' => R (.error e) s') s₂) (notedBy (model prog w) A env fun e s' => R (.error e) s') s₁)
      (notedBy (model prog w) A env fun e s' => R (.error e) s') s)
    (n : Nat) (h : I n s) :
    codeAny (model prog w) A (.compLoop (.ListComp elt [⟨target, iter, [], 0⟩] scope pos) 0 it acc env) R s := by
  refine codeAny_loop rfl I (fun n s hI => ?_) n h
  show wpAny _ A ((compTurn (.ListComp elt [⟨target, iter, [], 0⟩] scope pos) 0 it acc env).onRaise (fun x => do noteFrame x env; theTreesLotGoes x)) _ _ s
  refine wpAny_noted ?_
  rw [compTurn_list]
  refine wpAny_bind (wpAny_standAt (wpAny_bind (wpAny_mono (turn n s hI) (fun r s₁ h₁ => ?_) fun _ _ h' => h')))
  cases r with
  | none => exact wpAny_pure h₁
  | some v =>
    refine wpAny_bind (wpAny_mono h₁ (fun _ s₂ h₂ => ?_) fun _ _ h' => h')
    refine wpAny_bind (wpAny_mono h₂ (fun _ s₃ h₃ => ?_) fun _ _ h' => h')
    refine wpAny_bind (wpAny_pure ?_)
    exact wpAny_bind (wpAny_bind (wpAny_mono h₃ (fun x s₄ h₄ => wpAny_bind (wpAny_mono h₄ (fun _ s₅ h₅ => wpAny_pure (wpAny_pure ⟨rfl, h₅⟩)) fun _ _ h' => h')) fun _ _ h' => h'))


theorem Post.bindX {ps : List (Addr × Obj)} {β δ α γ : Type} {s : Shared} {st : S} {m : M β} {k : β → M δ} {R : Wd → β → α → Prop} {R' : Wd → δ → γ → Prop} {Q : α → Shared → Prop} {Q' : γ → Shared → Prop} {E E' : Value → Shared → Prop} (hP : Post g W s R' Q' E (Mine.noExc (m >>= k) st))
    (h : ∀ b st' W' mm' s' a, Ext W W' → St (g.pin ps) W' mm' st' s' → Same s s' → R W' b a → Post g W' s' R' Q' E (Mine.noExc (k b) st') → Q a s') : Post (g.pin ps) W s R Q E' (m st) := by
  unfold Mine.noExc at hP
  rw [bind_run] at hP
  revert hP
  cases m st with
  | fail => exact False.elim
  | exc x st' => exact False.elim
  | ok b st' => exact fun hP W' mm' s' a hx hS hs hr => h b st' W' mm' s' a hx hS hs hr (Post.move (r := Mine.noExc (k b) st') hP hx hs)
theorem nposX {α γ : Type} {Is : List Addr} {s : Shared} {st : S} {m : M Bool} {K : Bool → M γ} {R : Wd → γ → α → Prop} {Q : α → Shared → Prop} {E : Value → Shared → Prop} {At : Heap → Prop} {Qt Qf : Shared → Prop} (hP : Post g W s R Q E (noExc (m >>= K) st))
    (ht : ∀ st' W' mm' s', Ext W W' → (∀ a ∈ Is, W'.lab a = some .pin) → St g W' mm' st' s' → Same s s' → At s'.heap → Post g W' s' R Q E (noExc (K true) st') → Qt s')
    (hf : ∀ st' W' mm' s', Ext W W' → St g W' mm' st' s' → Same s s' → Post g W' s' R Q E (noExc (K false) st') → Qf s') : NPost g W s Is At Qt Qf (m st) := by
  unfold Mine.noExc at hP
  rw [bind_run] at hP
  revert hP
  cases m st with
  | fail => exact False.elim
  | exc x st' => exact False.elim
  | ok b st' =>
    cases b with
    | true => exact fun hP W' mm' s' hx hl hS hs hA => ht st' W' mm' s' hx hl hS hs hA (Post.move (r := noExc (K true) st') hP hx hs)
    | false => exact fun hP W' mm' s' hx hS hs => hf st' W' mm' s' hx hS hs (Post.move (r := noExc (K false) st') hP hx hs)

/-- the loop of a comprehension -/
theorem sim_compCode {cenv : Env} {elt target iter : Expr} {scope : Scope} {pos : Pos} {itv : Value} {acc : Nat} {Is : List Addr} {At : Nat → Heap → Prop} {next : Nat → M Bool} {me : M V}
    (Hd : Head g W target itv cenv Is At next) (hacc : acc < W.n) (he : ∀ ps W', Ext W W' → Sim (g.pin ps) W' (eval elt cenv) me VR) {A : Around} {mm : Str → Option Value} {st : S} {s : Shared} {Rr : Result → Shared → Prop}
    (hA : AOk g A) (hS : St g W mm st s) (hl : ∀ a ∈ Is, W.lab a = some .pin) (hne : ∀ p ∈ g.pins, p.1 ∉ Is) (hAt : At 0 s.heap) {fuel : Nat} {E : Value → Shared → Prop}
    (hP : Post g W s (fun _ _ _ => True) (fun (_ : Unit) s' => Rr (.ok .next) s') E (noExc (loopD fuel next (compTurnM acc me) 0) st)) :
    codeAny (model g.c.prog g.c.w) A (.compLoop (.ListComp elt [⟨target, iter, [], 0⟩] scope pos) 0 itv (.ref (W.ρ acc)) cenv) Rr s := by
  refine codeAny_compLoopO (fun n s' => ∃ k W' mm' st', Ext W W' ∧ (∀ a ∈ Is, W'.lab a = some .pin) ∧ St g W' mm' st' s' ∧ At k s'.heap ∧ Post g W' s' (fun _ _ _ => True) (fun (_ : Unit) s' => Rr (.ok .next) s') E (noExc (loopD n next (compTurnM acc me) k) st')) ?_ fuel ⟨0, W, mm, st, Ext.refl _, hl, hS, hAt, hP⟩
  rintro n s₁ ⟨k, W₂, mm₂, st₂, hx₂, hl₂, hS₂, hAt₂, hP⟩
  cases n with
  | zero => exact hP.elim
  | succ n =>
    refine Hd.step k A W₂ mm₂ st₂ s₁ _ _ _ hA hx₂ hS₂ hl₂ hne hAt₂ (nposX hP ?_ ?_)
    · intro st₃ W₃ mm₃ s₃ hx₃ hl₃ hS₃ hs₃ hAt₃ hP
      have ht := Hd.there _ _ hAt₃
      have hP : Post g W₃ s₃ (fun _ _ _ => True) (fun (_ : Unit) s' => Rr (.ok .next) s') E (noExc (me >>= fun w => appendM acc w >>= fun _ => loopD n next (compTurnM acc me) (k + 1)) st₃) := by
        have e : (compTurnM acc me >>= loopGo (loopD n next (compTurnM acc me) (k + 1))) = (me >>= fun w => appendM acc w >>= fun _ => loopD n next (compTurnM acc me) (k + 1)) := by
          unfold compTurnM
          rw [bind_assoc']
          refine congrArg (me >>= ·) (funext fun w => ?_)
          rw [bind_assoc']
          rfl
        rw [← e]; exact hP
      refine he (pinsAt Is s₃.heap) W₃ (hx₂.trans hx₃) A W₃ mm₃ st₃ s₃ _ _ hA.pin (Ext.refl _) (hS₃.pinUp hl₃) (hP.bindX fun w st₄ W₄ mm₄ s₄ u hx₄ hS₄ hs₄ hw hP => ?_)
      have hx' := (hx₂.trans hx₃).trans hx₄
      have hsim := sim_append (g := g.pin (pinsAt Is s₃.heap)) (W := W₄) (i := acc) (v := w) (u := u) (Nat.lt_of_lt_of_le hacc hx'.le) hw
      rw [hx'.eq acc hacc] at hsim
      refine hsim A W₄ mm₄ st₄ s₄ _ _ hA.pin (Ext.refl _) hS₄ (hP.bindX fun _ st₅ W₅ mm₅ s₅ _ hx₅ hS₅ hs₅ _ hP => ?_)
      obtain ⟨hkeep, hl₅⟩ := hS₅.pinned ht
      refine ⟨n, Nat.lt_succ_self _, k + 1, W₅, mm₅, st₅, hx'.trans hx₅, hl₅, hS₅.pinDown, Hd.frame _ _ _ hAt₃ hkeep, hP⟩
    · intro st₃ W₃ mm₃ s₃ hx₃ hS₃ hs₃ hP
      exact hP W₃ mm₃ s₃ () (Ext.refl _) hS₃ (Same.refl _) trivial
end
end Mine
end

section
open PySem PySem.W PySem.Calls PyProof.Rows
set_option maxRecDepth 100000
set_option linter.unusedVariables false
set_option linter.unusedSimpArgs false
namespace Mine

section
variable {g : G} {W : Wd} {ev : AEnv} {env : Env}

structure CompOk (sc : Scope) : Prop where
  kind : sc.kind = .function
  cell : ∀ p ∈ sc.names, p.2 ≠ .cell
  free : ∀ p ∈ sc.names, p.2 ≠ .free
  loc : ∀ p ∈ sc.names, p.2 = .local → sc.names.lookup p.1 = some .local
theorem compOk_of {sc : Scope} (h : compOk sc = true) : CompOk sc := by
  unfold compOk at h
  rw [Bool.and_eq_true, List.all_eq_true] at h
  have hall : ∀ p ∈ sc.names, (p.2 ≠ .cell ∧ p.2 ≠ .free) ∧ (p.2 ≠ .local ∨ sc.names.lookup p.1 = some .local) := by
    intro p hp
    have := h.2 p hp
    rw [Bool.and_eq_true, Bool.and_eq_true, Bool.or_eq_true] at this
    exact ⟨⟨bne_iff_ne.mp this.1.1, bne_iff_ne.mp this.1.2⟩, this.2.imp bne_iff_ne.mp beq_iff_eq.mp⟩
  exact ⟨beq_iff_eq.mp h.1, fun p hp => (hall p hp).1.1, fun p hp => (hall p hp).1.2, fun p hp q => (hall p hp).2.resolve_left fun z => z q⟩
theorem mem_of_lookup {α β : Type} [BEq α] [LawfulBEq α] {x : α} {y : β} : ∀ {l : List (α × β)}, l.lookup x = some y → (x, y) ∈ l
  | [], h => by cases h
  | (a, b) :: r, h => by
    rw [List.lookup_cons] at h
    cases q : x == a with
    | true => rw [q] at h; cases h; rw [beq_iff_eq] at q; subst q; exact .head _
    | false => rw [q] at h; exact .tail _ (mem_of_lookup h)
theorem relabel_names {sc : Scope} (K : CompOk sc) : (relabel sc env).names = sc.names := by
  unfold relabel
  refine PySem.map_eq_self fun p hp => ?_
  have : (p.2 == NameKind.free) = false := beq_eq_false_iff_ne.mpr (K.free p hp)
  obtain ⟨n, k⟩ := p
  dsimp only at this ⊢
  rw [this]
  rfl
theorem compEnv_ok (O : EnvOk g W ev env) {sc : Scope} (K : CompOk sc) {C : Addr} {fr : Frs} {ps : List (Addr × Obj)} : EnvOk (gc g C fr ps) W (compEnv ev sc) (compEnvC sc [] C env) where
  kind := K.kind
  names := fun x => by rw [show (compEnvC sc [] C env).scope.names = sc.names from relabel_names K]; rfl
  globals := O.globals
  builtins := O.builtins
  locals := rfl
  hd := O.hd
theorem pin_gc {C : Addr} {fr : Frs} {ps : List (Addr × Obj)} : (gc g C fr []).pin ps = gc g C fr ps := rfl

theorem sim_compRest (hhd : g.hd = false) (O : EnvOk g W ev env) {elt it : Expr}  {sc : Scope} {pos : Pos} (K : CompOk sc) {t : Expr} {me : M V}
    (he : ∀ C fr ps W', Ext W W' → EnvOk (gc g C fr ps) W' (compEnv ev sc) (compEnvC sc [] C env) → Sim (gc g C fr ps) W' (eval elt (compEnvC sc [] C env)) me VR)
    {A : Around} {W₁ : Wd} {mm : Str → Option Value} {st : S} {s : Shared} {Q : Value → Shared → Prop} {E E₀ : Value → Shared → Prop} {use : Option (Value → Sem Unit)} {v : V} {u : Value}
    (hA : AOk g A) (hx : Ext W W₁) (hS : St g W₁ mm st s) (hv : VRel W₁ v u) {α : Type} {mu : V → M α} {γ : Type} {Rl : Wd → α → γ → Prop} {Qu : γ → Shared → Prop} (hP : Post g W₁ s Rl Qu E₀ ((compRest (compEnv ev sc) t me v >>= mu) st))
    (hok : ∀ r st' W' C m' mm' s' D, Ext W₁ W' → St { g with fr := (C, m') :: g.fr } W' mm' st' s' → Same s s' → VRel W' r (.ref D) → Post g W' s' Rl Qu E₀ (mu r st') → compPost (model g.c.prog g.c.w) A E use Q (.ref D) C (.ok .next) s') :
    wpAny (model g.c.prog g.c.w) A (pyIter u) (fun itv s₂ => wpAny (model g.c.prog g.c.w) A (newList []) (fun acc s₃ => wpAny (model g.c.prog g.c.w) A (newFunctionEnv sc env.globals [] [] env.qual none .none (some env)) (fun cenv s₄ =>
      codeAny (model g.c.prog g.c.w) A (.compStart (.ListComp elt [⟨t, it, [], 0⟩] sc pos) 0 itv acc { cenv with scope := relabel sc env }) (compPost (model g.c.prog g.c.w) A E use Q acc cenv.locals) s₄) E s₃) E s₂) E s := by
  have eM : (compRest (compEnv ev sc) t me v >>= mu) = (refM v >>= fun i => rdL i >>= fun _ => (fun st => (noExc (loopD wlim (nextIt i (targetV (compEnv ev sc) t)) (compTurnM st.next me) 0) >>= fun _ => setLoc st.loc >>= fun _ => mu (.ref st.next)) { heap := upd st.heap st.next (.list []), next := st.next + 1, loc := fun _ => none } : M α)) := by
    unfold compRest itOf
    rw [bind_assoc', bind_assoc']
    refine congrArg (refM v >>= ·) (funext fun i => ?_)
    rw [bind_assoc']
    refine congrArg (rdL i >>= ·) (funext fun _ => ?_)
    funext st
    show ((noExc (loopD wlim (nextIt i (targetV (compEnv ev sc) t)) (compTurnM st.next me) 0) >>= fun _ => setLoc st.loc >>= fun _ => pure (V.ref st.next)) >>= mu) _ = _
    rw [bind_assoc']
    rfl
  rw [eM] at hP
  replace hP := Post.get hP; obtain ⟨i, hi, hP⟩ := hP
  replace hP := Post.get hP; obtain ⟨xs, ho, hP⟩ := hP
  obtain rfl := refOf_some hi
  obtain ⟨hi, rfl⟩ := hv
  obtain ⟨vs, hL, hrel⟩ := hS.list ho
  refine wpAny_pyIter_list hL ?_
  generalize hob : ({ cls := .type "list_iterator", data := .fields #[.ref (W₁.ρ i), .int 0 0] } : Obj) = ob
  have hnew : (s.heap.push ob).get? s.heap.objs.size = some ob := Heap.get?_push_size _ (by rw [← hob]; rfl)
  have hun := hS.inv.unlab_size (Nat.le_refl s.heap.objs.size)
  have one : ∀ {P : Addr → Prop}, P s.heap.objs.size → ∀ a ∈ [s.heap.objs.size], P a := fun h a ha => by obtain rfl := List.mem_singleton.mp ha; exact h
  have hS₁ := (hS.push ob).lbl (Is := [s.heap.objs.size]) (one hun) (one (base_none hS.inv.sz)) (one ⟨_, hnew⟩)
  have hx₁ := W₁.ext_lbl [s.heap.objs.size]
  generalize hI : s.heap.objs.size = I at *
  have hS₁p := hS₁.pinUp (Is := [I]) fun a ha => lbl_in ha
  generalize hW₂ : W₁.lbl [I] = W₂ at *
  refine wpAny_newObj_type ?_
  have hS₂ := hS₁p.alloc (ob := { cls := .type "list", dict := none, data := .seq ([] : List Value).toArray }) (o := .list []) (fun _ e => nomatch e) ⟨[], 0, by rw [Wd.ρ_add]; exact Heap.get?_push_size _ rfl, trivial⟩
  dsimp only at hS₂ ⊢
  generalize hH2 : (s.heap.push ob).push { cls := .type "list", dict := none, data := .seq ([] : List Value).toArray } = H2 at hS₂
  generalize hD : (s.heap.push ob).objs.size = D at hS₂
  generalize hW₃ : W₂.add D 0 false = W₃ at hS₂
  have hx₂ : Ext W₂ W₃ := by rw [← hW₃]; exact W₂.ext_add _ _ _
  have hD3 : W₃.ρ st.next = D := by rw [← hW₃, hS₁.next]; exact W₂.ρ_add _ _ _
  have hn3 : st.next < W₃.n := by rw [← hW₃, hS₁.next]; exact Nat.lt_succ_self _
  refine wpAny_newFunctionEnv K.cell (by intro y hy; simp at hy) (fun h₁ hns₁ hsb₁ => ?_) K.kind
  dsimp only at hns₁ hsb₁ ⊢
  generalize hC : H2.objs.size = C at hns₁ hsb₁ ⊢
  have hCun := hS₂.inv.unlab_size (a := C) (by show H2.objs.size ≤ C; rw [hC]; exact Nat.le_refl _)
  have hkeep : ∀ a o, H2.get? a = some o → h₁.get? a = some o := fun a o e => hsb₁.extBut a o (fun q => by have := Heap.lt_size e; rw [q, hC] at this; exact Nat.lt_irrefl _ this) (Heap.get?_push_of_some _ e)
  have hI₃ := (hS₂.inv.grow hkeep).newFrame hCun (by rw [← hC]; exact hS₂.inv.sz) hns₁
  have hx₃ := W₃.ext_lblF C
  have hl₃ : ∀ a ∈ [I], (W₃.lblF C).lab a = some .pin := fun a ha => by
    obtain rfl := List.mem_singleton.mp ha
    exact hI₃.lpin (a, ob) (List.mem_append_left _ (pinsAt_mem (.head _) hnew))
  have hit : h₁.get? I = some ob := hI₃.pin (I, ob) (List.mem_append_left _ (pinsAt_mem (.head _) hnew))
  have hS₃ : St (gc g C ((g.L, mm) :: g.fr) []) (W₃.lblF C) (fun x => ([] : List (Str × Value)).reverse.lookup x) { heap := upd st.heap st.next (.list []), next := st.next + 1, loc := fun _ => none } { s with heap := h₁, toks := s.toks + ([] : List (Str × Value)).length } :=
    ⟨Inv.pinDown (ps := pinsAt [I] (s.heap.push ob)) hI₃, hS₂.next, fun x v e => nomatch e⟩
  have hx' := (hx₁.trans hx₂).trans hx₃
  have hxx := hx.trans hx'
  have Oc := compEnv_ok (O.ext hxx) K (C := C) (fr := (g.L, mm) :: g.fr) (ps := [])
  have hρ : (W₃.lblF C).ρ i = W₁.ρ i := hx'.eq i hi
  have Hd := head_list (g := gc g C ((g.L, mm) :: g.fr) []) (W := W₃.lblF C) hhd Oc (t := t) (i := i) (I := I) (Nat.lt_of_lt_of_le hi hx'.le)
  have hok' := fun (st₂ : S) W' (mm' : Str → Option Value) s' => hok (.ref st.next) { st₂ with loc := st.loc } W' C mm' mm s' D
  have hQ : Post (gc g C ((g.L, mm) :: g.fr) []) (W₃.lblF C) { s with heap := h₁, toks := s.toks + ([] : List (Str × Value)).length } (fun _ _ _ => True) (fun (_ : Unit) s' => compPost (model g.c.prog g.c.w) A E use Q (.ref D) C (.ok .next) s') E₀ (noExc (loopD wlim (nextIt i (targetV (compEnv ev sc) t)) (compTurnM st.next me) 0) { heap := upd st.heap st.next (.list []), next := st.next + 1, loc := fun _ => none }) := by
    rw [bind_run] at hP
    unfold noExc at hP ⊢
    revert hP
    cases loopD wlim (nextIt i (targetV (compEnv ev sc) t)) (compTurnM st.next me) 0 { heap := upd st.heap st.next (.list []), next := st.next + 1, loc := fun _ => none } with
    | fail => exact id
    | exc _ _ => exact id
    | ok f st₂ =>
      intro hP W' mm' s' _ hx₅ hS₅ hs₅ _
      have hx₆ := hx'.trans hx₅
      have hs₆ : Same s s' := Same.mk'.trans hs₅
      refine hok' st₂ W' mm' s' hx₆ ⟨Inv.swap hS₅.inv, hS₅.next, hS.loc.ext hx₆⟩ hs₆ ⟨Nat.lt_of_lt_of_le hn3 (hx₃.trans hx₅).le, ?_⟩ (Post.move (r := mu (.ref st.next) { st₂ with loc := st.loc }) hP hx₆ hs₆)
      rw [(hx₃.trans hx₅).eq _ hn3, hD3]
  have loop := sim_compCode (g := gc g C ((g.L, mm) :: g.fr) []) (W := W₃.lblF C) (elt := elt) (iter := it) (scope := sc) (pos := pos) (acc := st.next) Hd hn3
    (fun ps W' hx₄ => he C ((g.L, mm) :: g.fr) ps W' (hxx.trans hx₄) ((Oc.ext hx₄).pin (ps := ps))) (hA.gc fun L hL => .tail _ hL) hS₃ hl₃
    (fun p hp q => by
      have h1 := hS.inv.lpin p hp
      rw [List.mem_singleton.mp q, hun] at h1; cases h1)
    ⟨ob, hit, by rw [← hob], by rw [← hob, hρ]; rfl⟩ (Rr := compPost (model g.c.prog g.c.w) A E use Q (.ref D) C) hQ
  have eD : (W₃.lblF C).ρ st.next = D := hD3
  rw [eD] at loop
  exact codeAny_compStart_list loop (wpAny_pyIter_listiter (l := W₁.ρ i) (i := 0) ⟨ob, hit, by rw [← hob], by rw [← hob]; rfl⟩ loop)

/-- the frame of a comprehension goes -/
theorem St.dropComp {C : Addr} {m' mm : Str → Option Value} {st : S} {s : Shared} (hS : St { g with fr := (C, m') :: g.fr } W mm st s) {h' : Heap} (hs : Heap.SameBut C s.heap h') : St g (W.unl [C]) mm st { s with heap := h' } := by
  have I := hS.inv
  have lC : W.lab C = some .frame := I.lfr (C, m') (.tail _ (.head _))
  have I' := (Inv.swap I).dropFrame
  refine ⟨I'.other (x := C) ?_ (I.fresh (lab_ne lC)) hs, hS.next, hS.loc.ext (W.ext_unl [C])⟩
  show (if C ∈ [C] then none else W.lab C) = none
  rw [if_pos (.head _)]

/-- a comprehension, as it is used -/
theorem sim_compUse (hhd : g.hd = false) (O : EnvOk g W ev env) {elt it t : Expr} {sc : Scope} {pos p0 : Pos} (K : CompOk sc) {mi : M V} {me : M V} {use : Option (Value → Sem Unit)} {β : Type} {mu : V → M β} {R : Wd → β → Value → Prop}
    (hset : ∀ x, foldedSetIterable it env x = pure x) (hi : Sim g W (eval it env) mi VR)
    (he : ∀ C fr ps W', Ext W W' → EnvOk (gc g C fr ps) W' (compEnv ev sc) (compEnvC sc [] C env) → Sim (gc g C fr ps) W' (eval elt (compEnvC sc [] C env)) me VR)
    (hu : ∀ (A : Around) W₁ C m' mm s D r st₁ (Q : Value → Shared → Prop) (E : Value → Shared → Prop), AOk g A → Ext W W₁ → St { g with fr := (C, m') :: g.fr } W₁ mm st₁ s → VRel W₁ r (.ref D) → Post g W₁ s R Q E (mu r st₁) → compPost (model g.c.prog g.c.w) A E use Q (.ref D) C (.ok .next) s) :
    Sim g W (comprehension (.ListComp elt [⟨t, it, [], 0⟩] sc pos) sc env p0 (newList []) false (eval it env) use) (mi >>= fun x => compRest (compEnv ev sc) t me x >>= mu) R := by
  refine SimT.via (T := fun A Q E s => wpAny (model g.c.prog g.c.w) A (eval it env) (fun u s₁ => wpAny (model g.c.prog g.c.w) A (pyIter u) (fun itv s₂ => wpAny (model g.c.prog g.c.w) A (newList []) (fun acc s₃ => wpAny (model g.c.prog g.c.w) A (newFunctionEnv sc env.globals [] [] env.qual none .none (some env)) (fun cenv s₄ =>
      codeAny (model g.c.prog g.c.w) A (.compStart (.ListComp elt [⟨t, it, [], 0⟩] sc pos) 0 itv acc { cenv with scope := relabel sc env }) (compPost (model g.c.prog g.c.w) A E use Q acc cenv.locals) s₄) E s₃) E s₂) E s₁) E s) ?_ ?_
  · intro A Q E s _ h
    exact wpAny_comprehension_free rfl hset (closureFor_none K.free) K.kind K.loc h
  · refine SimT.seq hi.toT fun W₁ v u hx hv => ?_
    intro A W₂ mm st s Q E hA hx₂ hS hP
    exact sim_compRest hhd O K he hA (hx.trans hx₂) hS (hv.ext hx₂) hP fun r st' W' C m' mm' s' D hx' hS' hs' hD hP' => hu A W' C m' mm' s' D r st' Q E hA ((hx.trans hx₂).trans hx') hS' hD hP'

theorem E_comp (hhd : g.hd = false) (O : EnvOk g W ev env) {elt it t : Expr} {sc : Scope} {pos : Pos} (K : CompOk sc) {mi : M V} {me : M V}
    (hset : ∀ x, foldedSetIterable it env x = pure x) (hi : Sim g W (eval it env) mi VR)
    (he : ∀ C fr ps W', Ext W W' → EnvOk (gc g C fr ps) W' (compEnv ev sc) (compEnvC sc [] C env) → Sim (gc g C fr ps) W' (eval elt (compEnvC sc [] C env)) me VR) :
    Sim g W (eval (.ListComp elt [⟨t, it, [], 0⟩] sc pos) env) (mi >>= fun x => compRest (compEnv ev sc) t me x) VR := by
  have e : (fun x => compRest (compEnv ev sc) t me x) = fun x => compRest (compEnv ev sc) t me x >>= fun r => (pure r : M V) := by
    funext x st
    rw [bind_run]
    cases compRest (compEnv ev sc) t me x st <;> rfl
  rw [e, eval_ListComp]
  refine sim_compUse hhd O K hset hi he (use := none) (mu := fun r => pure r) ?_
  intro A W₁ C m' mm s D r st₁ Q E hA hx hS hD hP
  exact ⟨m', hS.inv.frs (C, m') (.tail _ (.head _)), fun h' hs' => hP (W₁.unl [C]) mm _ _ (W₁.ext_unl [C]) (hS.dropComp hs') Same.heap (hD.ext (W₁.ext_unl [C]))⟩
end
end Mine
end

section
open PySem PySem.W PySem.Calls PyProof.Rows
set_option maxRecDepth 100000
set_option linter.unusedVariables false
set_option linter.unusedSimpArgs false
namespace Mine

section
variable {g : G} {W : Wd} {ev : AEnv} {env : Env}

theorem sliceTail {M : Model} {A : Around} {E : Value → Shared → Prop} {s : Shared} {value : Expr} {lower upper : Option Expr} {p : Pos} {o i : Value} {T id : String} {Q : Value → Shared → Prop} (hl : typeLookup (.type T) "__getitem__" = pure (some (.builtin id))) (hT : s.TypeIs o T)
    (h : wpAny M A (getItem o i) (fun r s₃ => wpAny M A (letTemporaryGo value o r) (fun _ s₄ => Q r s₄) E s₃) E s) : wpAny M A (subscriptTail value (.Slice lower upper none p) o i) Q E s := by
  unfold subscriptTail
  have fin : wpAny M A (operate [i, o] (getItem o i)) (fun r s₃ => wpAny M A (letTemporaryGo value o r >>= fun _ => pure r) Q E s₃) E s :=
    wpAny_operating (wpAny_mono h (fun r s₃ h₃ => wpAny_bind (wpAny_mono h₃ (fun _ s₄ h₄ => wpAny_pure h₄) fun _ _ x => x)) fun _ _ x => x)
  first
    | (refine wpAny_bind ?_
       rw [getitemInPython_of_ne hT.not_modules]
       refine wpAny_bind (wpAny_specialOf hT hl ?_)
       first
         | exact wpAny_pure (wpAny_bind fin)
         | exact wpAny_bind (wpAny_pure (wpAny_bind fin))
         | exact wpAny_bind fin)
    | (refine wpAny_bind (wpAny_specialOf hT hl ?_)
       first
         | exact wpAny_bind (wpAny_pure (wpAny_bind fin))
         | exact wpAny_bind fin)


theorem sim_slice {v b : V} {u zb : Value} {value : Expr} {up : Option Expr} {p : Pos} (hv : VRel W v u) (hb : VRel W b zb) :
    SimT g W (fun A (Q : Value → Shared → Prop) E s => wpAny (model g.c.prog g.c.w) A (newFields "slice" [.none, zb, .none]) (fun i s₂ => wpAny (model g.c.prog g.c.w) A (subscriptTail value (.Slice none up none p) u i) Q E s₂) E s) (sliceV v b) VR := by
  intro A W₁ mm st s Q E hA hx hS hP
  replace hP := Post.get hP; obtain ⟨i, hi, hP⟩ := hP
  replace hP := Post.get hP; obtain ⟨y, hy, hP⟩ := hP
  replace hP := Post.get hP; obtain ⟨xs, ho, hP⟩ := hP
  replace hP := Post.ite hP; obtain ⟨⟨h0, h1, h2⟩, hP⟩ := hP
  obtain rfl := refOf_some hi
  obtain rfl := intOf_some hy
  obtain ⟨hi, rfl⟩ := hv.ext hx
  obtain ⟨t, rfl⟩ := hb
  obtain ⟨vs, hL, hrel⟩ := hS.seq ho
  have hlen := hrel.length
  unfold newFields
  refine wpAny_newObj_type ?_ (by size_fits)
  refine sliceTail list_getitem_lookup (Heap.IsList.typeIs (s := { s with heap := s.heap.push { cls := .type "slice", data := .fields [.none, .int y t, .none].toArray } }) (hL.push _))
    (wpAny_getItem_list_slice (hL.push _) (Heap.IsSliceOf.new ..) .none (.int y t) .none (by simp) (wpAny_letTemporaryGo ?_) (by rw [List.size_toArray, sizeLine_eq]; omega))
  have hS₁ := hS.push { cls := .type "slice", data := .fields [.none, .int y t, .none].toArray }
  have hS₂ := hS₁.alloc (ob := { cls := .type "list", data := .seq (slicePick vs.toArray none (some y) none) }) (o := .list (xs.take y.toNat)) (fun _ e => nomatch e) ⟨(slicePick vs.toArray none (some y) none).toList, 0, by rw [Wd.ρ_add]; exact Heap.get?_push_size _ rfl, (vs_pick hrel h0).ext (W₁.ext_add _ _ _)⟩
  exact hP _ mm _ _ (W₁.ext_add _ _ _) hS₂ Same.heap hS₁.ref

theorem denEach_len {P : PI} {Φ : Phi} : ∀ es : List Expr, (denEach P Φ ev es).length = es.length
  | [] => rfl
  | e :: r => by show (denE P Φ ev e :: denEach P Φ ev r).length = _; rw [List.length_cons, denEach_len r, List.length_cons]
theorem noStars_of {es : List Expr} (h : noStars es = true) : es.length < 25 ∧ (es.all fun e => !starred e) = true := by
  unfold noStars at h
  rw [Bool.and_eq_true] at h
  exact ⟨of_decide_eq_true h.1, h.2⟩


theorem allM_len {ms : List (M V)} {st : S} {α : Type} {s : Shared} {R : Wd → List V → α → Prop} {Q : α → Shared → Prop} {E : Value → Shared → Prop} (h : SimEach g W [] ms) : True := trivial
theorem sim_splicedL : ∀ {W : Wd} {ts : List (Sem Value)} {ms : List (M V)}, SimEach g W ts ms → Sim g W (spliced (ts.map fun t => (false, t))) (allM ms) (fun W vs us => VsRel W vs us ∧ us.length = ts.length)
  | W, [], [], _ => Sim.pure fun _ _ => ⟨trivial, rfl⟩
  | W, t :: ts, m :: ms, h => by
    show Sim g W (t >>= fun v => (pure [v] : Sem (List Value)) >>= fun here => holding here (spliced (ts.map fun t => (false, t))) >>= fun r => pure (here ++ r)) _ _
    refine h.1.bind fun W₁ v u hx hv => ?_
    show Sim g W₁ (holding [u] (spliced (ts.map fun t => (false, t))) >>= fun r => pure ([u] ++ r)) (allM ms >>= fun vs => pure (v :: vs)) _
    refine Sim.tail (k := fun vs => v :: vs) (f := fun r => [u] ++ r) (Sim.holding (sim_splicedL (h.2.start hx))) fun W' b a hx' hr W'' hx'' => ⟨⟨(hv.ext hx').ext hx'', hr.1.ext hx''⟩, congrArg (· + 1) hr.2⟩
  | _, [], _ :: _, h => h.elim
  | _, _ :: _, [], h => h.elim
theorem evalEach_len : ∀ es : List Expr, (evalEach es env).length = es.length
  | [] => rfl
  | e :: r => congrArg (· + 1) (evalEach_len r)
theorem Sim.ite {α β : Type} {p : Prop} [Decidable p] {t : Sem α} {m : M β} {R : Wd → β → α → Prop} (h : p → Sim g W t m R) : Sim g W t (if p then m else failM) R := by
  by_cases q : p
  · rw [if_pos q]; exact h q
  · rw [if_neg q]; exact Sim.fail

theorem E_const {c : PySem.Const} {k : Nat} {p : Pos} : Sim g W (eval (.Constant c k p) env) (constM c) VR := by
  cases c with
  | none => exact Sim.pure fun _ _ => rfl
  | bool b => exact Sim.pure fun _ _ => rfl
  | int i => exact sim_int
  | str x => exact sim_text
  | _ => exact Sim.fail

theorem E_unary {op : UnaryOp} {x : Expr} {p : Pos} {m : M V} (h : Sim g W (eval x env) m VR) : Sim g W (eval (.UnaryOp op x p) env) (m >>= unM op) VR := by
  rw [arm_eval_UnaryOp]
  refine h.bind fun W₁ v u hx hv => Sim.standAt (Sim.holding ?_)
  cases op with
  | Not => exact Sim.holding (Sim.tail (k := fun b => V.bool !b) (f := fun b => Value.bool !b) (sim_truthy hv) fun W' b a _ hb W'' _ => by subst hb; rfl)
  | USub =>
    intro A W₂ mm st s Q E hA hx hS hP
    replace hP := Post.get hP; obtain ⟨y, hy, hP⟩ := hP
    obtain rfl := intOf_some hy
    obtain ⟨t, rfl⟩ := hv
    exact neg_int (hP W₂ mm _ _ (Ext.refl _) (hS.toks _) Same.toks ⟨_, rfl⟩)
  | _ => exact Sim.fail

theorem E_bin {op : Operator} {l r : Expr} {p : Pos} {ml mr : M V} (hl : Sim g W (eval l env) ml VR) (hr : ∀ W', Ext W W' → Sim g W' (eval r env) mr VR) : Sim g W (eval (.BinOp l op r p) env) (ml >>= fun a => mr >>= fun b => binV op a b) VR := by
  rw [arm_eval_BinOp]
  refine hl.bind fun W₁ v u hx hv => (Sim.holding (hr W₁ hx)).bind fun W₂ w z hx₂ hw => Sim.standAt (Sim.operate (sim_bin (hv.ext hx₂) hw))

theorem E_if {t b o : Expr} {p : Pos} {mt : M Bool} {mb mo : M V} (ht : Sim g W (PySem.isTrue t env (eval t env)) mt (fun _ b b' => b' = b)) (hb : ∀ W', Ext W W' → Sim g W' (eval b env) mb VR) (ho : ∀ W', Ext W W' → Sim g W' (eval o env) mo VR) :
    Sim g W (eval (.IfExp t b o p) env) (mt >>= fun c => if c = true then mb else mo) VR := by
  rw [arm_eval_IfExp]
  refine ht.bind fun W₁ c c' hx hc => ?_
  subst hc
  cases c' with
  | true => exact hb W₁ hx
  | false => exact ho W₁ hx

theorem E_compare (D : Gd g) (O : EnvOk g W ev env) {l : Expr} {ops : List CmpOp} {cs : List Expr} {p : Pos} {ml : M V} (hl : Sim g W (eval l env) ml VR) (hc : ∀ W', Ext W W' → SimEach g W' (evalEach cs env) (denEach g.c.P (phi g.c.P g.d) ev cs)) :
    Sim g W (eval (.Compare l ops cs p) env) (ml >>= fun a => chainV g.c.P (phi g.c.P g.d) ev.hd a ops (denEach g.c.P (phi g.c.P g.d) ev cs)) VR := by
  rw [arm_eval_Compare, O.hd]
  exact hl.bind fun W₁ v u hx hv => sim_chain D hv (sim_marked ops cs (hc W₁ hx))
theorem T_compare (D : Gd g) (O : EnvOk g W ev env) {l : Expr} {ops : List CmpOp} {cs : List Expr} {p : Pos} {ml : M V} {whole : Sem Value} (hl : Sim g W (eval l env) ml VR) (hc : ∀ W', Ext W W' → SimEach g W' (evalEach cs env) (denEach g.c.P (phi g.c.P g.d) ev cs)) :
    Sim g W (PySem.isTrue (.Compare l ops cs p) env whole) (ml >>= fun a => testV g.c.P (phi g.c.P g.d) ev.hd a ops (denEach g.c.P (phi g.c.P g.d) ev cs)) (fun _ b b' => b' = b) := by
  rw [arm_isTrue_Compare, O.hd]
  exact hl.bind fun W₁ v u hx hv => sim_test D ops hv (sim_marked ops cs (hc W₁ hx))

theorem elts_fit {es : List Expr} (h : es.length < 25) {us : List Value} (e : us.length = (evalEach es env).length) : us.length ≤ sizeLine := by
  rw [e, evalEach_len, sizeLine_eq]; omega
theorem E_list {P : PI} {Φ : Phi} {es : List Expr} {p : Pos} (h : SimEach g W (evalEach es env) (denEach P Φ ev es)) : Sim g W (eval (.List es p) env) (if noStars es = true then denEs P Φ ev es >>= fun vs => alRef (.list vs) else failM) VR := by
  refine Sim.ite fun hs => ?_
  obtain ⟨h1, h2⟩ := noStars_of hs
  rw [denEs_all, arm_eval_List, starEach_plain es h2]
  exact Sim.standAt ((sim_splicedL h).bind fun W₁ vs us hx hv => sim_newList hv.1 (elts_fit h1 hv.2))
theorem E_tuple {P : PI} {Φ : Phi} {es : List Expr} {k : Nat} {p : Pos} (h : SimEach g W (evalEach es env) (denEach P Φ ev es)) : Sim g W (eval (.Tuple es k p) env) (if noStars es = true then denEs P Φ ev es >>= fun vs => alRef (.tup vs) else failM) VR := by
  refine Sim.ite fun hs => ?_
  obtain ⟨h1, h2⟩ := noStars_of hs
  rw [denEs_all, arm_eval_Tuple, starEach_plain es h2]
  exact Sim.standAt ((sim_splicedL h).bind fun W₁ vs us hx hv => sim_newTuple hv.1 (elts_fit h1 hv.2))

theorem base_plain {o : Expr} (h : plainBase o = true) (n : Str) (whole : Sem Value) : attributeBase o n env whole = whole := by
  unfold plainBase at h
  split at h
  · cases h
  · rename_i hn
    unfold attributeBase
    split
    · rename_i e; exact absurd rfl (hn _ _ _)
    · rfl

theorem E_attr (D : Gd g) (O : EnvOk g W ev env) {v : Expr} {n : Str} {p : Pos} {mv : M V} (h : Sim g W (eval v env) mv VR) : Sim g W (eval (.Attribute v n p) env) (if plainBase v = true then mv >>= fun o => attrV g.c.P (phi g.c.P g.d) ev.hd o n else failM) VR := by
  refine Sim.ite fun hs => ?_
  rw [arm_eval_Attribute, base_plain hs, O.hd]
  refine h.bind fun W₁ o u hx ho => Sim.standAt ?_
  refine Sim.tailT (Sim.holding (sim_attr D.C D.F (Nat.le_trans D.k (by decide)) ho)) fun W₂ b a hx₂ hb => ?_
  exact (Sim.pure fun W' hx' => hb.ext hx' : Sim g W₂ (pure a : Sem Value) (pure b : M V) VR).via fun A Q E s x => wpAny_bind (wpAny_letTemporaryGo x)

theorem E_slice {v : Expr} {up : Option Expr} {q p : Pos} {mv mb : M V} (hv : Sim g W (eval v env) mv VR) (hb : ∀ W', Ext W W' → Sim g W' (valueOrNone (evalOpt up env)) mb VR) :
    Sim g W (eval (.Subscript v (.Slice none up none q) p) env) (mv >>= fun o => mb >>= fun b => sliceV o b) VR := by
  refine SimT.via (T := fun A Q E s => wpAny (model g.c.prog g.c.w) A (eval v env) (fun o s₁ => wpAny (model g.c.prog g.c.w) A (valueOrNone (evalOpt up env)) (fun b s₃ =>
    wpAny (model g.c.prog g.c.w) A (newFields "slice" [.none, b, .none]) (fun i s₄ => wpAny (model g.c.prog g.c.w) A (subscriptTail v (.Slice none up none q) o i) Q E s₄) E s₃) E s₁) E s) ?_ ?_
  · intro A Q E s _ h
    refine Subscript_ (wpAny_mono h (fun o s₁ h₁ => ?_) fun _ _ x => x)
    rw [arm_eval_Slice]
    refine wpAny_bind (wpAny_pure (wpAny_bind (wpAny_holding (wpAny_mono h₁ (fun b s₃ h₃ => ?_) fun _ _ x => x))))
    exact wpAny_bind (wpAny_holding (wpAny_pure h₃))
  · exact SimT.seq hv.toT fun W₁ o u hx ho => SimT.seq (hb W₁ hx).toT fun W₃ b zb hx₃ hbR => sim_slice (ho.ext hx₃) hbR

/-! calls -/
theorem boot_len : bootBuiltins "len" = some (.builtin "len") := by decide +kernel
theorem boot_abs : bootBuiltins "abs" = some (.builtin "abs") := by decide +kernel
theorem boot_isinstance : bootBuiltins "isinstance" = some (.builtin "isinstance") := by decide +kernel
theorem boot_int : bootBuiltins "int" = some (.type "int") := by decide +kernel


end
end Mine
end

section
open PySem PySem.W PySem.Calls PyProof.Rows
set_option maxRecDepth 100000
set_option linter.unusedVariables false
set_option linter.unusedSimpArgs false
namespace Mine

section
variable {g : G} {W : Wd} {ev : AEnv} {env : Env}

theorem E_method (D : Gd g) (O : EnvOk g W ev env) {o : Expr} {n : Str} {ap pp : Pos} {args : List Expr} {kws : List Keyword} {mo : M V} (ho : Sim g W (eval o env) mo VR) (ha : ∀ W', Ext W W' → SimEach g W' (evalEach args env) (denEach g.c.P (phi g.c.P g.d) ev args)) :
    Sim g W (eval (.Call (.Attribute o n ap) args kws pp) env) (if ((ap.endLine == pp.line) && plainBase o && noStars args && kws.isEmpty) = true then
        mo >>= fun ov => calleeM g.c.P ov n >>= fun k => denEs g.c.P (phi g.c.P g.d) ev args >>= fun vs => methodM g.c.P (phi g.c.P g.d) ev.hd k.1 k.2 n vs
      else failM) VR := by
  refine Sim.ite fun hc => ?_
  rw [Bool.and_eq_true, Bool.and_eq_true, Bool.and_eq_true] at hc
  obtain ⟨⟨⟨hl, h1⟩, h2⟩, h3⟩ := hc
  obtain ⟨h4, h5⟩ := noStars_of h2
  obtain rfl := List.isEmpty_iff.mp h3
  rw [arm_eval_Call, base_plain h1, starEach_plain args h5]
  refine ho.bind fun W₁ v u hx hv => Sim.standAt ?_
  have hform : methodCallForm (args.length + ([] : List Keyword).length) ((evalEach args env).map fun t => (false, t)) (backToKw pp (keywordEach [] env)) = true := by
    unfold methodCallForm
    have e1 : ((evalEach args env).map fun t => ((false, t) : Bool × Sem Value)).all (!·.1) = true := by simp
    rw [e1]
    show (true && true && decide _) = true
    rw [Bool.true_and, Bool.true_and, decide_eq_true_eq]
    exact Nat.lt_of_lt_of_le h4 (by decide)
  have hpos : methodCallPos true o env ap pp = pure pp := by
    unfold methodCallPos
    simp [hl]
  unfold methodCall
  rw [hform]
  refine (Sim.holding (sim_callee D hv)).bind fun W₂ k p hx₂ hr => ?_
  obtain ⟨f, first⟩ := p
  show Sim g W₂ (methodCallPos true o env ap pp >>= fun callPos => callWith callPos f first _ _) _ _
  rw [hpos, pure_bind, denEs_all, O.hd]
  refine sim_callWith D.C (k := fun vs => methodM g.c.P (phi g.c.P g.d) g.hd k.1 k.2 n vs) (fun h X => keeps_callee hr h X) (ha W₂ (hx.trans hx₂)) fun W₃ vs us hx₃ hvs => ?_
  obtain ⟨hi, h8, h9⟩ := hr
  exact sim_method D (k := k) (p := (f, first)) ⟨Nat.lt_of_lt_of_le hi hx₃.le, by rw [h8, hx₃.eq _ hi], h9⟩ hvs

/-- a call of a plain callee with plain arguments -/
theorem sim_callPlain (D : Gd g) {f : Value} {pos : Pos} {args : List Expr} {k : List V → M V} (hs : (args.all fun e => !starred e) = true)
    (hkeep : ∀ h, g.c.K.In h → ∃ k, (k = Keeper.frame ∨ k = Keeper.machine ∨ k = Keeper.boundFrame) ∧ Looks (model g.c.prog g.c.w) h (keeperOf f) k)
    (ha : SimEach g W (evalEach args env) (denEach g.c.P (phi g.c.P g.d) ev args)) (hc : ∀ W₁ vs us, Ext W W₁ → VsRel W₁ vs us → Sim g W₁ (call f us []) (k vs) VR) :
    Sim g W (callWith pos f [] (backTo pos (starEach args env)) (backToKw pos (keywordEach [] env))) (denEs g.c.P (phi g.c.P g.d) ev args >>= k) VR := by
  rw [starEach_plain args hs, denEs_all]
  exact sim_callWith D.C (first := []) hkeep ha hc

theorem one_sim {f : V → M V} {F : Value → Sem Value} {G : List Value → Sem Value} (hG : ∀ u, G [u] = F u) (h : ∀ v u, VRel W v u → Sim g W (F u) (f v) VR) {vs : List V} {us : List Value} (hv : VsRel W vs us) : Sim g W (G us) (one f vs) VR := by
  match vs, us, hv with
  | [v], [u], hv => rw [hG]; exact h v u hv.1
  | [], _, _ => exact Sim.fail
  | _ :: _ :: _, _, _ => exact Sim.fail

theorem pre_unit {α β : Type} {t : Sem α} {f : α → Sem Value} {a : α} {m : M V} (h1 : Sim g W t (pure () : M Unit) (fun _ _ u => u = a)) (h2 : ∀ W₁, Ext W W₁ → Sim g W₁ (f a) m VR) : Sim g W (t >>= f) m VR := by
  have e : m = (pure () >>= fun _ => m : M V) := by funext st; rfl
  rw [e]
  exact h1.bind fun W₁ _ u hx hu => by subst hu; exact h2 W₁ hx

theorem pre_unitT {t : Sem Value} {f : Value → Sem Value} {a : Value} {m : M V} (h1 : Sim g W t (pure () : M Unit) (fun _ _ u => u = a)) (h2 : ∀ W₁, Ext W W₁ → Sim g W₁ (f a) m VR) : SimT g W (fun A Q E s => wpAny (model g.c.prog g.c.w) A t (fun a s' => wpAny (model g.c.prog g.c.w) A (f a) Q E s') E s) m VR := by
  have e : m = (pure () >>= fun _ => m : M V) := by funext st; rfl
  rw [e]
  exact SimT.seq (T' := fun a A Q E s => wpAny (model g.c.prog g.c.w) A (f a) Q E s) h1.toT fun W₁ _ u hx hu => by subst hu; exact h2 W₁ hx

theorem E_isinst (D : Gd g) (O : EnvOk g W ev env) {np pos : Pos} {args : List Expr} (hg : isGlobal ev ("isinstance" : Str) = true) (h5 : (args.all fun e => !starred e) = true) (ha : ∀ W', Ext W W' → SimEach g W' (evalEach args env) (denEach g.c.P (phi g.c.P g.d) ev args)) :
    Sim g W (eval (.Call (.Name "isinstance" np) args [] pos) env) (isiM ev args (denEach g.c.P (phi g.c.P g.d) ev args)) VR := by
  match args, ha, h5 with
  | [], _, _ => exact Sim.fail
  | [_], _, _ => exact Sim.fail
  | _ :: _ :: _ :: _, _, _ => exact Sim.fail
  | [e, t], ha, h5 =>
    show Sim g W (eval (.Name "isinstance" np) env >>= fun fv => callWith pos fv [] (backTo pos (starEach [e, t] env)) (backToKw pos (keywordEach [] env))) (match globE ev t with | some n => denE g.c.P (phi g.c.P g.d) ev e >>= fun v => isinstV v n | none => failM) VR
    cases hge : globE ev t with
    | none => exact Sim.fail
    | some n =>
      obtain ⟨q, hn, rfl⟩ : ∃ q, isGlobal ev n = true ∧ t = .Name n q := by
        unfold globE at hge
        split at hge
        · rename_i x hx
          obtain ⟨q, rfl⟩ := nameE_some hx
          by_cases hz : isGlobal ev x = true
          · rw [if_pos hz] at hge; cases hge; exact ⟨q, hz, rfl⟩
          · rw [if_neg hz] at hge; cases hge
        · cases hge
      refine pre_unit (β := Unit) (sim_boot D.C O hg (D.C.frees "isinstance" (by simp)) boot_isinstance (by decide) (by decide)) fun W₁ hx₁ => ?_
      have O₁ := O.ext hx₁
      rw [starEach_plain _ h5]
      refine SimT.via (T := fun A Q E s => wpAny (model g.c.prog g.c.w) A (eval e env) (fun v s₁ => wpAny (model g.c.prog g.c.w) A (eval (.Name n q) env) (fun z s₂ => wpAny (model g.c.prog g.c.w) A (call (.builtin "isinstance") [v, z]) Q E s₂) E s₁) E s) ?_ ?_
      · intro A Q E s _ h
        refine callWith_of (P := fun _ => True) rfl (fun h _ => keeps_builtin h) ?_
        refine evalArgs_kw rfl ?_
        show wpAny _ A (eval e env >>= fun v => (pure [v] : Sem (List Value)) >>= fun here => holding here (eval (.Name n q) env >>= fun v => (pure [v] : Sem (List Value)) >>= fun here => holding here (pure []) >>= fun r => pure (here ++ r)) >>= fun r => pure (here ++ r)) _ E s
        refine wpAny_bind (wpAny_mono h (fun v s₁ h₁ => wpAny_bind (wpAny_pure (wpAny_bind (wpAny_holding (wpAny_bind (wpAny_mono h₁ (fun z s₂ h₂ => ?_) fun _ _ x => x)))))) fun _ _ x => x)
        exact wpAny_bind (wpAny_pure (wpAny_bind (wpAny_holding (wpAny_pure (wpAny_pure (wpAny_pure (wpAny_pure ⟨trivial, h₂⟩)))))))
      · refine SimT.seq (ha W₁ hx₁).1.toT fun W₂ v u hx₂ hv => ?_
        have O₂ := O₁.ext hx₂
        by_cases h1 : n = ("int" : Str)
        · subst h1
          exact pre_unitT (f := fun z => call (.builtin "isinstance") [u, z]) (sim_boot D.C O₂ hn (D.C.frees "int" (by simp)) boot_int (by decide) (by decide)) fun W₃ hx₃ => sim_isint D.C (hv.ext hx₃)
        · by_cases h2 : n = ("Stream" : Str)
          · subst h2
            exact pre_unitT (f := fun z => call (.builtin "isinstance") [u, z]) (sim_glob D.C O₂ hn D.C.stream (by decide)) fun W₃ hx₃ => sim_isstream D.C (hv.ext hx₃)
          · have e : isinstV v n = failM := by
              funext st
              unfold isinstV
              rw [if_neg h1, if_neg h2]
              rfl
            rw [e]; exact fun _ _ _ _ _ _ _ _ _ _ h => h.elim

theorem E_callName (D : Gd g) (O : EnvOk g W ev env) {f : Str} {np pos : Pos} {args : List Expr} {kws : List Keyword} (ha : ∀ W', Ext W W' → SimEach g W' (evalEach args env) (denEach g.c.P (phi g.c.P g.d) ev args)) :
    Sim g W (eval (.Call (.Name f np) args kws pos) env) (if (isGlobal ev f && kws.isEmpty && noStars args) = true then
        (if f = ("isinstance" : Str) then isiM ev args (denEach g.c.P (phi g.c.P g.d) ev args)
        else if knownFn g.c.P f = true then denEs g.c.P (phi g.c.P g.d) ev args >>= fun vs => callName g.c.P (phi g.c.P g.d) ev f vs else failM)
      else failM) VR := by
  refine Sim.ite fun hc => ?_
  rw [Bool.and_eq_true, Bool.and_eq_true] at hc
  obtain ⟨⟨hg, hk⟩, hs⟩ := hc
  obtain rfl := List.isEmpty_iff.mp hk
  obtain ⟨h4, h5⟩ := noStars_of hs
  by_cases hi : f = ("isinstance" : Str)
  · subst hi
    rw [if_pos rfl]
    exact E_isinst D O hg h5 ha
  rw [if_neg hi]
  refine Sim.ite fun hkn => ?_
  have go : ∀ {fv : Value} {k : List V → M V}, Sim g W (eval (.Name f np) env) (pure () : M Unit) (fun _ _ u => u = fv) → (∀ h, g.c.K.In h → ∃ k, (k = Keeper.frame ∨ k = Keeper.machine ∨ k = Keeper.boundFrame) ∧ Looks (model g.c.prog g.c.w) h (keeperOf fv) k) →
      (∀ W₁ vs us, Ext W W₁ → VsRel W₁ vs us → Sim g W₁ (call fv us []) (k vs) VR) → Sim g W (eval (.Call (.Name f np) args [] pos) env) (denEs g.c.P (phi g.c.P g.d) ev args >>= k) VR := fun {fv k} h1 h2 h3 =>
    pre_unit (β := Unit) (t := eval (.Name f np) env) (f := fun fv => callWith pos fv [] (backTo pos (starEach args env)) (backToKw pos (keywordEach [] env))) h1 fun W₁ hx => sim_callPlain D h5 h2 (ha W₁ hx) fun W₂ vs us hx₂ hv => h3 W₂ vs us (hx.trans hx₂) hv
  unfold callName
  by_cases hc : (g.c.P.code (.glob f)).isSome = true
  · simp only [if_pos hc]
    obtain ⟨code, hcd⟩ := Option.isSome_iff_exists.mp hc
    obtain ⟨fa, hfa, hfn⟩ := D.C.fn _ _ hcd
    have hdb : (f == ("__debug__" : Str)) = false := by
      rw [beq_eq_false_iff_ne]
      rintro rfl
      rw [D.C.dbg] at hcd; cases hcd
    rw [O.hd]
    exact go (sim_glob D.C O hg hfa hdb) (fun h X => keeps_K (keep_fn hfn) h X) fun W₂ vs us hx₂ hvs => sim_fn D hcd hfn hvs
  · simp only [if_neg hc]
    by_cases h1 : f = ("Stream" : Str)
    · subst h1
      simp only [if_pos rfl]
      rw [O.hd]
      exact go (sim_glob D.C O hg D.C.stream (by decide)) (fun h X => keeps_K D.C.keep h X) fun W₂ vs us hx₂ hvs => sim_new D hvs
    · simp only [if_neg h1]
      by_cases h2 : f = ("len" : Str)
      · subst h2
        simp only [if_pos rfl]
        exact go (sim_boot D.C O hg (D.C.frees "len" (by simp)) boot_len (by decide) (by decide)) (fun h X => keeps_builtin h) fun W₂ vs us hx₂ hvs => one_sim (G := fun us => call (.builtin "len") us []) (fun _ => rfl) (fun v u h => sim_len h) hvs
      · simp only [if_neg h2]
        by_cases h3 : f = ("abs" : Str)
        · subst h3
          simp only [if_pos rfl]
          exact go (sim_boot D.C O hg (D.C.frees "abs" (by simp)) boot_abs (by decide) (by decide)) (fun h X => keeps_builtin h) fun W₂ vs us hx₂ hvs => one_sim (G := fun us => call (.builtin "abs") us []) (fun _ => rfl) (fun v u h => sim_abs h) hvs
        · simp only [if_neg h3]
          exact absurd hkn (by unfold knownFn; simp [hc, h1, h2, h3])
end
end Mine
end

section
open PySem PySem.W PySem.Calls PyProof.Rows
set_option maxRecDepth 100000
set_option linter.unusedVariables false
set_option linter.unusedSimpArgs false
namespace Mine

section
variable {g : G} {W : Wd} {ev : AEnv} {env : Env}
theorem T_default {e : Expr} {m : M V} {t : Sem Value} (h : Sim g W t m VR) (he : PySem.isTrue e env t = (t >>= fun v => standAt e.pos >>= fun _ => holding [v] (truthy v)) := by rfl) : Sim g W (PySem.isTrue e env t) (truthM m) (fun _ b b' => b' = b) := by
  rw [he]
  exact h.bind fun W₁ v u hx hv => Sim.standAt (Sim.holding (sim_truthy hv))
theorem sim_next {op : BoolOp} {b : Bool} {m : M Bool} {t : Sem Bool} (h : Sim g W t m (fun _ b b' => b' = b)) : Sim g W (match op, b with | .And, false => pure false | .Or, true => pure true | _, _ => t) (boolNext op b m) (fun _ b b' => b' = b) := by
  cases op <;> cases b <;> first | exact h | exact Sim.pure fun _ _ => rfl
end

mutual
theorem snd_E : ∀ (e : Expr) {g : G} {W : Wd} {ev : AEnv} {env : Env}, Gd g → EnvOk g W ev env → Sim g W (eval e env) (denE g.c.P (phi g.c.P g.d) ev e) VR
  | .Constant c k p, _, _, _, _, D, O => E_const
  | .Name x p, _, _, _, _, D, O => sim_load O
  | .UnaryOp op x p, _, _, _, _, D, O => E_unary (snd_E x D O)
  | .BinOp l op r p, _, _, _, _, D, O => E_bin (snd_E l D O) fun W' hx => snd_E r D (O.ext hx)
  | .IfExp t b o p, _, _, _, _, D, O => E_if (snd_T t D O (snd_E t D O)) (fun W' hx => snd_E b D (O.ext hx)) (fun W' hx => snd_E o D (O.ext hx))
  | .Compare l ops cs p, _, _, _, _, D, O => E_compare D O (snd_E l D O) fun W' hx => snd_Each cs D (O.ext hx)
  | .List es p, _, _, _, _, D, O => E_list (snd_Each es D O)
  | .Tuple es k p, _, _, _, _, D, O => E_tuple (snd_Each es D O)
  | .Attribute v n p, _, _, _, _, D, O => E_attr D O (snd_E v D O)
  | .Subscript v i p, g, W, ev, env, D, O => by
    cases i with
    | Slice lo up st q =>
      refine Sim.ite fun h => ?_
      rw [Bool.and_eq_true] at h
      obtain rfl := Option.isNone_iff_eq_none.mp h.1
      obtain rfl := Option.isNone_iff_eq_none.mp h.2
      exact E_slice (snd_E v D O) fun W' hx => snd_Opt up D (O.ext hx)
    | _ => exact Sim.fail
  | .Call f args kws p, g, W, ev, env, D, O => by
    cases f with
    | Attribute o n ap => exact E_method D O (snd_E o D O) fun W' hx => snd_Each args D (O.ext hx)
    | Name x np => exact E_callName D O fun W' hx => snd_Each args D (O.ext hx)
    | _ => exact Sim.fail
  | .ListComp elt gens sc p, g, W, ev, env, D, O => snd_Comp gens D O fun C fr ps W' hx O' => snd_E elt (g := gc g C fr ps) D.gc O'
  | .Dict .., _, _, _, _, _, _ => Sim.fail
  | .BoolOp .., _, _, _, _, _, _ => Sim.fail
  | .NamedExpr .., _, _, _, _, _, _ => Sim.fail
  | .Lambda .., _, _, _, _, _, _ => Sim.fail
  | .Set .., _, _, _, _, _, _ => Sim.fail
  | .SetComp .., _, _, _, _, _, _ => Sim.fail
  | .DictComp .., _, _, _, _, _, _ => Sim.fail
  | .GeneratorExp .., _, _, _, _, _, _ => Sim.fail
  | .Await .., _, _, _, _, _, _ => Sim.fail
  | .Yield .., _, _, _, _, _, _ => Sim.fail
  | .YieldFrom .., _, _, _, _, _, _ => Sim.fail
  | .FormattedValue .., _, _, _, _, _, _ => Sim.fail
  | .JoinedStr .., _, _, _, _, _, _ => Sim.fail
  | .Starred .., _, _, _, _, _, _ => Sim.fail
  | .Slice .., _, _, _, _, _, _ => Sim.fail

theorem snd_T : ∀ (e : Expr) {g : G} {W : Wd} {ev : AEnv} {env : Env} {m : M V}, Gd g → EnvOk g W ev env → Sim g W (eval e env) m VR → Sim g W (PySem.isTrue e env (eval e env)) (denT g.c.P (phi g.c.P g.d) ev e m) (fun _ b b' => b' = b)
  | .UnaryOp op x p, g, W, ev, env, m, D, O, h => by
    cases op with
    | Not =>
      rw [arm_isTrue_UnaryOp]
      exact Sim.tail (k := fun b => !b) (f := fun b => !b) (snd_T x D O (snd_E x D O)) fun W' b a _ hb W'' _ => by subst hb; rfl
    | _ => exact T_default h
  | .BoolOp op vs p, _, _, _, _, _, D, O, h => snd_Bool op vs D O
  | .IfExp t b o p, _, _, _, _, _, D, O, h => Sim.fail
  | .Compare l ops cs p, _, _, _, _, _, D, O, h => T_compare D O (snd_E l D O) fun W' hx => snd_Each cs D (O.ext hx)
  | .Constant .., _, _, _, _, _, D, O, h => T_default h
  | .Name .., _, _, _, _, _, D, O, h => T_default h
  | .BinOp .., _, _, _, _, _, D, O, h => T_default h
  | .List .., _, _, _, _, _, D, O, h => T_default h
  | .Tuple .., _, _, _, _, _, D, O, h => T_default h
  | .Dict .., _, _, _, _, _, D, O, h => T_default h
  | .Attribute .., _, _, _, _, _, D, O, h => T_default h
  | .Subscript .., _, _, _, _, _, D, O, h => T_default h
  | .Call .., _, _, _, _, _, D, O, h => T_default h
  | .ListComp .., _, _, _, _, _, D, O, h => T_default h
  | .NamedExpr .., _, _, _, _, _, D, O, h => T_default h
  | .Lambda .., _, _, _, _, _, D, O, h => T_default h
  | .Set .., _, _, _, _, _, D, O, h => T_default h
  | .SetComp .., _, _, _, _, _, D, O, h => T_default h
  | .DictComp .., _, _, _, _, _, D, O, h => T_default h
  | .GeneratorExp .., _, _, _, _, _, D, O, h => T_default h
  | .Await .., _, _, _, _, _, D, O, h => T_default h
  | .Yield .., _, _, _, _, _, D, O, h => T_default h
  | .YieldFrom .., _, _, _, _, _, D, O, h => T_default h
  | .FormattedValue .., _, _, _, _, _, D, O, h => T_default h
  | .JoinedStr .., _, _, _, _, _, D, O, h => T_default h
  | .Starred .., _, _, _, _, _, D, O, h => T_default h
  | .Slice .., _, _, _, _, _, D, O, h => T_default h

theorem snd_Bool : ∀ (op : BoolOp) (es : List Expr) {g : G} {W : Wd} {ev : AEnv} {env : Env}, Gd g → EnvOk g W ev env → Sim g W (allTrue op es env) (denBool g.c.P (phi g.c.P g.d) ev op es) (fun _ b b' => b' = b)
  | op, [], _, _, _, _, D, O => Sim.pure fun _ _ => rfl
  | op, e :: r, g, W, ev, env, D, O => by
    rw [arm_allTrue_cons]
    refine (snd_T e D O (snd_E e D O)).bind fun W₁ b b' hx hb => ?_
    subst hb
    have ih := snd_Bool op r D (O.ext hx)
    cases op <;> cases b' <;> first | exact ih | exact Sim.pure fun _ _ => rfl

theorem snd_Each : ∀ (es : List Expr) {g : G} {W : Wd} {ev : AEnv} {env : Env}, Gd g → EnvOk g W ev env → SimEach g W (evalEach es env) (denEach g.c.P (phi g.c.P g.d) ev es)
  | [], _, _, _, _, _, _ => trivial
  | e :: r, _, _, _, _, D, O => ⟨snd_E e D O, snd_Each r D O⟩

theorem snd_Opt : ∀ (e : Option Expr) {g : G} {W : Wd} {ev : AEnv} {env : Env}, Gd g → EnvOk g W ev env → Sim g W (valueOrNone (evalOpt e env)) (denOpt g.c.P (phi g.c.P g.d) ev e) VR
  | none, _, _, _, _, _, _ => Sim.pure fun _ _ => rfl
  | some e, _, _, _, _, D, O => snd_E e D O

theorem snd_Comp : ∀ (gens : List Comprehension) {g : G} {W : Wd} {ev : AEnv} {env : Env} {elt : Expr} {sc : Scope} {p : Pos} {me : M V}, Gd g → EnvOk g W ev env →
    (∀ C fr ps W', Ext W W' → EnvOk (gc g C fr ps) W' (compEnv ev sc) (compEnvC sc [] C env) → Sim (gc g C fr ps) W' (eval elt (compEnvC sc [] C env)) me VR) →
    Sim g W (eval (.ListComp elt gens sc p) env) (denComp g.c.P (phi g.c.P g.d) ev sc me gens) VR
  | [], _, _, _, _, _, _, _, _, D, O, h => Sim.fail
  | ⟨t, it, ifs, a⟩ :: r, g, W, ev, env, elt, sc, p, me, D, O, h => by
    refine Sim.ite fun hc => ?_
    rw [Bool.and_eq_true, Bool.and_eq_true, Bool.and_eq_true, Bool.and_eq_true] at hc
    obtain ⟨⟨⟨⟨h1, h2⟩, h3⟩, h4⟩, h5⟩ := hc
    obtain rfl : a = 0 := beq_iff_eq.mp h1
    obtain rfl := List.isEmpty_iff.mp h2
    obtain rfl := List.isEmpty_iff.mp h3
    by_cases hset : ∃ es k q, it = .Set es k q
    · obtain ⟨es, k, q, rfl⟩ := hset
      exact Sim.never fun st => rfl
    · refine E_comp (by rw [← O.hd]; simpa using h5) O (compOk_of h4) (folded_pure fun es k q e => hset ⟨es, k, q, e⟩) (snd_E it D O) h
end
end Mine
end

section
open PySem PySem.W PySem.Calls PyProof.Rows
set_option maxRecDepth 100000
set_option linter.unusedVariables false
set_option linter.unusedSimpArgs false
namespace Mine

section
variable {g : G} {W : Wd} {ev : AEnv} {env : Env}

theorem interactive_no (O : EnvOk g W ev env) : interactive env = false := by unfold interactive; rw [O.kind]; rfl
theorem swaps_none {e : Expr} {l : Nat} (h : (!isComp e) = true) (t : Option Expr) : swapsWith e t l env = pure false := by
  cases e <;> first | rfl | cases h

theorem S_expr (O : EnvOk g W ev env) {e : Expr} {p : Pos} {m : M V} (h : Sim g W (eval e env) m VR) : Sim g W (exec (.Expr e p) env) (if (!isComp e) = true then m >>= fun _ => pure .next else failM) FlowRel :=
  Sim.ite fun hc => SimT.via (T := fun A (Q : PySem.Flow → Shared → Prop) E s => wpAny (model g.c.prog g.c.w) A (eval e env) (fun _ => Q .next) E s) (fun A Q E s _ h => wpAny_Expr_any h (interactive_no O) (swaps_none hc _))
    (SimT.seq (T' := fun _ _ (Q : PySem.Flow → Shared → Prop) _ s => Q .next s) (R' := FlowRel) h.toT fun W₁ v u hx hv => SimT.ret (b := Flow.next) fun W' _ => rfl)

theorem S_return {e : Expr} {p : Pos} {m : M V} (h : Sim g W (eval e env) m VR) : Sim g W (exec (.Return (some e) p) env) (m >>= fun v => pure (.ret v)) FlowRel :=
  SimT.via (T := fun A (Q : PySem.Flow → Shared → Prop) E s => wpAny (model g.c.prog g.c.w) A (eval e env) (fun v => Q (.ret v)) E s) (fun A Q E s _ h => wpAny_Return_some h)
    (SimT.seq (T' := fun u _ (Q : PySem.Flow → Shared → Prop) _ s => Q (.ret u) s) (R' := FlowRel) h.toT fun W₁ v u hx hv => SimT.ret (b := Flow.ret v) fun W' hx' => ⟨u, rfl, hv.ext hx'⟩)

theorem S_if {t : Expr} {b o : List Stmt} {p : Pos} {mt : M Bool} {mb mo : M Flow} (ht : Sim g W (PySem.isTrue t env (eval t env)) mt (fun _ b b' => b' = b)) (hb : ∀ W', Ext W W' → Sim g W' (execs b env) mb FlowRel) (ho : ∀ W', Ext W W' → Sim g W' (execs o env) mo FlowRel) :
    Sim g W (exec (.If t b o p) env) (mt >>= fun c => if c = true then mb else mo) FlowRel := by
  rw [arm_exec_If]
  refine Sim.standAt (ht.bind fun W₁ c c' hx hc => ?_)
  subst hc
  cases c' with
  | true => exact hb W₁ hx
  | false => exact ho W₁ hx

theorem oneStr_some {args : List Expr} (h : oneStr args = true) : ∃ x k q, args = [.Constant (.str x) k q] := by
  unfold oneStr at h
  split at h
  · unfold strE at h
    split at h
    · unfold isStrC at h
      split at h
      · exact ⟨_, _, _, rfl⟩
      · cases h
    · cases h
  · cases h
theorem raiseOf_some {e : Expr} {f : Str} (h : raiseOf e = some f) : ∃ np x k q cp, e = .Call (.Name f np) [.Constant (.str x) k q] [] cp := by
  unfold raiseOf at h
  split at h
  · rename_i f args kws cp
    by_cases hc : (oneStr args && kws.isEmpty) = true
    · rw [if_pos hc] at h
      rw [Bool.and_eq_true] at hc
      obtain ⟨np, rfl⟩ := nameE_some h
      obtain ⟨x, k, q, rfl⟩ := oneStr_some hc.1
      obtain rfl := List.isEmpty_iff.mp hc.2
      exact ⟨np, x, k, q, cp, rfl⟩
    · rw [if_neg hc] at h; cases h
  · cases h

theorem S_raise (D : Gd g) (O : EnvOk g W ev env) {e c : Option Expr} {p : Pos} : Sim g W (exec (.Raise e c p) env) (raiseM ev e c) FlowRel := by
  unfold raiseM
  cases he : e.bind raiseOf with
  | none => exact Sim.fail
  | some f =>
    refine Sim.ite fun hc => ?_
    obtain ⟨h1, rfl, h3, h4⟩ := hc
    obtain rfl := Option.isNone_iff_eq_none.mp h4
    obtain ⟨e, rfl, he⟩ := Option.bind_eq_some_iff.mp he
    obtain ⟨np, x, k, q, cp, rfl⟩ := raiseOf_some he
    intro A W₁ mm st s Q E hA hx hS hP
    obtain ⟨mg, hmg, C, Bn, newE, inN, bmN, B, nid, ini, bmB, hC, Fn, hBn, FB, Ow⟩ := D.C.weight
    obtain ⟨tl, N, nm, q', bs, hdct, sn, sub, ab, col, dd, k0, k1, k2, k3, k5, mN, hCo, hN, hni, T⟩ := (Ow.keeps fun b o e => hS.inv.stays b o e).obj
    refine wpAny_Raise_call_subU (C := C) (nm := nm) (q := q') (N := N) (bs := bs) (bm := tl) (hdct := hdct) (sn := sn) (sub := sub) (ab := ab) (col := col) (dd := dd) (k0 := k0) (k1 := k1) (k2 := k2) (k3 := k3) (k5 := k5)
      Fn hBn FB (mN := mN) (T.hasType FB.hasBase) (hd_none hA (O.hd ▸ h3)) rfl hni ?_
    refine Name_function_global O.kind (glob_kind O h1) (loadGlobal_global (mg := mg) ?_ (mg_of D.C.X hmg hC) ⟨rfl, ?_⟩) (by decide)
    · rw [O.globals]; exact hmg.keeps hS.inv.stays
    · refine Calls.evalArgs_plain (Calls.spliced_cons (Constant_str (k := k) (pos := q) (Calls.spliced_nil ⟨rfl, by rw [sizeLine_eq]; show 1 ≤ _; decide, hCo, hN, T, ?_⟩)))
      intro h' e hm
      obtain ⟨t, h4, h5, h6⟩ := hm.there
      obtain ⟨u1, u2⟩ := hS.inv.unlab_none hm.new
      exact hP W₁ mm _ _ (Ext.refl _) ⟨hS.inv.grow hm.keeps, hS.next, hS.loc⟩ Same.mk' ⟨e, _, _, rfl, u1, u2, h4, ⟨C, rfl, hC⟩, rfl, rfl, .inl rfl⟩

/-! assignments -/
theorem EnvOk.fr (O : EnvOk g W ev env) {fr : Frs} : EnvOk { g with fr := fr } W ev env := ⟨O.kind, O.names, O.globals, O.builtins, O.locals, O.hd⟩

theorem sim_released {α : Type} {t : Sem α} {f : α → Sem Unit} {m : M Unit} {R : Wd → Unit → α → Prop} (h : Sim g W t m R) (hf : ∀ A Q E s a, Q () s → wpAny (model g.c.prog g.c.w) A (f a) Q E s) : Sim g W (t >>= f) m (fun _ _ _ => True) :=
  Sim.tailT h fun W₂ b _ _ _ => fun A W₃ mm st s Q E hA hx hS hP => hf _ _ _ _ _ (hP W₃ mm s _ (Ext.refl _) hS (Same.refl _) trivial)

theorem sim_assign (D : Gd g) (O : EnvOk g W ev env) {t e : Expr} {v : V} {u : Value} (hv : VRel W v u) : Sim g W (swappedStores [t] e env >>= fun sw => assignStores env u sw ((assignEach [t] env).map (·.2))) (assignV g.c.P (phi g.c.P g.d) ev t v >>= fun _ => pure .next) FlowRel := by
  have key : swappedStores [t] e env = pure none → assignAll u ((assignEach [t] env).map (·.2)) = assign t env u → Sim g W (assign t env u) (assignV g.c.P (phi g.c.P g.d) ev t v) (fun _ _ _ => True) →
      Sim g W (swappedStores [t] e env >>= fun sw => assignStores env u sw ((assignEach [t] env).map (·.2))) (assignV g.c.P (phi g.c.P g.d) ev t v >>= fun _ => pure .next) FlowRel := fun h1 h2 h3 => by
    rw [h1, pure_bind]
    show Sim g W (assignAll u ((assignEach [t] env).map (·.2)) >>= fun _ => (pure PySem.Flow.next : Sem PySem.Flow)) _ _
    rw [h2]
    exact h3.bind fun W₂ _ _ _ _ => Sim.pure fun _ _ => rfl
  cases t with
  | Name x p => exact key rfl rfl (by rw [PySem.assign_Name]; exact Sim.standAt (sim_bindName O hv))
  | Attribute o n p =>
    refine key rfl rfl ?_
    rw [arm_assign_Attribute]
    refine (Sim.holding (snd_E o D O)).bind fun W₁ ov z hx ho => Sim.standAt ?_
    rw [O.hd]
    exact sim_released (Sim.holding (sim_setAttr D.C D.F (Nat.le_trans D.k (by decide)) ho (hv.ext hx))) fun _ _ _ _ _ q => wpAny_release q
  | Subscript o i p =>
    refine key rfl rfl ?_
    rw [arm_assign_Subscript]
    refine (Sim.holding (snd_E o D O)).bind fun W₁ ov z hx ho => (Sim.holding (snd_E i D (O.ext hx))).bind fun W₂ iv y hx₂ hi => Sim.standAt ?_
    exact sim_released (Sim.holding (sim_setSub (ho.ext hx₂) hi ((hv.ext hx).ext hx₂))) fun _ _ _ _ _ q => wpAny_release q
  | _ => exact Sim.never fun st => rfl

theorem compStore (hhd : g.hd = false) (O : EnvOk g W ev env) {elt it t : Expr} {sc : Scope} {pos p0 : Pos} (K : CompOk sc) {mi : M V} {me : M V} {x : Str} {p : Pos}
    (hset : ∀ x, foldedSetIterable it env x = pure x) (hi : Sim g W (eval it env) mi VR)
    (he : ∀ C fr ps W', Ext W W' → EnvOk (gc g C fr ps) W' (compEnv ev sc) (compEnvC sc [] C env) → Sim (gc g C fr ps) W' (eval elt (compEnvC sc [] C env)) me VR) :
    Sim g W (comprehension (.ListComp elt [⟨t, it, [], 0⟩] sc pos) sc env p0 (newList []) false (eval it env) (some fun v => assignAll v ((assignEach [.Name x p] env).map (·.2)))) (mi >>= fun y => compRest (compEnv ev sc) t me y >>= fun v => storeV ev x v) (fun _ _ _ => True) := by
  refine sim_compUse hhd O K hset hi he ?_
  intro A W₁ C m' mm s Dd r st₁ Q E hA hx hS hD hP
  show wpAny _ A (assign (.Name x p) env (.ref Dd)) _ E s
  rw [PySem.assign_Name]
  have hs : Sim { g with fr := (C, m') :: g.fr } W₁ (PySem.standAt p >>= fun _ => bindName env x (.ref Dd)) (storeV ev x r) (fun _ _ _ => True) := Sim.standAt (sim_bindName (g := { g with fr := (C, m') :: g.fr }) ((O.ext hx).fr) hD)
  refine hs A W₁ mm st₁ s _ _ ⟨fun e he => ⟨(hA.fo e he).1, let ⟨L, a, b⟩ := (hA.fo e he).2; ⟨L, a, (List.mem_cons.mp b).elim (fun q => q ▸ .head _) (fun q => .tail _ (.tail _ q))⟩⟩, hA.frames, hA.hd, hA.k, hA.depth, hA.units⟩ (Ext.refl _) hS ?_
  revert hP
  cases q : storeV ev x r st₁ with
  | fail => exact id
  | exc y st₂ => exact (storeV_nox _ _ _ q).elim
  | ok b st₂ => exact fun hP W₂ mm₂ s₂ _ hx₂ hS₂ hs₂ _ => ⟨m', hS₂.inv.frs (C, m') (.tail _ (.head _)), fun h' hs' => hP (W₂.unl [C]) mm₂ _ _ (hx₂.trans (W₂.ext_unl [C])) (hS₂.dropComp hs') (hs₂.trans Same.heap) trivial⟩

/-- a comprehension laid on a local name -/
theorem S_assignComp (D : Gd g) (O : EnvOk g W ev env) {elt : Expr} {gens : List Comprehension} {sc : Scope} {cp : Pos} {x : Str} {p : Pos} :
    Sim g W (evalThenUse (.ListComp elt gens sc cp) env (fun v => assignAll v ((assignEach [.Name x p] env).map (·.2))) >>= fun _ => (pure PySem.Flow.next : Sem PySem.Flow))
      (denComp g.c.P (phi g.c.P g.d) ev sc (denE g.c.P (phi g.c.P g.d) (compEnv ev sc) elt) gens >>= fun v => storeV ev x v >>= fun _ => pure .next) FlowRel := by
  match gens with
  | [] => exact Sim.never fun st => rfl
  | ⟨t, it, ifs, a⟩ :: r =>
    rw [show denComp g.c.P (phi g.c.P g.d) ev sc (denE g.c.P (phi g.c.P g.d) (compEnv ev sc) elt) (⟨t, it, ifs, a⟩ :: r) = (if ((a == 0) && ifs.isEmpty && r.isEmpty && compOk sc && !ev.hd) = true then denE g.c.P (phi g.c.P g.d) ev it >>= fun y => compRest (compEnv ev sc) t (denE g.c.P (phi g.c.P g.d) (compEnv ev sc) elt) y else failM) from rfl]
    by_cases hc : ((a == 0) && ifs.isEmpty && r.isEmpty && compOk sc && !ev.hd) = true
    · rw [if_pos hc]
      rw [Bool.and_eq_true, Bool.and_eq_true, Bool.and_eq_true, Bool.and_eq_true] at hc
      obtain ⟨⟨⟨⟨h1, h2⟩, h3⟩, h4⟩, h5⟩ := hc
      obtain rfl : a = 0 := beq_iff_eq.mp h1
      obtain rfl := List.isEmpty_iff.mp h2
      obtain rfl := List.isEmpty_iff.mp h3
      by_cases hset : ∃ es k q, it = .Set es k q
      · obtain ⟨es, k, q, rfl⟩ := hset
        exact Sim.never fun st => rfl
      · rw [show ∀ (mi : M V) (f : V → M V), ((mi >>= f) >>= fun v => storeV ev x v >>= fun _ => pure Flow.next) = ((mi >>= fun y => f y >>= fun v => storeV ev x v) >>= fun _ => (pure Flow.next : M Flow)) from fun mi f => (bind_assoc' _ _ _).trans ((congrArg (mi >>= ·) (funext fun y => (bind_assoc' _ _ _).symm)).trans (bind_assoc' _ _ _).symm)]
        rw [show evalThenUse (.ListComp elt [⟨t, it, [], 0⟩] sc cp) env (fun v => assignAll v ((assignEach [.Name x p] env).map (·.2))) = (comprehension (.ListComp elt [⟨t, it, [], 0⟩] sc cp) sc env (firstIterPos [⟨t, it, [], 0⟩] cp) (newList []) false (eval it env) (some fun v => assignAll v ((assignEach [.Name x p] env).map (·.2))) >>= fun _ => (pure PUnit.unit : Sem PUnit)) from by rw [arm_evalThenUse_ListComp]; rfl, bind_assoc]
        refine (compStore (by rw [← O.hd]; simpa using h5) O (compOk_of h4) (folded_pure fun es k q e => hset ⟨es, k, q, e⟩) (snd_E it D O) fun C fr ps W' hx O' => snd_E elt (g := gc g C fr ps) D.gc O').bind fun W₁ _ _ _ _ => ?_
        rw [pure_bind]
        exact Sim.pure fun _ _ => rfl
    · rw [if_neg hc]; exact Sim.never fun st => rfl

theorem isComp_some {v : Expr} (h : ¬ (!isComp v) = true) : (∃ elt gens sc cp, v = .ListComp elt gens sc cp) ∨ ∀ st, denE g.c.P (phi g.c.P g.d) ev v st = .fail := by
  unfold isComp at h
  split at h
  · exact .inl ⟨_, _, _, _, rfl⟩
  · exact .inr fun _ => rfl
  · exact .inr fun _ => rfl
  · exact absurd rfl h

theorem S_assign (D : Gd g) (O : EnvOk g W ev env) {ts : List Expr} {v : Expr} {p : Pos} : Sim g W (exec (.Assign ts v p) env) (asgM g.c.P (phi g.c.P g.d) ev ts v) FlowRel := by
  match ts with
  | [] => exact Sim.fail
  | _ :: _ :: _ => exact Sim.fail
  | [t] =>
    refine Sim.ite fun hc => ?_
    rw [arm_exec_Assign]
    refine Sim.standAt ?_
    show Sim g W (swapsWith v (some t) p.line env >>= fun b => if b = true then (evalThenUse v env (fun v => assignAll v ((assignEach [t] env).map (·.2))) >>= fun _ => (pure PySem.Flow.next : Sem PySem.Flow)) else
      (eval v env >>= fun u => swappedStores [t] v env >>= fun sw => assignStores env u sw ((assignEach [t] env).map (·.2)))) _ _
    by_cases h : (!isComp v) = true
    · rw [swaps_none h, pure_bind]
      exact (snd_E v D O).bind fun W₁ x u hx hv => sim_assign D (O.ext hx) hv
    · rw [Bool.or_eq_true] at hc
      obtain ⟨x, hx⟩ := Option.isSome_iff_exists.mp (hc.resolve_left h)
      obtain ⟨q, rfl⟩ := nameE_some hx
      rcases isComp_some (g := g) (ev := ev) h with ⟨elt, gens, sc, cp, rfl⟩ | hf
      · obtain ⟨b, hb⟩ : ∃ b, swapsWith (.ListComp elt gens sc cp) (some (.Name x q)) p.line env = pure b := ⟨_, rfl⟩
        rw [hb, pure_bind]
        cases b with
        | true => exact S_assignComp D O
        | false => exact (snd_E (.ListComp elt gens sc cp) D O).bind fun W₁ x u hx hv => sim_assign D (O.ext hx) hv
      · refine Sim.never fun st => ?_
        rw [bind_run, hf]
end
end Mine
end

section
open PySem PySem.W PySem.Calls PyProof.Rows
set_option maxRecDepth 100000
set_option linter.unusedVariables false
set_option linter.unusedSimpArgs false
namespace Mine

section
variable {g : G} {W : Wd} {ev : AEnv} {env : Env}

theorem exec_For_plain {t it : Expr} {b : List Stmt} {p : Pos} (hset : ∀ x, foldedSetIterable it env x = pure x) :
    exec (.For t it b [] p) env = (standAt p >>= fun _ => eval it env >>= fun x => standAt it.pos >>= fun _ => PySem.holding [x] (pyIter x) >>= fun i => runOwn (.forLoop t i b [] env) env) := by
  rw [arm_exec_For]
  refine congrArg (standAt p >>= ·) (funext fun _ => congrArg (eval it env >>= ·) (funext fun x => ?_))
  rw [hset, pure_bind]

section
variable {z TI TO i1 i2 l1 l2 : Addr} {k : Nat} {h h' : Heap}
noncomputable def ZAt (z TI TO i1 i2 l1 l2 : Addr) (k : Nat) (h : Heap) : Prop := IsZip h z TI TO .none ∧ IsPair h TI (.ref i1) (.ref i2) ∧ (∃ a b, IsPair h TO a b) ∧ h.IsListIter i1 l1 k ∧ h.IsListIter i2 l2 k
theorem all5 {P : Addr → Prop} (h1 : P z) (h2 : P TI) (h3 : P TO) (h4 : P i1) (h5 : P i2) : ∀ a ∈ [z, TI, TO, i1, i2], P a :=
  List.forall_mem_cons.mpr ⟨h1, List.forall_mem_cons.mpr ⟨h2, List.forall_mem_cons.mpr ⟨h3, List.forall_mem_cons.mpr ⟨h4, List.forall_mem_cons.mpr ⟨h5, fun _ q => nomatch q⟩⟩⟩⟩⟩
theorem ZAt.move (hz : ZAt z TI TO i1 i2 l1 l2 k h) (hk : ∀ a ∈ [z, TI, TO, i1, i2], ∀ o, h.get? a = some o → h'.get? a = some o) : ZAt z TI TO i1 i2 l1 l2 k h' := by
  obtain ⟨h1, h2, ⟨a, b, h3⟩, ⟨o4, h4, r4⟩, ⟨o5, h5, r5⟩⟩ := hz
  exact ⟨hk _ (.head _) _ h1, hk _ (.tail _ (.head _)) _ h2, ⟨a, b, hk _ (.tail _ (.tail _ (.head _))) _ h3⟩, ⟨o4, hk _ (.tail _ (.tail _ (.tail _ (.head _)))) _ h4, r4⟩, ⟨o5, hk _ (.tail _ (.tail _ (.tail _ (.tail _ (.head _))))) _ h5, r5⟩⟩
theorem ZAt.there (hz : ZAt z TI TO i1 i2 l1 l2 k h) : ∀ a ∈ [z, TI, TO, i1, i2], ∃ o, h.get? a = some o := by
  obtain ⟨h1, h2, ⟨a, b, h3⟩, ⟨o4, h4, r4⟩, ⟨o5, h5, r5⟩⟩ := hz
  exact all5 ⟨_, h1⟩ ⟨_, h2⟩ ⟨_, h3⟩ ⟨_, h4⟩ ⟨_, h5⟩
end

theorem two_store (O : EnvOk g W ev env) {x y : Str} {px py : Pos} {v w : V} {u1 u2 : Value} (h1 : VRel W v u1) (h2 : VRel W w u2) :
    Sim g W (assignInOrder ((assignEach [.Name x px, .Name y py] env).map (·.2)) [u1, u2]) (storeV ev x v >>= fun _ => storeV ev y w) (fun _ _ _ => True) := by
  show Sim g W (PySem.holding [u2] (assign (.Name x px) env u1) >>= fun _ => PySem.holding [] (assign (.Name y py) env u2) >>= fun _ => pure ()) _ _
  rw [PySem.assign_Name, PySem.assign_Name]
  exact (Sim.holding (Sim.standAt (sim_bindName O h1))).bind fun W₁ _ _ hx _ => Sim.tailT (Sim.holding (Sim.standAt (sim_bindName (O.ext hx) (h2.ext hx)))) fun _ _ _ _ _ => Sim.pure fun _ _ => trivial

theorem head_zip (hhd : g.hd = false) (O : EnvOk g W ev env) {i j : Nat} {x y : Str} {px py pt : Pos} {kt : Nat} {z TI TO i1 i2 : Addr} (hi : i < W.n) (hj : j < W.n) (Z : ZipApart z TI TO i1 i2 (W.ρ i) (W.ρ j)) :
    Head g W (.Tuple [.Name x px, .Name y py] kt pt) (.ref z) env [z, TI, TO, i1, i2] (ZAt z TI TO i1 i2 (W.ρ i) (W.ρ j)) (nextZ ev i j x y) where
  there := fun k h q => q.there
  frame := fun k h h' q hk => q.move fun a ha o e => (hk a ha).trans e
  noexc := fun k => NoX.get.bind fun xs => NoX.get.bind fun ys => by
    cases xs[k]? with
    | none => exact NoX.ite NoX.pure NoX.fail
    | some v =>
      cases ys[k]? with
      | none => exact NoX.fail
      | some w => exact (storeV_nox.bind fun _ => storeV_nox).bind fun _ => NoX.pure
  step := by
    intro k A W' mm st s Pt Pf E hA hx hS hl hne hAt hN
    replace hN := npost_get hN; obtain ⟨xs, ho, hN⟩ := hN
    replace hN := npost_get hN; obtain ⟨ys, ho', hN⟩ := hN
    obtain ⟨vs, hL1, hr1⟩ := hS.list ho
    obtain ⟨us, hL2, hr2⟩ := hS.list ho'
    rw [hx.eq i hi] at hL1
    rw [hx.eq j hj] at hL2
    obtain ⟨h1, h2, ⟨a, b, h3⟩, h4, h5⟩ := hAt
    cases hxk : xs[k]? with
    | none =>
      rw [hxk] at hN
      cases hyk : ys[k]? with
      | some _ => rw [hyk] at hN; exact hN.elim
      | none =>
        rw [hyk] at hN
        refine wpAny_pyNext_zip_end (hd_none hA hhd) Z h1 h2 h3 h4 h5 hL1 hL2 (.inl (by simpa using hr1.none hxk)) fun h' hk => ?_
        exact hN (W'.unl [z, TI, TO, i1, i2]) mm _ (W'.ext_unl _) ⟨hS.inv.dropPins hl hne fun c o hc e => hk c o (fun q => hc (q ▸ .head _)) (fun q => hc (q ▸ .tail _ (.tail _ (.head _)))) (fun q => hc (q ▸ .tail _ (.tail _ (.tail _ (.head _))))) (fun q => hc (q ▸ .tail _ (.tail _ (.tail _ (.tail _ (.head _)))))) e, hS.next, hS.loc.ext (W'.ext_unl _)⟩ Same.heap
    | some v =>
      rw [hxk] at hN
      cases hyk : ys[k]? with
      | none => rw [hyk] at hN; exact hN.elim
      | some w =>
        rw [hyk] at hN
        obtain ⟨u1, hu1, hv1⟩ := hr1.get hxk
        obtain ⟨u2, hu2, hv2⟩ := hr2.get hyk
        refine wpAny_pyNext_zip_item Z h1 h2 h3 h4 h5 hL1 hL2 (x := u1) (y := u2) (by simpa using hu1) (by simpa using hu2) fun h' a1 a2 a3 a4 a5 a6 a7 => ?_
        refine wpAny_letOwnedTupleGo_zip a1 fun h'' b1 b2 => ?_
        have keep : ∀ c o, c ∉ [z, TI, TO, i1, i2] → s.heap.get? c = some o → h''.get? c = some o := fun c o hc e =>
          (b2.2 c (fun q => hc (q ▸ .head _))).trans (a7 c o (fun q => hc (q ▸ .head _)) (fun q => hc (q ▸ .tail _ (.tail _ (.head _)))) (fun q => hc (q ▸ .tail _ (.tail _ (.tail _ (.head _))))) (fun q => hc (q ▸ .tail _ (.tail _ (.tail _ (.tail _ (.head _)))))) e)
        have hAt : ZAt z TI TO i1 i2 (W.ρ i) (W.ρ j) (k + 1) h'' := by
          obtain ⟨o3, q3, r3⟩ := a3
          obtain ⟨o4, q4, r4⟩ := a4
          exact ⟨b1, (b2.2 TI Z.TIz).trans (a7 TI _ Z.TIz Z.TITO Z.TIi1 Z.TIi2 h2), ⟨_, _, (b2.2 TO Z.TOz).trans a2⟩, ⟨o3, (b2.2 i1 Z.i1z).trans q3, r3⟩, ⟨o4, (b2.2 i2 Z.i2z).trans q4, r4⟩⟩
        have hS₁ : St g W' mm st { s with heap := h'' } := ⟨hS.inv.setPins hl hne keep hAt.there, hS.next, hS.loc⟩
        have hTu := (b2.2 _ (Nat.ne_of_gt (Heap.lt_size h1))).trans a5
        refine wpAny_assign_Tuple (items := #[u1, u2]) (hd_none hA hhd) ⟨_, hTu, rfl, 0, rfl⟩ rfl rfl fun h₃ he₃ => ?_
        have kp : ∀ c o, h''.get? c = some o → h₃.get? c = some o := fun c o e => he₃ c o (Nat.ne_of_lt (Heap.lt_size e)) e
        have hS₂ : St g W' mm st { s with heap := h₃ } := ⟨hS₁.inv.grow kp, hS.next, hS.loc⟩
        replace hAt := hAt.move fun a _ => kp a
        refine two_store (O.ext hx).pin hv1 hv2 A W' mm st _ _ _ (hA.pin (ps := pinsAt [z, TI, TO, i1, i2] h₃)) (Ext.refl _) (hS₂.pinUp hl) (npost_store (storeV_nox.bind fun _ => storeV_nox) (hN.move (Ext.refl _) Same.heap) fun st' W'' mm' s' hx' hS' hs' hN => ?_)
        obtain ⟨hkeep, hl'⟩ := hS'.pinned hAt.there
        exact hN W'' mm' s' (Ext.refl _) hl' hS'.pinDown (Same.refl _) (hAt.move fun a ha o e => (hkeep a ha).trans e)

theorem S_zip (hhd : g.hd = false) (D : Gd g) (T : EnvTop g env) (O : EnvOk g W ev env) {x y : Str} {np cp px py pt p : Pos} {kt : Nat} {e1 e2 : Expr} {b : List Stmt} {m1 m2 : M V} {mb : M Flow} (hg : isGlobal ev ("zip" : Str) = true) (hs : starred e1 = false ∧ starred e2 = false)
    (h1 : ∀ W', Ext W W' → Sim g W' (eval e1 env) m1 VR) (h2 : ∀ W', Ext W W' → Sim g W' (eval e2 env) m2 VR) (hb : ∀ ps W', Ext W W' → Sim (g.pin ps) W' (execs b env) mb FlowRel) :
    Sim g W (exec (.For (.Tuple [.Name x px, .Name y py] kt pt) (.Call (.Name "zip" np) [e1, e2] [] cp) b [] p) env) (zipM ev x y mb m1 m2) FlowRel := by
  rw [exec_For_plain fun _ => rfl]
  refine Sim.standAt ?_
  have e0 : zipM ev x y mb m1 m2 = (pure () >>= fun _ => zipM ev x y mb m1 m2 : M Flow) := by funext st; rfl
  rw [e0]
  show Sim g W ((eval (.Name "zip" np) env >>= fun fv => callWith cp fv [] (backTo cp (starEach [e1, e2] env)) (backToKw cp (keywordEach [] env))) >>= fun x' => standAt cp >>= fun _ => PySem.holding [x'] (pyIter x') >>= fun i => runOwn (.forLoop (.Tuple [.Name x px, .Name y py] kt pt) i b [] env) env) _ _
  rw [bind_assoc]
  refine (sim_boot D.C O hg (D.C.frees "zip" (by simp)) boot_zip (by decide) (by decide)).bind fun W₀ _ fv hx0 hfv => ?_
  subst hfv
  rw [starEach_plain [e1, e2] (by rw [List.all_cons, List.all_cons, hs.1, hs.2]; rfl)]
  refine SimT.via (T := fun A (Q : PySem.Flow → Shared → Prop) E s => wpAny (model g.c.prog g.c.w) A (eval e1 env) (fun u s₁ => wpAny (model g.c.prog g.c.w) A (eval e2 env) (fun z s₂ => wpAny (model g.c.prog g.c.w) A (call (.type "zip") [u, z]) (fun q s₃ => wpAny (model g.c.prog g.c.w) A (PySem.holding [q] (pyIter q) >>= fun i => runOwn (.forLoop (.Tuple [.Name x px, .Name y py] kt pt) i b [] env) env) Q E s₃) E s₂) E s₁) E s) ?_ ?_
  · intro A Q E s hA h
    refine wpAny_bind (callWith_of (P := fun _ => True) rfl (fun h _ => keeps_type h) ?_)
    refine evalArgs_kw rfl ?_
    show wpAny _ A (eval e1 env >>= fun v => (pure [v] : Sem (List Value)) >>= fun here => PySem.holding here (eval e2 env >>= fun v => (pure [v] : Sem (List Value)) >>= fun here => PySem.holding here (pure []) >>= fun r => pure (here ++ r)) >>= fun r => pure (here ++ r)) _ E s
    refine wpAny_bind (wpAny_mono h (fun v s₁ h₁ => wpAny_bind (wpAny_pure (wpAny_bind (wpAny_holding (wpAny_bind (wpAny_mono h₁ (fun z s₂ h₂ => ?_) fun _ _ x => x)))))) fun _ _ x => x)
    refine wpAny_bind (wpAny_pure (wpAny_bind (wpAny_holding (wpAny_pure (wpAny_pure (wpAny_pure (wpAny_pure ⟨trivial, ?_⟩)))))))
    exact wpAny_mono h₂ (fun q s₃ h₃ => wpAny_bind (wpAny_standAt h₃)) fun _ _ x => x
  · refine SimT.seq (h1 W₀ hx0).toT fun W₁ a u hx ha => SimT.seq (h2 W₁ (hx0.trans hx)).toT fun W₂ c v hx₂ hc => ?_
    intro A W₃ mm st s Q E hA hx₃ hS hP
    replace hP := Post.get hP; obtain ⟨i, hi, hP⟩ := hP
    replace hP := Post.get hP; obtain ⟨j, hj, hP⟩ := hP
    replace hP := Post.get hP; obtain ⟨xs, ho, hP⟩ := hP
    replace hP := Post.get hP; obtain ⟨ys, ho', hP⟩ := hP
    obtain rfl := refOf_some hi
    obtain rfl := refOf_some hj
    obtain ⟨hi, rfl⟩ := (ha.ext hx₂).ext hx₃
    obtain ⟨hj, rfl⟩ := hc.ext hx₃
    obtain ⟨vs, hL1, hr1⟩ := hS.list ho
    obtain ⟨us, hL2, hr2⟩ := hS.list ho'
    refine call_zip_2 hL1 hL2 fun h' a1 a2 a3 a4 a5 a6 a7 => ?_
    refine wpAny_bind (wpAny_holding (wpAny_pyIter_zip a1 ?_))
    obtain ⟨oi, hgi, _⟩ := hL1
    obtain ⟨oj, hgj, _⟩ := hL2
    have hxx := ((hx0.trans hx).trans hx₂).trans (hx₃.trans (W₃.ext_lbl [s.heap.objs.size + 4, s.heap.objs.size + 2, s.heap.objs.size + 3, s.heap.objs.size, s.heap.objs.size + 1]))
    exact sim_forOwn T (head_zip hhd (O.ext hxx) hi hj (zipApart_new (Heap.lt_size hgi) (Heap.lt_size hgj))) (fun ps => hb ps _ hxx) hA hS a7 (all5 (Nat.le_add_right _ _) (Nat.le_add_right _ _) (Nat.le_add_right _ _) (Nat.le_refl _) (Nat.le_add_right _ _)) ⟨a1, a2, ⟨_, _, a3⟩, a4, a5⟩ hP

theorem call2_some {it e1 e2 : Expr} {f : Str} (h : call2 it = some (f, e1, e2)) : ∃ np cp, it = .Call (.Name f np) [e1, e2] [] cp := by
  unfold call2 at h
  split at h
  · split at h
    · split at h
      · rename_i hk
        obtain rfl := List.isEmpty_iff.mp hk
        obtain ⟨n, hn, e⟩ := Option.map_eq_some_iff.mp h
        cases e
        obtain ⟨np, rfl⟩ := nameE_some hn
        exact ⟨np, _, rfl⟩
      · cases h
    · cases h
  · cases h
theorem tup2_some {t : Expr} {x y : Str} (h : tup2 t = some (x, y)) : ∃ px py k p, t = .Tuple [.Name x px, .Name y py] k p := by
  unfold tup2 at h
  split at h
  · split at h
    · split at h
      · split at h
        · cases h
          rename_i h1 h2
          obtain ⟨px, rfl⟩ := nameE_some h1
          obtain ⟨py, rfl⟩ := nameE_some h2
          exact ⟨px, py, _, _, rfl⟩
        · cases h
      · cases h
    · cases h
  · cases h

theorem S_for (hhd : g.hd = false) (D : Gd g) (T : EnvTop g env) (O : EnvOk g W ev env) {t it : Expr} {b : List Stmt} {p : Pos} {mb : M Flow} (hb : ∀ ps W', Ext W W' → Sim (g.pin ps) W' (execs b env) mb FlowRel) :
    Sim g W (exec (.For t it b [] p) env) (denFor g.c.P (phi g.c.P g.d) ev t it mb) FlowRel := by
  have gen : Sim g W (exec (.For t it b [] p) env) (forM ev t (denE g.c.P (phi g.c.P g.d) ev it) mb) FlowRel := by
    by_cases hset : ∃ es k q, it = .Set es k q
    · obtain ⟨es, k, q, rfl⟩ := hset
      exact Sim.never fun st => rfl
    · rw [exec_For_plain (folded_pure fun es k q e => hset ⟨es, k, q, e⟩)]
      exact Sim.standAt ((snd_E it D O).bind fun W₁ v u hx hv => Sim.standAt (sim_forVal hhd T (O.ext hx) (fun ps W' hx' => hb ps W' (hx.trans hx')) hv))
  unfold denFor
  cases hc : call2 it with
  | none => exact gen
  | some q =>
    obtain ⟨f, e1, e2⟩ := q
    dsimp only
    by_cases h : isGlobal ev f = true ∧ f = ("zip" : Str)
    · rw [if_pos h]
      cases ht : tup2 t with
      | none => exact Sim.fail
      | some xy =>
        obtain ⟨x, y⟩ := xy
        refine Sim.ite fun hs => ?_
        obtain ⟨hg, rfl⟩ := h
        obtain ⟨np, cp, rfl⟩ := call2_some hc
        obtain ⟨px, py, k, q, rfl⟩ := tup2_some ht
        exact S_zip hhd D T O hg hs (fun W' hx => snd_E e1 D (O.ext hx)) (fun W' hx => snd_E e2 D (O.ext hx)) hb
    · rw [if_neg h]; exact gen
end
end Mine
end

section
open PySem PySem.W PySem.Calls PyProof.Rows
set_option maxRecDepth 100000
set_option linter.unusedVariables false
set_option linter.unusedSimpArgs false
namespace Mine

section
variable {g : G} {W : Wd} {ev : AEnv} {env : Env}

/-- the ground inside of a handler -/
noncomputable def gh (g : G) (ps : List (Addr × Obj)) : G := { g with hd := true, pins := ps ++ g.pins }
theorem EnvOk.gh (O : EnvOk g W ev env) {ps : List (Addr × Obj)} : EnvOk (gh g ps) W (withHd ev true) env := ⟨O.kind, O.names, O.globals, O.builtins, O.locals, rfl⟩
theorem Gd.gh (D : Gd g) {ps : List (Addr × Obj)} : Gd (gh g ps) := ⟨D.C, D.F, D.k⟩
theorem EnvTop.gh (T : EnvTop g env) {ps : List (Addr × Obj)} : EnvTop (gh g ps) env := ⟨T.fo, T.top⟩
theorem St.ghDown {ps : List (Addr × Obj)} {mm : Str → Option Value} {st : S} {s : Shared} (h : St (Mine.gh g ps) W mm st s) : St g W mm st s := ⟨Inv.pinDown h.inv, h.next, h.loc⟩

theorem handles_some {t : Option Expr} (h : handles ev t = true) : isGlobal ev ("BadWeightError" : Str) = true ∧ ∃ np, t = some (.Name "BadWeightError" np) := by
  unfold handles at h
  cases q : t.bind nameE with
  | none => rw [q] at h; cases h
  | some n =>
    rw [q] at h
    obtain ⟨h1, h2⟩ := Bool.and_eq_true_iff.mp h
    obtain rfl := beq_iff_eq.mp h2
    obtain ⟨e, rfl, he⟩ := Option.bind_eq_some_iff.mp q
    obtain ⟨np, rfl⟩ := nameE_some he
    exact ⟨h1, np, rfl⟩

/-- the clause of a BadWeightError, at the exception that flies -/
theorem H_clause (D : Gd g) (O : EnvOk g W ev env) {np pos : Pos} {b : Stmt} {bs : List Stmt} {rest : List ExceptHandler} (hg : isGlobal ev ("BadWeightError" : Str) = true)
    {e : Value} {A : Around} {W₁ : Wd} {mm : Str → Option Value} {st : S} {s : Shared} {Q : PySem.Flow → Shared → Prop} {E : Value → Shared → Prop} (hS : St g W₁ mm st s) (ht : ThrownT g.c W₁ s.heap e)
    (hit : ∀ s', St g W₁ mm st s' → Same s s' → ThrownT g.c W₁ s'.heap e → wpAny (model g.c.prog g.c.w) (A.mark (some e)) (execs (b :: bs) env) Q (notedBy (model g.c.prog g.c.w) (A.mark (some e)) env (cameBackBy (model g.c.prog g.c.w) A env E)) s') :
    wpAny (model g.c.prog g.c.w) A (handleBy e env (.ExceptHandler (some (.Name "BadWeightError" np)) none (b :: bs) pos :: rest)) Q E s := by
  have ht' := ht
  obtain ⟨a, oe, vs, Tb, oT, ts, rfl, h1, h2, h3, ⟨C', hcl, hC'⟩, _⟩ := ht
  refine wpAny_handleBy_cons (codeAny_handlers_test ?_) (by intro q; cases q)
  obtain ⟨mg, hmg, C, Bn, newE, inN, bmN, B, nid, ini, bmB, hC, Fn, hBn, FB, Ow⟩ := D.C.weight
  obtain ⟨tl, N, nm, q', bs', hdct, sn, sub, ab, col, dd, kk0, kk1, kk2, kk3, kk5, mN, hCo, hN, hni, T⟩ := (Ow.keeps fun b o e => hS.inv.stays b o e).obj
  obtain rfl : C' = C := by rw [hC] at hC'; cases hC'; rfl
  refine Name_function_global O.kind (glob_kind O hg) (loadGlobal_global (mg := mg) ?_ (mg_of D.C.X hmg hC) ?_) (by decide)
  · rw [O.globals]; exact hmg.keeps hS.inv.stays
  · exact wpAny_excMatches_sub_self (h := s.heap) (g := s.gens) (d := s.drawn) (t := s.toks) (os := s.os) hCo h3 hcl (T.hasType FB.hasBase) (codeAny_handlers_suite (sim_flight hS ht' fun s' hS' hs' ht'' => hit s' hS' hs' ht''))

theorem S_try (D : Gd g) (T : EnvTop g env) (O : EnvOk g W ev env) {b hb : List Stmt} {t : Option Expr} {n : Option Str} {hp : Pos} {hs : List ExceptHandler} {p : Pos} {mb mh : M Flow} (h1 : Sim g W (execs b env) mb FlowRel)
    (h2 : ∀ ps W', Ext W W' → Sim (gh g ps) W' (execs hb env) mh FlowRel) :
    Sim g W (exec (.Try b (.ExceptHandler t n hb hp :: hs) [] [] p) env) (tryM mb (if (n.isNone && handles ev t && !hb.isEmpty) = true then mh else failM)) FlowRel := by
  intro A W₁ mm st s Q E hA hx hS hP
  refine wpAny_Try_except (h1 A W₁ mm st s _ _ hA hx hS ?_)
  unfold tryM at hP
  revert hP
  cases mb st with
  | fail => exact id
  | ok f st' =>
    intro hP W' mm' s' f' hx' hS' hs' hf
    have := hP W' mm' s' f' hx' hS' hs' hf
    cases f with
    | next => obtain rfl : f' = .next := hf; exact wpAny_execs_nil this
    | brk => obtain rfl : f' = .brk := hf; exact this
    | cont => obtain rfl : f' = .cont := hf; exact this
    | ret v => obtain ⟨u, rfl, hv⟩ := hf; exact this
  | exc x st' =>
    intro hP W' mm' s' e hx' hS' hs' ht
    replace hP := Post.ite hP; obtain ⟨hc, hP⟩ := hP
    rw [Bool.and_eq_true, Bool.and_eq_true] at hc
    obtain ⟨⟨c1, c2⟩, c3⟩ := hc
    obtain rfl := Option.isNone_iff_eq_none.mp c1
    obtain ⟨hg, np, rfl⟩ := handles_some c2
    cases hb with
    | nil => cases c3
    | cons b0 bs =>
      obtain ⟨rest, L, q1, q2⟩ := T.top
      refine sim_noteFrame hA.frames T.fo q1 q2 hS' ht fun s₂ hS₂ hs₂ ht₂ => sim_flight hS₂ ht₂ fun s₃ hS₃ hs₃ ht₃ => ?_
      refine H_clause D (O.ext (hx.trans hx')) hg hS₃ ht₃ fun s₁ hS₁ hs₁ ht₁ => ?_
      obtain ⟨a, oe, vs, Tb, oT, ts, rfl, t1, t2, t3, t4, t5, t6, _⟩ := ht₁
      have one : ∀ {P : Addr → Prop}, P a → ∀ q ∈ [a], P q := fun h q hq => by rw [List.mem_singleton.mp hq]; exact h
      have hS₂ := (hS₁.lbl (Is := [a]) (one t1) (one t2) (one ⟨_, t3⟩)).pinUp (Is := [a]) fun q hq => lbl_in hq
      have hx₂ := W'.ext_lbl [a]
      have hss := ((hs'.trans hs₂).trans hs₃).trans hs₁
      have hS₃ : St (gh g (pinsAt [a] s₁.heap)) (W'.lbl [a]) mm' st' s₁ := ⟨hS₂.inv, hS₂.next, hS₂.loc⟩
      have hAh : AOk (gh g (pinsAt [a] s₁.heap)) (A.mark (some (.ref a))) := ⟨hA.fo, hA.frames, .inr ⟨rfl, a, oe, vs, rfl, List.mem_append_left _ (pinsAt_mem (.head _) t3), t5, t6, (Array.getElem?_eq_some_iff.mp t6).1⟩, hA.k, hA.depth, hA.units⟩
      refine h2 _ (W'.lbl [a]) ((hx.trans hx').trans hx₂) _ (W'.lbl [a]) mm' st' s₁ _ _ hAh (Ext.refl _) hS₃ ?_
      replace hP := hP.move (hx'.trans hx₂) hss
      revert hP
      cases mh st' with
      | fail => exact id
      | ok f st₄ => exact fun hP W₄ mm₄ s₄ f' hx₄ hS₄ hs₄ hf => hP W₄ mm₄ s₄ f' hx₄ hS₄.ghDown hs₄ hf
      | exc y st₄ => exact fun hP W₄ mm₄ s₄ e' hx₄ hS₄ hs₄ ht₄ => T.gh.noted hAh hS₄ ht₄ fun s₅ hS₅ hs₅ ht₅ => sim_cameBack (g := gh g (pinsAt [a] s₁.heap)) hS₅ ht₅ fun s₆ hS₆ hs₆ ht₆ => hP W₄ mm₄ s₆ e' hx₄ hS₆.ghDown ((hs₄.trans hs₅).trans hs₆) ht₆.thrown
end

mutual
theorem snd_S : ∀ (s : Stmt) {g : G} {W : Wd} {ev : AEnv} {env : Env}, Gd g → EnvTop g env → EnvOk g W ev env → Sim g W (exec s env) (denS g.c.P (phi g.c.P g.d) ev s) FlowRel
  | .Expr e p, _, _, _, _, D, T, O => S_expr O (snd_E e D O)
  | .Return e p, _, _, _, _, D, T, O => match e with
    | none => Sim.fail
    | some e => S_return (snd_E e D O)
  | .Assign ts v p, _, _, _, _, D, T, O => S_assign D O
  | .If t b o p, _, _, _, _, D, T, O => S_if (snd_T t D O (snd_E t D O)) (fun W' hx => snd_Ss b D T (O.ext hx)) (fun W' hx => snd_Ss o D T (O.ext hx))
  | .While t b o p, _, _, _, _, D, T, O => Sim.ite fun h => by
    obtain rfl := List.isEmpty_iff.mp h
    exact sim_while T (snd_T t D O (snd_E t D O))
  | .For t it b o p, g, W, ev, env, D, T, O => Sim.ite fun h => by
    obtain ⟨h1, h2⟩ := Bool.and_eq_true_iff.mp h
    obtain rfl := List.isEmpty_iff.mp h1
    exact S_for (by rw [← O.hd]; simpa using h2) D T O fun ps W' hx => snd_Ss b (D.pin (ps := ps)) T.pin (O.ext hx).pin
  | .Raise e c p, _, _, _, _, D, T, O => S_raise D O
  | .Try b hs o f p, g, W, ev, env, D, T, O => Sim.ite fun h => by
    rw [Bool.and_eq_true, Bool.and_eq_true, Bool.and_eq_true] at h
    obtain ⟨⟨⟨h1, h2⟩, h3⟩, h4⟩ := h
    obtain rfl := List.isEmpty_iff.mp h1
    obtain rfl := List.isEmpty_iff.mp h2
    exact snd_Try hs (snd_Ss b D T O) h4 D T O
  | .Pass .., _, _, _, _, _, _, _ => Sim.fail
  | .Continue .., _, _, _, _, _, _, _ => Sim.fail
  | .AugAssign .., _, _, _, _, _, _, _ => Sim.fail
  | .Assert .., _, _, _, _, _, _, _ => Sim.fail
  | .FunctionDef .., _, _, _, _, _, _, _ => Sim.fail
  | .AsyncFunctionDef .., _, _, _, _, _, _, _ => Sim.fail
  | .ClassDef .., _, _, _, _, _, _, _ => Sim.fail
  | .Delete .., _, _, _, _, _, _, _ => Sim.fail
  | .TypeAlias .., _, _, _, _, _, _, _ => Sim.fail
  | .AnnAssign .., _, _, _, _, _, _, _ => Sim.fail
  | .AsyncFor .., _, _, _, _, _, _, _ => Sim.fail
  | .With .., _, _, _, _, _, _, _ => Sim.fail
  | .AsyncWith .., _, _, _, _, _, _, _ => Sim.fail
  | .Match .., _, _, _, _, _, _, _ => Sim.fail
  | .TryStar .., _, _, _, _, _, _, _ => Sim.fail
  | .Import .., _, _, _, _, _, _, _ => Sim.fail
  | .ImportFrom .., _, _, _, _, _, _, _ => Sim.fail
  | .Global .., _, _, _, _, _, _, _ => Sim.fail
  | .Nonlocal .., _, _, _, _, _, _, _ => Sim.fail
  | .Break .., _, _, _, _, _, _, _ => Sim.fail

theorem snd_Ss : ∀ (ss : List Stmt) {g : G} {W : Wd} {ev : AEnv} {env : Env}, Gd g → EnvTop g env → EnvOk g W ev env → Sim g W (execs ss env) (denSs g.c.P (phi g.c.P g.d) ev ss) FlowRel
  | [], _, _, _, _, D, T, O => Sim.pure fun _ _ => rfl
  | s :: r, _, _, _, _, D, T, O => by
    rw [arm_execs_cons]
    refine (snd_S s D T O).bind fun W₁ f f' hx hf => ?_
    cases f with
    | next => obtain rfl : f' = .next := hf; exact snd_Ss r D T (O.ext hx)
    | brk => obtain rfl : f' = .brk := hf; exact Sim.pure fun _ _ => rfl
    | cont => obtain rfl : f' = .cont := hf; exact Sim.pure fun _ _ => rfl
    | ret v => obtain ⟨u, rfl, hv⟩ := hf; exact Sim.pure fun _ hx' => ⟨u, rfl, hv.ext hx'⟩

theorem snd_Try : ∀ (hs : List ExceptHandler) {g : G} {W : Wd} {ev : AEnv} {env : Env} {b : List Stmt} {p : Pos} {mb : M Flow}, Sim g W (execs b env) mb FlowRel → (!hs.isEmpty) = true → Gd g → EnvTop g env → EnvOk g W ev env →
    Sim g W (exec (.Try b hs [] [] p) env) (tryM mb (denHs g.c.P (phi g.c.P g.d) ev hs)) FlowRel
  | [], _, _, _, _, _, _, _, _, h, _, _, _ => nomatch h
  | .ExceptHandler t n b p :: r, g, W, ev, env, _, _, _, h1, h, D, T, O => S_try D T O h1 fun ps W' hx => snd_Ss b (g := gh g ps) D.gh T.gh (O.ext hx).gh
end
end Mine
end

section
open PySem PySem.W PySem.Calls PyProof.Rows
set_option maxRecDepth 100000
set_option linter.unusedVariables false
set_option linter.unusedSimpArgs false
namespace Mine

theorem lookup_rev {α : Type} {x : Str} : ∀ {l : List (Str × α)}, (l.map (·.1)).Nodup → l.reverse.lookup x = l.lookup x
  | [], _ => rfl
  | (y, v) :: r, h => by
    rw [List.map_cons, List.nodup_cons] at h
    rw [List.reverse_cons, List.lookup_append, lookup_rev h.2, List.lookup_cons, List.lookup_cons]
    cases q : x == y with
    | false => cases r.lookup x <;> rfl
    | true =>
      rw [beq_iff_eq] at q
      subst q
      cases e : r.lookup x with
      | none => rfl
      | some u => exact absurd (List.mem_map.mpr ⟨_, mem_of_lookup e, rfl⟩) h.1
theorem zip_lookup {W : Wd} {x : Str} : ∀ {ps : List Str} {vs : List V} {us : List Value} {v : V}, VsRel W vs us → (ps.zip vs).lookup x = some v → ∃ u, (ps.zip us).lookup x = some u ∧ VRel W v u
  | [], _, _, _, _, h => by cases h
  | _ :: _, [], [], _, _, h => by cases h
  | p :: ps, w :: vs, z :: us, v, hr, h => by
    rw [List.zip_cons_cons, List.lookup_cons] at h ⊢
    cases q : x == p with
    | true => rw [q] at h; cases h; exact ⟨z, rfl, hr.1⟩
    | false => rw [q] at h; exact zip_lookup hr.2 h
  | _ :: _, [], _ :: _, _, h, _ => h.elim
  | _ :: _, _ :: _, [], _, h, _ => h.elim
theorem zip_keys {α : Type} : ∀ (ps : List Str) (us : List α), ((ps.zip us).map (·.1)).Sublist ps
  | [], _ => .slnil
  | p :: ps, [] => List.nil_sublist _
  | p :: ps, u :: us => (zip_keys ps us).cons_cons p

theorem fnSim_zero (c : Cx) : FnSim c 0 := by
  intro f code fa g W vs us hc hfn hgc hgd hv A W₁ mm st s Rr hA hx hS hP
  have : callF c.P (phi c.P 0) g.hd f vs [] st = .fail := by
    unfold callF
    rw [hc]
    dsimp only
    cases bindV code vs [] with
    | none => rfl
    | some _ => rfl
  rw [this] at hP
  exact hP.elim

noncomputable def backR : PySem.Flow → Value
  | .ret v => v
  | _ => .none
theorem back_flow {W : Wd} {f : Flow} {f' : PySem.Flow} (h : FlowRel W f f') : VRel W (backV f) (backR f') := by
  cases f with
  | next => obtain rfl : f' = .next := h; rfl
  | brk => obtain rfl : f' = .brk := h; rfl
  | cont => obtain rfl : f' = .cont := h; rfl
  | ret v => obtain ⟨u, rfl, hv⟩ := h; exact hv

/-- the ground of a callee -/
noncomputable def gcall (g : G) (d : Nat) (env : Env) (L : Addr) (mm : Str → Option Value) : G := { c := g.c, d, k := 0, hd := g.hd, pins := g.pins, fenvs := env :: g.fenvs, L, fr := (g.L, mm) :: g.fr }

theorem call_around {g : G} {A : Around} {d : Nat} {env : Env} {L : Addr} {mm : Str → Option Value} (hA : AOk g A) (hgd : g.d = d + 1) (hk : env.scope.kind ≠ .module) (hf : env.frame = some L) : AOk (gcall g d env L mm) (A.deeper env) where
  fo := fun e he => by
    rcases List.mem_cons.mp he with rfl | he
    · exact ⟨hk, L, hf, .head _⟩
    · obtain ⟨a, L', b, q⟩ := hA.fo e he
      exact ⟨a, L', b, .tail _ q⟩
  frames := Around.frames_deeper hA.frames
  hd := hA.hd
  k := Nat.zero_le _
  depth := by
    have h1 := hA.depth
    have h2 := hA.k
    rw [hgd] at h1
    rw [depth_deeper]
    show A.depth + 1 + 8 * d ≤ 980 + 0
    omega
  units := by
    have h1 := hA.units
    have h2 := hA.k
    rw [hgd] at h1
    rw [units_deeper]
    show A.units + 3 + 60 * d ≤ 9800 + 0
    omega

theorem fnSim_succ {c : Cx} {d : Nat} (C : CxOk c) (F : FnSim c d) : FnSim c (d + 1) := by
  intro f code fa g W vs us hc hfn hgc hgd hv A W₁ mm st s Rr hA hx hS hP
  subst hgc
  obtain ⟨oc, od, osl, name, qual, params, dV, kV, doc, pm, an, cdv, ct, dvs, hK, hcd, hdef, hbind⟩ := hfn.fn
  unfold callF at hP
  rw [hc] at hP
  dsimp only at hP
  cases hbv : bindV code vs [] with
  | none => rw [hbv] at hP; exact hP.elim
  | some ws =>
    rw [hbv] at hP
    dsimp only [phi] at hP
    rw [hc] at hP
    dsimp only at hP
    obtain ⟨zs, hbz, hrel⟩ := bind_rel (hdef W) hv hbv
    unfold bodyM at hP
    by_cases hlen : ws.length = code.params.length ∧ noCell code.scope = true
    case neg => rw [if_neg hlen] at hP; exact hP.elim
    rw [if_pos hlen] at hP
    have hcell : ∀ x ∈ code.scope.names, x.2 ≠ .cell := fun x hx' => bne_iff_ne.mp (List.all_eq_true.mp hlen.2 x hx')
    have hloc : ∀ x ∈ code.params.zip zs, code.scope.names.lookup x.1 = some .local := fun x hx' =>
      (hfn.par x.1 (List.of_mem_zip hx').1).resolve_right fun h => hcell _ (mem_of_lookup h) rfl
    have X := in_base C hS
    have nd : ((code.params.zip zs).map (·.1)).Nodup := (zip_keys code.params zs).nodup hfn.nodup
    refine codeAny_call_def (fd := fnOf name qual params code.body code.scope dV kV doc pm an cdv ct) (body := code.body) (binds := code.params.zip zs) hA.depthLt (X _ _ hK) rfl (C.lim.keeps hS.inv.stays) (codeRec_of X hcd) rfl (hbind s us zs X hbz) hcell hloc (fun h₀ hns hk₀ => ?_) hfn.co hfn.gen hfn.kind
    generalize hL : s.heap.objs.size = L at hns ⊢
    generalize henv : callEnv (fnOf name qual params code.body code.scope dV kV doc pm an cdv ct) L fa = env
    have hscope : env.scope = code.scope := by rw [← henv]; rfl
    have hframe : env.frame = some L := by rw [← henv]; rfl
    have hx₁ := W₁.ext_lblF L
    have hS₁ : St (gcall g d env L mm) (W₁.lblF L) (fun x => (code.params.zip zs).reverse.lookup x) { st with loc := fun x => (code.params.zip ws).lookup x } { s with heap := h₀, toks := s.toks + (code.params.zip zs).length } :=
      ⟨(hS.inv.grow hk₀).newFrame (hS.inv.unlab_size (Nat.le_of_eq hL)) (hL ▸ hS.inv.sz) hns, hS.next, fun x v e =>
        let ⟨u, hu, hr⟩ := zip_lookup (hrel.ext (hx.trans hx₁)) e
        ⟨u, (lookup_rev nd).trans hu, hr⟩⟩
    have hA' := call_around (L := L) (mm := mm) hA hgd (hscope ▸ hfn.kind ▸ fun q => nomatch q) hframe
    have O' : EnvOk (gcall g d env L mm) (W₁.lblF L) { names := code.scope.names, hd := g.hd } env :=
      ⟨hscope ▸ hfn.kind, fun x => by rw [hscope], by rw [← henv]; rfl, by rw [← henv]; rfl, by rw [← henv]; rfl, rfl⟩
    have back : ∀ {W' mm' st' s'}, Ext (W₁.lblF L) W' → St (gcall g d env L mm) W' mm' st' s' → St g (W'.unl [L]) mm { st' with loc := st.loc } s' := fun hx' h => ⟨Inv.dropFrame h.inv, h.next, hS.loc.ext ((hx₁.trans hx').trans (Wd.ext_unl _ [L]))⟩
    refine snd_Ss (g := gcall g d env L mm) code.body ⟨C, F, Nat.zero_le _⟩ ⟨hA'.fo, g.fenvs, L, rfl, hframe⟩ O' (A.deeper env) (W₁.lblF L) _ _ _ _ _ hA' (Ext.refl _) hS₁ ?_
    show Post _ _ _ _ _ _ (denSs g.c.P (phi g.c.P d) { names := code.scope.names, hd := g.hd } code.body { st with loc := fun x => (code.params.zip ws).lookup x })
    revert hP
    cases denSs g.c.P (phi g.c.P d) { names := code.scope.names, hd := g.hd } code.body { st with loc := fun x => (code.params.zip ws).lookup x } with
    | fail => exact id
    | ok b st' =>
      intro hP W' mm' s' f' hx' hS' hs' hf
      have go : Rr (.ok (.ret (backR f'))) s' := hP (W'.unl [L]) mm s' _ ((hx₁.trans hx').trans (W'.ext_unl [L])) (back hx' hS') (Same.mk'.trans hs') ((back_flow hf).ext (W'.ext_unl [L]))
      cases f' <;> exact go
    | exc x st' =>
      intro hP W' mm' s' e hx' hS' hs' ht
      refine sim_leaving (g := gcall g d env L mm) hA'.frames hA'.fo rfl hframe hS' ht fun s₂ hS₂ hs₂ ht₂ => ?_
      refine hP (W'.unl [L]) mm s₂ e ((hx₁.trans hx').trans (W'.ext_unl [L])) (back hx' hS₂) ((Same.mk'.trans hs').trans hs₂) ?_
      obtain ⟨a, oe, vs', rfl, t1, t2, t3, t4, t5, t6, t7⟩ := ht₂.thrown
      have un : ∀ a, W'.lab a = none → (W'.unl [L]).lab a = none := fun a ha => by
        show (if a ∈ [L] then none else W'.lab a) = none
        rw [ha]; exact ite_self _
      exact ⟨a, oe, vs', rfl, un _ t1, t2, t3, t4, t5, t6, t7.imp_right fun ⟨T, oT, ts, k1, k2, k3, k4⟩ => ⟨T, oT, ts, k1, k2, un _ k3, k4⟩⟩

theorem fnSim_all {c : Cx} (C : CxOk c) : ∀ d, FnSim c d
  | 0 => fnSim_zero c
  | d + 1 => fnSim_succ C (fnSim_all C d)
end Mine
end

section
open PySem PySem.W PySem.Calls PyProof.Rows
set_option maxRecDepth 100000
set_option linter.unusedVariables false
namespace Mine

noncomputable def constV : PySem.Expr → V
  | .Constant (.int i) _ _ => .int i
  | .Constant (.bool b) _ _ => .bool b
  | _ => .none
noncomputable def fnOfStmt : PySem.Stmt → Option (Str × FnC)
  | .FunctionDef n a b _ _ _ sc _ _ _ => some (n, ⟨a.args.map (·.arg), a.defaults.map constV, sc, b⟩)
  | _ => none
noncomputable def globsOf (body : List PySem.Stmt) : List (Str × FnC) := body.filterMap fnOfStmt
noncomputable def methsOf (body : List PySem.Stmt) : List (Str × FnC) := match body.findSome? (fun s => match s with | .ClassDef n _ _ b _ _ _ _ _ _ _ => if n = ("Stream" : Str) then some b else none | _ => none) with
  | some b => globsOf b
  | none => []
noncomputable def noFn : FnC := ⟨[], [], { kind := .function, names := [], isGenerator := false, isCoroutine := false }, []⟩
noncomputable def gfn (body : List PySem.Stmt) (n : Str) : FnC := ((globsOf body).lookup n).getD noFn
noncomputable def mfn (body : List PySem.Stmt) (n : Str) (k : Nat) : FnC := ((((methsOf body).filter (·.1 = n))[k]?).map (·.2)).getD noFn

noncomputable def body02 : List PySem.Stmt := PySem.Challenge.pw_it0021_02.main.body
noncomputable def f2_ahead : FnC := gfn body02 "_ahead"
noncomputable def f2_push : FnC := gfn body02 "heappush"
noncomputable def f2_new : FnC := gfn body02 "_law_new"
noncomputable def f2_put : FnC := gfn body02 "_law_put"
noncomputable def f2_law : FnC := gfn body02 "law"
noncomputable def f2_init : FnC := mfn body02 "__init__" 0
noncomputable def f2_getW : FnC := mfn body02 "weight" 0
noncomputable def f2_setW : FnC := mfn body02 "weight" 1
noncomputable def f2_add : FnC := mfn body02 "add_child" 0
noncomputable def f2_eq : FnC := mfn body02 "__eq__" 0
noncomputable def f2_ne : FnC := mfn body02 "__ne__" 0
noncomputable def f2_lt : FnC := mfn body02 "__lt__" 0
noncomputable def f2_le : FnC := mfn body02 "__le__" 0
noncomputable def f2_gt : FnC := mfn body02 "__gt__" 0
noncomputable def f2_ge : FnC := mfn body02 "__ge__" 0

noncomputable def code02 : FId → Option FnC
  | .glob n => if n = ("_ahead" : Str) then some f2_ahead else if n = ("heappush" : Str) then some f2_push else if n = ("_law_new" : Str) then some f2_new else if n = ("_law_put" : Str) then some f2_put else none
  | .meth n => if n = ("__init__" : Str) then some f2_init else if n = ("add_child" : Str) then some f2_add else if n = ("__eq__" : Str) then some f2_eq else if n = ("__ne__" : Str) then some f2_ne else
    if n = ("__lt__" : Str) then some f2_lt else if n = ("__le__" : Str) then some f2_le else if n = ("__gt__" : Str) then some f2_gt else if n = ("__ge__" : Str) then some f2_ge else none
  | .getW => some f2_getW
  | .setW => some f2_setW
noncomputable def pi02 : PI := ⟨code02, ["stream_id", "_weight", "children", "parent", "child_queue", "active", "last_weight", "_deficit"]⟩

end Mine
end

section
open PySem
set_option maxRecDepth 100000
set_option linter.unusedVariables false
namespace Mine

theorem upd_same {α : Type} (f : Nat → Option α) (i : Nat) (o : α) : upd f i o i = some o := if_pos rfl
theorem upd_other {α : Type} {f : Nat → Option α} {i j : Nat} {o : α} (h : j ≠ i) : upd f i o j = f j := if_neg h

theorem updL_same {l : Str → Option V} {x : Str} {v : V} : updL l x v x = some v := if_pos rfl
theorem loc_same {h : Nat → Option AObj} {k : Nat} {l : Str → Option V} {x : Str} {v : V} : (S.mk h k (updL l x v)).loc x = some v := if_pos rfl
theorem loc_other {h : Nat → Option AObj} {k : Nat} {l : Str → Option V} {x y : Str} {v : V} (hn : y ≠ x) : (S.mk h k (updL l x v)).loc y = l y := if_neg hn
theorem heap_same {h : Nat → Option AObj} {k i : Nat} {o : AObj} {l : Str → Option V} : (S.mk (upd h i o) k l).heap i = some o := if_pos rfl
theorem heap_other {h : Nat → Option AObj} {k i j : Nat} {o : AObj} {l : Str → Option V} (hn : j ≠ i) : (S.mk (upd h i o) k l).heap j = h j := if_neg hn
theorem updL_other {l : Str → Option V} {x y : Str} {v : V} (h : y ≠ x) : updL l x v y = l y := if_neg h

section
variable {α β : Type} {P : PI} {Φ : Phi} {ev : AEnv} {st st' s1 s2 s3 : S}

theorem b_bind {m : M α} {f : α → M β} {a : α} (h : m st = .ok a s1) : (m >>= f) st = f a s1 := by rw [bind_run, h]
theorem b_bindx {m : M α} {f : α → M β} {x : X} (h : m st = .exc x s1) : (m >>= f) st = .exc x s1 := by rw [bind_run, h]
theorem b_seq {m : M α} {f : α → M β} {a : α} {r : R β} (h : m st = .ok a s1) (h' : f a s1 = r) : (m >>= f) st = r := (b_bind h).trans h'
theorem b_if {c : Prop} [Decidable c] {m m' : M α} {r : R α} (hc : c) (h : m st = r) : (if c then m else m') st = r := by rw [if_pos hc]; exact h
theorem b_ifn {c : Prop} [Decidable c] {m m' : M α} {r : R α} (hc : ¬ c) (h : m' st = r) : (if c then m else m') st = r := by rw [if_neg hc]; exact h

theorem b_get {f : S → Option α} {a : α} (h : f st = some a) : getM f st = .ok a st := by
  unfold getM
  rw [h]
theorem b_load {x : Str} {v : V} (hd : x ≠ ("__debug__" : Str)) (h : ev.names.lookup x = some .local) (hl : st.loc x = some v) : loadV ev x st = .ok v st := b_ifn hd (b_if h (b_get hl))
theorem b_store {x : Str} {v : V} (h : ev.names.lookup x = some .local) : storeV ev x v st = .ok () { st with loc := updL st.loc x v } := b_if h rfl
theorem rdI_at {i : Nat} {fs : List (Str × V)} (h : st.heap i = some (.inst fs)) : rdI i st = .ok fs st := b_get (by unfold instAt; rw [h])
theorem rdL_at {i : Nat} {xs : List V} (h : st.heap i = some (.list xs)) : rdL i st = .ok xs st := b_get (by unfold listAt; rw [h])
theorem rdS_list {i : Nat} {xs : List V} (h : st.heap i = some (.list xs)) : rdS i st = .ok xs st := b_get (by unfold seqAt; rw [h])
theorem rdS_ro {i : Nat} {xs : List V} (h : st.heap i = some (.ro xs)) : rdS i st = .ok xs st := b_get (by unfold seqAt; rw [h])
theorem b_ref {i : Nat} {f : Nat → M β} {r : R β} (h : f i st = r) : (refM (.ref i) >>= f) st = r := b_seq (b_get rfl) h

/-! expressions -/
theorem b_int {i : Int} {k : Nat} {p : Pos} : denE P Φ ev (.Constant (.int i) k p) st = .ok (.int i) st := rfl
theorem b_bool {b : Bool} {k : Nat} {p : Pos} : denE P Φ ev (.Constant (.bool b) k p) st = .ok (.bool b) st := rfl
theorem b_none {k : Nat} {p : Pos} : denE P Φ ev (.Constant .none k p) st = .ok .none st := rfl
theorem b_name {x : Str} {p : Pos} {v : V} (hd : x ≠ ("__debug__" : Str)) (h : ev.names.lookup x = some .local) (hl : st.loc x = some v) : denE P Φ ev (.Name x p) st = .ok v st := b_load hd h hl
theorem b_attr {o : Expr} {x : Str} {p : Pos} {i : Nat} {fs : List (Str × V)} {v : V} (hb : plainBase o = true) (h : denE P Φ ev o st = .ok (.ref i) s1) (ha : s1.heap i = some (.inst fs)) (hn : x ≠ wName) (hf : P.fields.contains x = true) (hg : getR x fs = some v) :
    denE P Φ ev (.Attribute o x p) st = .ok v s1 := b_if hb (b_seq h (b_ref (b_seq (rdI_at ha) (b_ifn hn (b_if hf (b_get hg))))))
theorem b_attrW {o : Expr} {p : Pos} {i : Nat} {fs : List (Str × V)} {v : V} (hb : plainBase o = true) (h : denE P Φ ev o st = .ok (.ref i) s1) (ha : s1.heap i = some (.inst fs)) (hw : callF P Φ ev.hd .getW [.ref i] [] s1 = .ok v s2) :
    denE P Φ ev (.Attribute o "weight" p) st = .ok v s2 := b_if hb (b_seq h (b_ref (b_seq (rdI_at ha) (b_if rfl (by unfold noExc; rw [hw])))))
theorem b_not {x : Expr} {p : Pos} {b : Bool} (h : denE P Φ ev x st = .ok (.bool b) s1) : denE P Φ ev (.UnaryOp .Not x p) st = .ok (.bool !b) s1 := b_seq h rfl
theorem b_neg {x : Expr} {p : Pos} {i : Int} (h : denE P Φ ev x st = .ok (.int i) s1) : denE P Φ ev (.UnaryOp .USub x p) st = .ok (.int (-i)) s1 := b_seq h rfl
theorem b_bin {l r : Expr} {op : Operator} {p : Pos} {a b v : V} (h1 : denE P Φ ev l st = .ok a s1) (h2 : denE P Φ ev r s1 = .ok b s2) (h3 : binV op a b s2 = .ok v s3) : denE P Φ ev (.BinOp l op r p) st = .ok v s3 := b_seq h1 (b_seq h2 h3)
theorem b_add {x y : Int} : binV .Add (.int x) (.int y) st = .ok (.int (x + y)) st := rfl
theorem b_sub {x y : Int} : binV .Sub (.int x) (.int y) st = .ok (.int (x - y)) st := rfl
theorem b_mod {x y : Int} (h : y ≠ 0) : binV .Mod (.int x) (.int y) st = .ok (.int (Int.fmod x y)) st := b_ifn h rfl
theorem b_pow {y : Int} (h : 0 ≤ y ∧ y ≤ 100 ∧ (10 : Int) = 10) : binV .Pow (.int 10) (.int y) st = .ok (.int (10 ^ y.toNat)) st := b_if h rfl
theorem b_ifexpT {t b o : Expr} {p : Pos} {r : R V} (h : denT P Φ ev t (denE P Φ ev t) st = .ok true s1) (h' : denE P Φ ev b s1 = r) : denE P Φ ev (.IfExp t b o p) st = r := b_seq h h'
theorem b_ifexpF {t b o : Expr} {p : Pos} {r : R V} (h : denT P Φ ev t (denE P Φ ev t) st = .ok false s1) (h' : denE P Φ ev o s1 = r) : denE P Φ ev (.IfExp t b o p) st = r := b_seq h h'
theorem b_cmp {l r : Expr} {op : CmpOp} {p : Pos} {a b v : V} (h1 : denE P Φ ev l st = .ok a s1) (h2 : denE P Φ ev r s1 = .ok b s2) (h3 : compareV P Φ ev.hd op a b s2 = .ok v s3) : denE P Φ ev (.Compare l [op] [r] p) st = .ok v s3 := b_seq h1 (b_seq h2 h3)
theorem b_nil : denEs P Φ ev [] st = .ok [] st := rfl
theorem b_cons {e : Expr} {r : List Expr} {v : V} {vs : List V} (h1 : denE P Φ ev e st = .ok v s1) (h2 : denEs P Φ ev r s1 = .ok vs s2) : denEs P Φ ev (e :: r) st = .ok (v :: vs) s2 := b_seq h1 (b_seq h2 rfl)
theorem b_list {es : List Expr} {p : Pos} {vs : List V} (hs : noStars es = true) (h : denEs P Φ ev es st = .ok vs s1) : denE P Φ ev (.List es p) st = .ok (.ref s1.next) { s1 with heap := upd s1.heap s1.next (.list vs), next := s1.next + 1 } := b_if hs (b_seq h rfl)
theorem b_tuple {es : List Expr} {k : Nat} {p : Pos} {vs : List V} (hs : noStars es = true) (h : denEs P Φ ev es st = .ok vs s1) : denE P Φ ev (.Tuple es k p) st = .ok (.ref s1.next) { s1 with heap := upd s1.heap s1.next (.tup vs), next := s1.next + 1 } := b_if hs (b_seq h rfl)
theorem b_cmpEq {x y : Int} {hd : Bool} : compareV P Φ hd .Eq (.int x) (.int y) st = .ok (.bool (x == y)) st := rfl
theorem b_cmpNe {x y : Int} {hd : Bool} : compareV P Φ hd .NotEq (.int x) (.int y) st = .ok (.bool !(x == y)) st := rfl
theorem b_cmpLt {x y : Int} {hd : Bool} : compareV P Φ hd .Lt (.int x) (.int y) st = .ok (.bool (decide (x < y))) st := rfl
theorem b_cmpLe {x y : Int} {hd : Bool} : compareV P Φ hd .LtE (.int x) (.int y) st = .ok (.bool (decide (x ≤ y))) st := rfl
theorem b_cmpGt {x y : Int} {hd : Bool} : compareV P Φ hd .Gt (.int x) (.int y) st = .ok (.bool (decide (x > y))) st := rfl
theorem b_cmpGe {x y : Int} {hd : Bool} : compareV P Φ hd .GtE (.int x) (.int y) st = .ok (.bool (decide (x ≥ y))) st := rfl
theorem b_cmpIs {v : V} {hd : Bool} : compareV P Φ hd .Is v .none st = .ok (.bool (isNone v)) st := rfl
theorem b_cmpIsNot {v : V} {hd : Bool} : compareV P Φ hd .IsNot v .none st = .ok (.bool !isNone v) st := rfl

/-- a call of a global name -/
theorem b_call {f : Str} {args : List Expr} {fp p : Pos} {vs : List V} {r : R V} (hg : isGlobal ev f = true) (hs : noStars args = true) (hi : f ≠ ("isinstance" : Str)) (hk : knownFn P f = true)
    (h : denEs P Φ ev args st = .ok vs s1) (h' : callName P Φ ev f vs s1 = r) : denE P Φ ev (.Call (.Name f fp) args [] p) st = r :=
  b_if (c := (isGlobal ev f && true && noStars args) = true) (by rw [hg, hs]; rfl) (b_ifn hi (b_if hk (b_seq h h')))
theorem b_callFn {f : Str} {vs : List V} {r : R V} (hc : (P.code (.glob f)).isSome = true) (h : callF P Φ ev.hd (.glob f) vs [] st = r) : callName P Φ ev f vs st = r := b_if hc h
theorem b_isinst {x : Expr} {t : Expr} {n : Str} {fp p : Pos} {v w : V} (hg : isGlobal ev ("isinstance" : Str) = true) (hs : noStars [x, t] = true) (ht : globE ev t = some n)
    (h : denE P Φ ev x st = .ok v s1) (h' : isinstV v n s1 = .ok w s2) : denE P Φ ev (.Call (.Name "isinstance" fp) [x, t] [] p) st = .ok w s2 := by
  refine b_if (c := (isGlobal ev ("isinstance" : Str) && true && noStars [x, t]) = true) (by rw [hg, hs]; rfl) (b_if rfl ?_)
  show (match globE ev t with | some n => denE P Φ ev x >>= fun v => isinstV v n | none => failM) st = _
  rw [ht]
  exact b_seq h h'
theorem isInst_at {h : Nat → Option AObj} {a : Nat} {fs : List (Str × V)} (ha : h a = some (.inst fs)) : isInst h (.ref a) = true := by
  show (instAt h a).isSome = true
  unfold instAt
  rw [ha]
  rfl
theorem b_isStream {i : Nat} {fs : List (Str × V)} (ha : st.heap i = some (.inst fs)) : isinstV (.ref i) "Stream" st = .ok (.bool true) st := by
  show (if isInst st.heap (.ref i) = true then R.ok (V.bool true) st else .fail) = _
  rw [if_pos (isInst_at ha)]
theorem b_isStreamI {i : Int} : isinstV (.int i) "Stream" st = .ok (.bool false) st := rfl
theorem b_isInt {i : Int} : isinstV (.int i) "int" st = .ok (.bool true) st := rfl

/-- a call of an object's own method -/
theorem b_meth {o : Expr} {n : Str} {args : List Expr} {ap p : Pos} {i : Nat} {fs : List (Str × V)} {vs : List V} {r : R V} (hl : (ap.endLine == p.line) = true) (hb : (plainBase o && noStars args) = true) (hna : n ≠ ("append" : Str))
    (h : denE P Φ ev o st = .ok (.ref i) s1) (ha : s1.heap i = some (.inst fs)) (hn : getR n fs = none) (hc : (P.code (.meth n)).isSome = true) (h1 : denEs P Φ ev args s1 = .ok vs s2) (h2 : callF P Φ ev.hd (.meth n) (.ref i :: vs) [] s2 = r) :
    denE P Φ ev (.Call (.Attribute o n ap) args [] p) st = r :=
  b_if (c := ((ap.endLine == p.line) && plainBase o && noStars args && true) = true) (by rw [hl, Bool.true_and, hb]; rfl)
    (b_seq h (b_seq (b_ref (b_ifn hna (b_seq (rdI_at ha) (b_ifn (by rw [hn]; exact fun q => nomatch q) (b_if hc rfl))))) (b_seq h1 h2)))
/-- append, of a list at hand -/
theorem app_at {i : Nat} {xs : List V} {v : V} (ha : st.heap i = some (.list xs)) (hx : xs.length < 1000) : appendM i v st = .ok .none { st with heap := upd st.heap i (.list (xs ++ [v])) } := b_seq (rdL_at ha) (b_if hx rfl)
theorem b_append {o : Expr} {args : List Expr} {ap p : Pos} {i : Nat} {xs : List V} {v : V} (hl : (ap.endLine == p.line) = true) (hb : (plainBase o && noStars args) = true)
    (h : denE P Φ ev o st = .ok (.ref i) s1) (ha : s1.heap i = some (.list xs)) (h1 : denEs P Φ ev args s1 = .ok [v] s2) (ha' : s2.heap i = some (.list xs)) (hx : xs.length < 1000) :
    denE P Φ ev (.Call (.Attribute o "append" ap) args [] p) st = .ok .none { s2 with heap := upd s2.heap i (.list (xs ++ [v])) } :=
  b_if (c := ((ap.endLine == p.line) && plainBase o && noStars args && true) = true) (by rw [hl, Bool.true_and, hb]; rfl)
    (b_seq h (b_seq (b_ref (b_if rfl (b_seq (rdL_at ha) rfl))) (b_seq h1 (app_at ha' hx))))

/-! tests -/
theorem t_not {x : Expr} {p : Pos} {m : M V} {b : Bool} (h : denT P Φ ev x (denE P Φ ev x) st = .ok b s1) : denT P Φ ev (.UnaryOp .Not x p) m st = .ok (!b) s1 := b_seq h rfl
theorem d_orF {x : Expr} {r : List Expr} {q : R Bool} (h : denT P Φ ev x (denE P Φ ev x) st = .ok false s1) (h' : denBool P Φ ev .Or r s1 = q) : denBool P Φ ev .Or (x :: r) st = q := b_seq h h'
theorem d_last {x : Expr} {b : Bool} (h : denT P Φ ev x (denE P Φ ev x) st = .ok b s1) : denBool P Φ ev .Or [x] st = .ok b s1 := b_seq h (by cases b <;> rfl)
theorem t_or {l r : Expr} {p : Pos} {m : M V} {b : Bool} (h1 : denT P Φ ev l (denE P Φ ev l) st = .ok false s1) (h2 : denT P Φ ev r (denE P Φ ev r) s1 = .ok b s2) : denT P Φ ev (.BoolOp .Or [l, r] p) m st = .ok b s2 := d_orF h1 (d_last h2)
theorem t_or3 {l r q : Expr} {p : Pos} {m : M V} {b : Bool} (h1 : denT P Φ ev l (denE P Φ ev l) st = .ok false s1) (h2 : denT P Φ ev r (denE P Φ ev r) s1 = .ok false s2) (h3 : denT P Φ ev q (denE P Φ ev q) s2 = .ok b s3) : denT P Φ ev (.BoolOp .Or [l, r, q] p) m st = .ok b s3 := d_orF h1 (d_orF h2 (d_last h3))
theorem t_andF {l : Expr} {r : List Expr} {p : Pos} {m : M V} (h1 : denT P Φ ev l (denE P Φ ev l) st = .ok false s1) : denT P Φ ev (.BoolOp .And (l :: r) p) m st = .ok false s1 := b_seq h1 rfl
theorem t_cmp {l r : Expr} {op : CmpOp} {p : Pos} {m : M V} {a b : V} {c : Bool} (h1 : denE P Φ ev l st = .ok a s1) (h2 : denE P Φ ev r s1 = .ok b s2) (h3 : compareV P Φ ev.hd op a b s2 = .ok (.bool c) s3) : denT P Φ ev (.Compare l [op] [r] p) m st = .ok c s3 := b_seq h1 (b_seq h2 (b_seq h3 rfl))
/-- a chain whose first link holds -/
theorem t_cmp2 {l r q : Expr} {op op' : CmpOp} {p : Pos} {m : M V} {a b d : V} {c : Bool} {s4 : S} (h1 : denE P Φ ev l st = .ok a s1) (h2 : denE P Φ ev r s1 = .ok b s2) (h3 : compareV P Φ ev.hd op a b s2 = .ok (.bool true) s3) {s5 : S} (h4 : denE P Φ ev q s3 = .ok d s4) (h5 : compareV P Φ ev.hd op' b d s4 = .ok (.bool c) s5) :
    denT P Φ ev (.Compare l [op, op'] [r, q] p) m st = .ok c s5 := b_seq h1 (b_seq h2 (b_seq h3 (b_seq h4 (b_seq h5 rfl))))
/-- a chain whose first link fails -/
theorem t_cmpF {l r q : Expr} {op op' : CmpOp} {p : Pos} {m : M V} {a b : V} (h1 : denE P Φ ev l st = .ok a s1) (h2 : denE P Φ ev r s1 = .ok b s2) (h3 : compareV P Φ ev.hd op a b s2 = .ok (.bool false) s3) :
    denT P Φ ev (.Compare l [op, op'] [r, q] p) m st = .ok false s3 := b_seq h1 (b_seq h2 (b_seq h3 rfl))
/-- a call, truth of what it gives -/
theorem t_call {f : Expr} {args : List Expr} {kws : List Keyword} {p : Pos} {m : M V} {b : Bool} (h : m st = .ok (.bool b) s1) : denT P Φ ev (.Call f args kws p) m st = .ok b s1 := b_seq h rfl

/-! statements -/
theorem s_nil : denSs P Φ ev [] st = .ok .next st := rfl
theorem s_cons {s : Stmt} {r : List Stmt} {x : R Flow} (h : denS P Φ ev s st = .ok .next s1) (h' : denSs P Φ ev r s1 = x) : denSs P Φ ev (s :: r) st = x := b_seq h h'
theorem s_ends {s : Stmt} {r : List Stmt} {v : V} (h : denS P Φ ev s st = .ok (.ret v) s1) : denSs P Φ ev (s :: r) st = .ok (.ret v) s1 := b_seq h rfl
theorem s_flies {s : Stmt} {r : List Stmt} {x : X} (h : denS P Φ ev s st = .exc x s1) : denSs P Φ ev (s :: r) st = .exc x s1 := b_bindx h
theorem s_ret {e : Expr} {p : Pos} {v : V} (h : denE P Φ ev e st = .ok v s1) : denS P Φ ev (.Return (some e) p) st = .ok (.ret v) s1 := b_seq h rfl
theorem s_retx {e : Expr} {p : Pos} {x : X} (h : denE P Φ ev e st = .exc x s1) : denS P Φ ev (.Return (some e) p) st = .exc x s1 := b_bindx h
theorem s_expr {e : Expr} {p : Pos} {v : V} (hc : (!isComp e) = true) (h : denE P Φ ev e st = .ok v s1) : denS P Φ ev (.Expr e p) st = .ok .next s1 := b_if hc (b_seq h rfl)
theorem s_ifT {t : Expr} {b o : List Stmt} {p : Pos} {x : R Flow} (h : denT P Φ ev t (denE P Φ ev t) st = .ok true s1) (h' : denSs P Φ ev b s1 = x) : denS P Φ ev (.If t b o p) st = x := b_seq h h'
theorem s_ifF {t : Expr} {b o : List Stmt} {p : Pos} {x : R Flow} (h : denT P Φ ev t (denE P Φ ev t) st = .ok false s1) (h' : denSs P Φ ev o s1 = x) : denS P Φ ev (.If t b o p) st = x := b_seq h h'
theorem s_assign {t v : Expr} {p : Pos} {a : V} (hp : (!isComp v || (nameE t).isSome) = true) (h : denE P Φ ev v st = .ok a s1) (h' : assignV P Φ ev t a s1 = .ok () s2) : denS P Φ ev (.Assign [t] v p) st = .ok .next s2 := b_if hp (b_seq h (b_seq h' rfl))
theorem s_assignx {t v : Expr} {p : Pos} {a : V} {x : X} (hp : (!isComp v || (nameE t).isSome) = true) (h : denE P Φ ev v st = .ok a s1) (h' : assignV P Φ ev t a s1 = .exc x s2) : denS P Φ ev (.Assign [t] v p) st = .exc x s2 := b_if hp (b_seq h (b_bindx h'))
theorem a_name {x : Str} {p : Pos} {v : V} (h : ev.names.lookup x = some .local) : assignV P Φ ev (.Name x p) v st = .ok () { st with loc := updL st.loc x v } := b_store h
theorem a_attr {o : Expr} {x : Str} {p : Pos} {i : Nat} {fs : List (Str × V)} {v : V} (h : denE P Φ ev o st = .ok (.ref i) s1) (ha : s1.heap i = some (.inst fs)) (hn : x ≠ wName) (hf : P.fields.contains x = true ∧ fs.length < 100) :
    assignV P Φ ev (.Attribute o x p) v st = .ok () { s1 with heap := upd s1.heap i (.inst (putR x v fs)) } := b_seq h (b_ref (b_seq (rdI_at ha) (b_ifn hn (b_if hf rfl))))
theorem a_attrW {o : Expr} {p : Pos} {i : Nat} {fs : List (Str × V)} {v w : V} (h : denE P Φ ev o st = .ok (.ref i) s1) (ha : s1.heap i = some (.inst fs)) (h' : callF P Φ ev.hd .setW [.ref i, v] [] s1 = .ok w s2) :
    assignV P Φ ev (.Attribute o "weight" p) v st = .ok () s2 := b_seq h (b_ref (b_seq (rdI_at ha) (b_if rfl (b_seq h' rfl))))
theorem a_attrWx {o : Expr} {p : Pos} {i : Nat} {fs : List (Str × V)} {v : V} {x : X} (h : denE P Φ ev o st = .ok (.ref i) s1) (ha : s1.heap i = some (.inst fs)) (h' : callF P Φ ev.hd .setW [.ref i, v] [] s1 = .exc x s2) :
    assignV P Φ ev (.Attribute o "weight" p) v st = .exc x s2 := b_seq h (b_ref (b_seq (rdI_at ha) (b_if rfl (b_bindx h'))))
theorem a_sub {o k : Expr} {p : Pos} {i : Nat} {n : Int} {xs : List V} {v : V} (h : denE P Φ ev o st = .ok (.ref i) s1) (h1 : denE P Φ ev k s1 = .ok (.int n) s2) (ha : s2.heap i = some (.list xs)) (hn : 0 ≤ n ∧ n.toNat < xs.length ∧ n < 1000) :
    assignV P Φ ev (.Subscript o k p) v st = .ok () { s2 with heap := upd s2.heap i (.list (xs.set n.toNat v)) } := b_seq h (b_seq h1 (b_ref (b_seq (b_get rfl) (b_seq (rdL_at ha) (b_if hn rfl)))))
theorem s_whileF {t : Expr} {b : List Stmt} {p : Pos} (h : denT P Φ ev t (denE P Φ ev t) st = .ok false s1) : denS P Φ ev (.While t b [] p) st = .ok .next s1 := b_if (c := ([] : List Stmt).isEmpty = true) (m := whileM (denT P Φ ev t (denE P Φ ev t))) (m' := failM) rfl (b_seq h rfl)
theorem s_raise {x : Str} {fp k1 k2 p : Pos} {k : Nat} (hg : isGlobal ev ("BadWeightError" : Str) = true ∧ ("BadWeightError" : Str) = ("BadWeightError" : Str) ∧ ev.hd = false ∧ (none : Option Expr).isNone = true) :
    denS P Φ ev (.Raise (some (.Call (.Name "BadWeightError" fp) [.Constant (.str x) k k1] [] k2)) none p) st = .exc .weight st := b_if (m := throwM .weight) (m' := failM) hg rfl
end

theorem glob_of {ev : AEnv} {f : Str} (h : ev.names.lookup f = some .globalImplicit) : isGlobal ev f = true := by
  unfold isGlobal
  rw [h]
theorem globE_of {ev : AEnv} {f : Str} {p : Pos} (h : ev.names.lookup f = some .globalImplicit) : globE ev (.Name f p) = some f := by
  show (if isGlobal ev f = true then some f else none) = _
  rw [if_pos (glob_of h)]

/-! bodies -/
theorem body_ok {P : PI} {Φ : Phi} {hd : Bool} {c : FnC} {vs : List V} {st s' : S} {f : Flow} (hl : vs.length = c.params.length ∧ noCell c.scope = true)
    (h : denSs P Φ { names := c.scope.names, hd } c.body { st with loc := fun x => (c.params.zip vs).lookup x } = .ok f s') : bodyM P Φ hd c vs st = .ok (backV f) { s' with loc := st.loc } := by
  unfold bodyM
  rw [if_pos hl, h]
theorem body_exc {P : PI} {Φ : Phi} {hd : Bool} {c : FnC} {vs : List V} {st s' : S} {x : X} (hl : vs.length = c.params.length ∧ noCell c.scope = true)
    (h : denSs P Φ { names := c.scope.names, hd } c.body { st with loc := fun x => (c.params.zip vs).lookup x } = .exc x s') : bodyM P Φ hd c vs st = .exc x { s' with loc := st.loc } := by
  unfold bodyM
  rw [if_pos hl, h]
end Mine
end

section
open PySem
set_option maxRecDepth 100000
set_option linter.unusedVariables false
namespace Mine

section
variable {hd : Bool} {n a b : Nat} {st : S} {fa fb : List (Str × V)} {x y : Int}

theorem n_eqI : f2_eq.scope.names.lookup ("isinstance" : Str) = some NameKind.globalImplicit := by decide
theorem n_eqS : f2_eq.scope.names.lookup ("Stream" : Str) = some NameKind.globalImplicit := by decide
theorem n_getW : f2_getW.scope.names.lookup ("self" : Str) = some NameKind.local := by decide
theorem eq_run (ha : st.heap a = some (.inst fa)) (hb : st.heap b = some (.inst fb)) (hx : getR "stream_id" fa = some (.int x)) (hy : getR "stream_id" fb = some (.int y)) :
    bodyM pi02 (phi pi02 n) hd f2_eq [.ref a, .ref b] st = .ok (.bool (x == y)) st := by
  have es : f2_eq.scope.names.lookup ("self" : Str) = some NameKind.local := by decide
  have eo : f2_eq.scope.names.lookup ("other" : Str) = some NameKind.local := by decide
  refine body_ok (f := .ret (.bool (x == y))) (s' := { st with loc := fun x => (f2_eq.params.zip [V.ref a, V.ref b]).lookup x }) ⟨rfl, by decide⟩ ?_
  refine s_cons (s_ifF (t_not (b := true) (t_call (b_isinst (glob_of n_eqI) rfl (globE_of n_eqS) (b_name (by decide) eo rfl) (b_isStream hb)))) s_nil) ?_
  exact s_ends (s_ret (b_cmp (b_attr rfl (b_name (by decide) es rfl) ha (by decide) (by decide) hx) (b_attr rfl (b_name (by decide) eo rfl) hb (by decide) (by decide) hy) b_cmpEq))
theorem eqi_run : bodyM pi02 (phi pi02 n) hd f2_eq [.ref a, .int y] st = .ok (.bool false) st := by
  have eo : f2_eq.scope.names.lookup ("other" : Str) = some NameKind.local := by decide
  refine body_ok (f := .ret (.bool false)) (s' := { st with loc := fun x => (f2_eq.params.zip [V.ref a, V.int y]).lookup x }) ⟨rfl, by decide⟩ ?_
  exact s_ends (s_ifT (t_not (b := false) (t_call (b_isinst (glob_of n_eqI) rfl (globE_of n_eqS) (b_name (by decide) eo rfl) b_isStreamI))) (s_ends (s_ret b_bool)))

/-- the four orders: one shape -/
theorem ord_run {f : FnC} {op : CmpOp} {r : Bool} (ha : st.heap a = some (.inst fa)) (hb : st.heap b = some (.inst fb)) (hx : getR "stream_id" fa = some (.int x)) (hy : getR "stream_id" fb = some (.int y))
    (hp : f.params = (["self", "other"] : List Str)) (hn : noCell f.scope = true) (es : f.scope.names.lookup ("self" : Str) = some NameKind.local) (eo : f.scope.names.lookup ("other" : Str) = some NameKind.local)
    (ei : f.scope.names.lookup ("isinstance" : Str) = some NameKind.globalImplicit) (eS : f.scope.names.lookup ("Stream" : Str) = some NameKind.globalImplicit)
    {p1 p2 p3 p4 p5 p8 p9 q1 q2 q3 q4 q5 : Pos} {rt : List Stmt}
    (hbd : f.body = [.If (.UnaryOp .Not (.Call (.Name "isinstance" p1) [.Name "other" p2, .Name "Stream" p3] [] p4) p5) rt [] p8, .Return (some (.Compare (.Attribute (.Name "self" p9) "stream_id" q1) [op] [.Attribute (.Name "other" q2) "stream_id" q3] q4)) q5])
    (hop : ∀ st : S, compareV pi02 (phi pi02 n) hd op (.int x) (.int y) st = .ok (.bool r) st) : bodyM pi02 (phi pi02 n) hd f [.ref a, .ref b] st = .ok (.bool r) st := by
  refine body_ok (f := .ret (.bool r)) (s' := { st with loc := fun x => (f.params.zip [V.ref a, V.ref b]).lookup x }) ⟨by rw [hp]; rfl, hn⟩ ?_
  have ls : (fun x => (f.params.zip [V.ref a, V.ref b]).lookup x) ("self" : Str) = some (V.ref a) := by rw [hp]; rfl
  have lo : (fun x => (f.params.zip [V.ref a, V.ref b]).lookup x) ("other" : Str) = some (V.ref b) := by rw [hp]; rfl
  rw [hbd]
  refine s_cons (s_ifF (t_not (b := true) (t_call (b_isinst (glob_of ei) rfl (globE_of eS) (b_name (by decide) eo lo) (b_isStream hb)))) s_nil) ?_
  exact s_ends (s_ret (b_cmp (b_attr rfl (b_name (by decide) es ls) ha (by decide) (by decide) hx) (b_attr rfl (b_name (by decide) eo lo) hb (by decide) (by decide) hy) (hop _)))
theorem lt_run (ha : st.heap a = some (.inst fa)) (hb : st.heap b = some (.inst fb)) (hx : getR "stream_id" fa = some (.int x)) (hy : getR "stream_id" fb = some (.int y)) :
    bodyM pi02 (phi pi02 n) hd f2_lt [.ref a, .ref b] st = .ok (.bool (decide (x < y))) st :=
  ord_run (op := .Lt) ha hb hx hy rfl (by decide) (by decide) (by decide) (by decide) (by decide) rfl fun _ => rfl
theorem le_run (ha : st.heap a = some (.inst fa)) (hb : st.heap b = some (.inst fb)) (hx : getR "stream_id" fa = some (.int x)) (hy : getR "stream_id" fb = some (.int y)) :
    bodyM pi02 (phi pi02 n) hd f2_le [.ref a, .ref b] st = .ok (.bool (decide (x ≤ y))) st :=
  ord_run (op := .LtE) ha hb hx hy rfl (by decide) (by decide) (by decide) (by decide) (by decide) rfl fun _ => rfl
theorem gt_run (ha : st.heap a = some (.inst fa)) (hb : st.heap b = some (.inst fb)) (hx : getR "stream_id" fa = some (.int x)) (hy : getR "stream_id" fb = some (.int y)) :
    bodyM pi02 (phi pi02 n) hd f2_gt [.ref a, .ref b] st = .ok (.bool (decide (x > y))) st :=
  ord_run (op := .Gt) ha hb hx hy rfl (by decide) (by decide) (by decide) (by decide) (by decide) rfl fun _ => rfl
theorem ge_run (ha : st.heap a = some (.inst fa)) (hb : st.heap b = some (.inst fb)) (hx : getR "stream_id" fa = some (.int x)) (hy : getR "stream_id" fb = some (.int y)) :
    bodyM pi02 (phi pi02 n) hd f2_ge [.ref a, .ref b] st = .ok (.bool (decide (x ≥ y))) st :=
  ord_run (op := .GtE) ha hb hx hy rfl (by decide) (by decide) (by decide) (by decide) (by decide) rfl fun _ => rfl

theorem ne_of {v : V} {r : Bool} (ha : st.heap a = some (.inst fa)) (hne : getR "__eq__" fa = none)
    (h : ∀ st' : S, st'.heap = st.heap → bodyM pi02 (phi pi02 n) hd f2_eq [.ref a, v] st' = .ok (.bool r) st') : bodyM pi02 (phi pi02 (n + 1)) hd f2_ne [.ref a, v] st = .ok (.bool !r) st := by
  have es : f2_ne.scope.names.lookup ("self" : Str) = some NameKind.local := by decide
  have eo : f2_ne.scope.names.lookup ("other" : Str) = some NameKind.local := by decide
  refine body_ok (f := .ret (.bool !r)) (s' := { st with loc := fun x => (f2_ne.params.zip [V.ref a, v]).lookup x }) ⟨rfl, by decide⟩ ?_
  exact s_ends (s_ret (b_not (b_meth (by decide) rfl (by decide) (b_name (by decide) es rfl) ha hne (by decide) (b_cons (b_name (by decide) eo rfl) b_nil) (h _ rfl))))
theorem ne_run (ha : st.heap a = some (.inst fa)) (hb : st.heap b = some (.inst fb)) (hx : getR "stream_id" fa = some (.int x)) (hy : getR "stream_id" fb = some (.int y)) (hne : getR "__eq__" fa = none) :
    bodyM pi02 (phi pi02 (n + 1)) hd f2_ne [.ref a, .ref b] st = .ok (.bool !(x == y)) st := ne_of ha hne fun st' e => eq_run (e ▸ ha) (e ▸ hb) hx hy
theorem nei_run (ha : st.heap a = some (.inst fa)) (hne : getR "__eq__" fa = none) : bodyM pi02 (phi pi02 (n + 1)) hd f2_ne [.ref a, .int y] st = .ok (.bool true) st := ne_of ha hne fun st' e => eqi_run

theorem getW_run {v : V} (ha : st.heap a = some (.inst fa)) (hx : getR "_weight" fa = some v) : bodyM pi02 (phi pi02 n) hd f2_getW [.ref a] st = .ok v st := by
  refine body_ok (f := .ret v) (s' := { st with loc := fun x => (f2_getW.params.zip [V.ref a]).lookup x }) ⟨rfl, by decide⟩ ?_
  exact s_ends (s_ret (b_attr rfl (b_name (by decide) n_getW rfl) ha (by decide) (by decide) hx))

theorem setW_run {w : Int} (ha : st.heap a = some (.inst fa)) (hl : fa.length < 100) :
    (1 ≤ w ∧ w ≤ 256 → bodyM pi02 (phi pi02 n) false f2_setW [.ref a, .int w] st = .ok .none { st with heap := upd st.heap a (.inst (putR "_weight" (.int w) fa)) }) ∧
    (¬ (1 ≤ w ∧ w ≤ 256) → bodyM pi02 (phi pi02 n) false f2_setW [.ref a, .int w] st = .exc .weight st) := by
  have es : f2_setW.scope.names.lookup ("self" : Str) = some NameKind.local := by decide
  have ev : f2_setW.scope.names.lookup ("value" : Str) = some NameKind.local := by decide
  constructor
  · intro h
    refine body_ok (f := .next) (s' := { st with heap := upd st.heap a (.inst (putR "_weight" (.int w) fa)), loc := fun x => (f2_setW.params.zip [V.ref a, V.int w]).lookup x }) ⟨rfl, by decide⟩ ?_
    refine s_cons (s_ifF (t_not (b := true) (t_call (b_isinst (glob_of (by decide)) rfl (globE_of (by decide)) (b_name (by decide) ev rfl) b_isInt))) (s_cons (s_ifF (t_not (b := true) (t_cmp2 b_int (b_name (by decide) ev rfl) (s3 := _) (by rw [b_cmpLe, decide_eq_true h.1]) b_int (by rw [b_cmpLe, decide_eq_true h.2]))) s_nil) s_nil)) ?_
    exact s_cons (s_assign rfl (b_name (by decide) ev rfl) (a_attr (b_name (by decide) es rfl) ha (by decide) ⟨by decide, hl⟩)) s_nil
  · intro h
    refine body_exc (s' := { st with loc := fun x => (f2_setW.params.zip [V.ref a, V.int w]).lookup x }) ⟨rfl, by decide⟩ ?_
    refine s_flies (s_ifF (t_not (b := true) (t_call (b_isinst (glob_of (by decide)) rfl (globE_of (by decide)) (b_name (by decide) ev rfl) b_isInt))) (s_flies (s_ifT ?_ (s_flies (s_raise ⟨by decide, rfl, rfl, rfl⟩)))))
    by_cases h1 : 1 ≤ w
    · exact t_not (b := false) (t_cmp2 b_int (b_name (by decide) ev rfl) (by rw [b_cmpLe, decide_eq_true h1]) b_int (by rw [b_cmpLe, decide_eq_false (fun h2 => h ⟨h1, h2⟩)]))
    · exact t_not (b := false) (t_cmpF b_int (b_name (by decide) ev rfl) (by rw [b_cmpLe, decide_eq_false h1]))
end
end Mine
end

section
open PySem
set_option maxRecDepth 100000
set_option linter.unusedVariables false
namespace Mine

noncomputable def newFs (i : Nat) (n w : Int) : List (Str × V) := [("stream_id", .int n), ("_weight", .int w), ("children", .ref (i + 1)), ("parent", .none), ("child_queue", .ref (i + 2)), ("active", .bool true), ("last_weight", .int 0), ("_deficit", .int 0)]

theorem n_initS : f2_init.scope.names.lookup ("self" : Str) = some NameKind.local := by decide
theorem n_initN : f2_init.scope.names.lookup ("stream_id" : Str) = some NameKind.local := by decide
theorem n_initW : f2_init.scope.names.lookup ("weight" : Str) = some NameKind.local := by decide
theorem callSet {n a : Nat} {st : S} {r : R V} {v : V} (h : bodyM pi02 (phi pi02 n) false f2_setW [.ref a, v] st = r) : callF pi02 (phi pi02 (n + 1)) false .setW [.ref a, v] [] st = r := h

theorem len_put {x : Str} {v : V} {k : Nat} : ∀ {fs : List (Str × V)}, fs.length < k → (putR x v fs).length < k + 1
  | [], h => Nat.succ_lt_succ h
  | (y, w) :: r, h => by
    unfold putR
    split
    · exact Nat.lt_succ_of_lt h
    · cases k with
      | zero => exact absurd h (Nat.not_lt_zero _)
      | succ k => exact Nat.succ_lt_succ (len_put (Nat.lt_of_succ_lt_succ h))

theorem init_ok {n i : Nat} {st : S} {m w : Int} (ha : st.heap i = some (.inst [])) (hi : st.next = i + 1) (hw : 1 ≤ w ∧ w ≤ 256) :
    ∃ st', bodyM pi02 (phi pi02 (n + 1)) false f2_init [.ref i, .int m, .int w] st = .ok .none st' ∧ st'.next = i + 3 ∧ st'.loc = st.loc ∧ st'.heap i = some (.inst (newFs i m w)) ∧ st'.heap (i + 1) = some (.list []) ∧ st'.heap (i + 2) = some (.list []) ∧ ∀ j, j < i → st'.heap j = st.heap j := by
  have n1 : i ≠ st.next := by omega
  have n2 : i ≠ st.next + 1 := by omega
  have nm : ∀ {h : Nat → Option AObj} {k : Nat} {p : Pos}, denE pi02 (phi pi02 (n + 1)) { names := f2_init.scope.names, hd := false } (.Name "self" p) ⟨h, k, fun x => (f2_init.params.zip [V.ref i, V.int m, V.int w]).lookup x⟩ = .ok (.ref i) ⟨h, k, fun x => (f2_init.params.zip [V.ref i, V.int m, V.int w]).lookup x⟩ := b_name (by decide) n_initS rfl
  have at_ : ∀ {h : Nat → Option AObj} {k : Nat} {p q : Pos} {x : Str} {v : V} {fs : List (Str × V)} {l : Nat}, h i = some (.inst fs) → x ≠ wName → pi02.fields.contains x = true → fs.length < l → l ≤ 100 →
      assignV pi02 (phi pi02 (n + 1)) { names := f2_init.scope.names, hd := false } (.Attribute (.Name "self" p) x q) v ⟨h, k, fun x => (f2_init.params.zip [V.ref i, V.int m, V.int w]).lookup x⟩ = .ok () ⟨upd h i (.inst (putR x v fs)), k, fun x => (f2_init.params.zip [V.ref i, V.int m, V.int w]).lookup x⟩ := fun h1 h2 h3 h4 h5 => a_attr nm h1 h2 ⟨h3, Nat.lt_of_lt_of_le h4 h5⟩
  refine' ⟨_, body_ok (f := .next) ⟨rfl, by decide⟩ ?run, ?c0, ?cl, ?c1, ?c2, ?c3, ?c4⟩
  case run =>
    have l0 : ([] : List (Str × V)).length < 1 := Nat.zero_lt_one
    have l1 := len_put (x := "stream_id") (v := .int m) l0
    have l2 := len_put (x := "_weight") (v := .int w) l1
    have l3 := len_put (x := "children") (v := .ref st.next) l2
    have l4 := len_put (x := "parent") (v := .none) l3
    have l5 := len_put (x := "child_queue") (v := .ref (st.next + 1)) l4
    have l6 := len_put (x := "active") (v := .bool true) l5
    have l7 := len_put (x := "last_weight") (v := .int 0) l6
    refine s_cons (s_assign rfl (b_name (by decide) n_initN rfl) (at_ ha (by decide) (by decide) l0 (by decide))) ?_
    refine s_cons (s_assign rfl (b_name (by decide) n_initW rfl) (a_attrW nm (upd_same _ _ _) (callSet ((setW_run (upd_same _ _ _) (Nat.lt_of_lt_of_le l1 (by decide))).1 hw)))) ?_
    refine s_cons (s_assign rfl (b_list rfl b_nil) (at_ ((upd_other n1).trans (upd_same _ _ _)) (by decide) (by decide) l2 (by decide))) ?_
    refine s_cons (s_assign rfl b_none (at_ (upd_same _ _ _) (by decide) (by decide) l3 (by decide))) ?_
    refine s_cons (s_assign rfl (b_list rfl b_nil) (at_ ((upd_other n2).trans (upd_same _ _ _)) (by decide) (by decide) l4 (by decide))) ?_
    refine s_cons (s_assign rfl b_bool (at_ (upd_same _ _ _) (by decide) (by decide) l5 (by decide))) ?_
    refine s_cons (s_assign rfl b_int (at_ (upd_same _ _ _) (by decide) (by decide) l6 (by decide))) ?_
    exact s_cons (s_assign rfl b_int (at_ (upd_same _ _ _) (by decide) (by decide) l7 (by decide))) s_nil
  case c0 => exact congrArg (· + 2) hi
  case cl => rfl
  case c1 =>
    refine (upd_same _ _ _).trans ?_
    have e : st.next + 1 = i + 2 := congrArg (· + 1) hi
    have e0 : st.next = i + 1 := hi
    show some (AObj.inst [("stream_id", .int m), ("_weight", .int w), ("children", .ref st.next), ("parent", .none), ("child_queue", .ref (st.next + 1)), ("active", .bool true), ("last_weight", .int 0), ("_deficit", .int 0)]) = _
    rw [e0]
    rfl
  case c2 =>
    have a1 : i + 1 ≠ i := Nat.succ_ne_self i
    have a2 : i + 1 ≠ st.next + 1 := by omega
    refine (upd_other a1).trans ((upd_other a1).trans ((upd_other a1).trans ((upd_other a1).trans ((upd_other a2).trans ((upd_other a1).trans ((upd_other a1).trans ?_))))))
    rw [← hi]
    exact upd_same _ _ _
  case c3 =>
    have a1 : i + 2 ≠ i := by omega
    refine (upd_other a1).trans ((upd_other a1).trans ((upd_other a1).trans ((upd_other a1).trans ?_)))
    have e : i + 2 = st.next + 1 := (congrArg (· + 1) hi).symm
    rw [e]
    exact upd_same _ _ _
  case c4 =>
    intro j hj
    have a1 : j ≠ i := Nat.ne_of_lt hj
    have a2 : j ≠ st.next := by omega
    have a3 : j ≠ st.next + 1 := by omega
    exact (upd_other a1).trans ((upd_other a1).trans ((upd_other a1).trans ((upd_other a1).trans ((upd_other a3).trans ((upd_other a1).trans ((upd_other a1).trans ((upd_other a2).trans ((upd_other a1).trans (upd_other a1)))))))))

theorem init_exc {n i : Nat} {st : S} {m w : Int} (ha : st.heap i = some (.inst [])) (hi : st.next = i + 1) (hw : ¬ (1 ≤ w ∧ w ≤ 256)) :
    ∃ st', bodyM pi02 (phi pi02 (n + 1)) false f2_init [.ref i, .int m, .int w] st = .exc .weight st' ∧ st'.next = i + 1 ∧ st'.loc = st.loc ∧ ∀ j, j < i → st'.heap j = st.heap j := by
  have nm : ∀ {h : Nat → Option AObj} {k : Nat} {p : Pos}, denE pi02 (phi pi02 (n + 1)) { names := f2_init.scope.names, hd := false } (.Name "self" p) ⟨h, k, fun x => (f2_init.params.zip [V.ref i, V.int m, V.int w]).lookup x⟩ = .ok (.ref i) ⟨h, k, fun x => (f2_init.params.zip [V.ref i, V.int m, V.int w]).lookup x⟩ := b_name (by decide) n_initS rfl
  refine' ⟨_, body_exc ⟨rfl, by decide⟩ ?run, ?c0, ?cl, ?c4⟩
  case run =>
    have l1 := len_put (x := "stream_id") (v := .int m) (fs := []) Nat.zero_lt_one
    refine s_cons (s_assign rfl (b_name (by decide) n_initN rfl) (a_attr nm ha (by decide) ⟨by decide, show (0 : Nat) < 100 by decide⟩)) ?_
    exact s_flies (s_assignx rfl (b_name (by decide) n_initW rfl) (a_attrWx nm (upd_same _ _ _) (callSet ((setW_run (upd_same _ _ _) (Nat.lt_of_lt_of_le l1 (by decide))).2 hw))))
  case c0 => exact hi
  case cl => rfl
  case c4 => exact fun j hj => upd_other (Nat.ne_of_lt hj)

theorem phi_init (n : Nat) (hd : Bool) (vs : List V) : phi pi02 (n + 1) hd (.meth "__init__") vs = bodyM pi02 (phi pi02 n) hd f2_init vs := rfl

theorem new_run (n : Nat) (st : S) (m w : Int) (args : List V) (hargs : args = [.int m, .int w] ∨ (args = [.int m] ∧ w = 16)) :
    (1 ≤ w ∧ w ≤ 256 → ∃ st', newM pi02 (phi pi02 (n + 2)) false args st = .ok (.ref st.next) st' ∧ st'.next = st.next + 3 ∧ st'.loc = st.loc ∧ st'.heap st.next = some (.inst (newFs st.next m w)) ∧ st'.heap (st.next + 1) = some (.list []) ∧ st'.heap (st.next + 2) = some (.list []) ∧ ∀ j, j < st.next → st'.heap j = st.heap j) ∧
    (¬ (1 ≤ w ∧ w ≤ 256) → ∃ st', newM pi02 (phi pi02 (n + 2)) false args st = .exc .weight st' ∧ st'.next = st.next + 1 ∧ st'.loc = st.loc ∧ ∀ j, j < st.next → st'.heap j = st.heap j) := by
  have e : callF pi02 (phi pi02 (n + 2)) false (.meth "__init__") (.ref st.next :: args) [] = bodyM pi02 (phi pi02 (n + 1)) false f2_init [.ref st.next, .int m, .int w] := by
    rcases hargs with rfl | ⟨rfl, rfl⟩ <;> rfl
  have ea : upd st.heap st.next (.inst []) st.next = some (.inst []) := upd_same _ _ _
  have lo : ∀ j, j < st.next → upd st.heap st.next (.inst []) j = st.heap j := fun j hj => upd_other (Nat.ne_of_lt hj)
  constructor
  · intro hw
    obtain ⟨st', a, b, c, d, f, g, k⟩ := init_ok (n := n) (st := { st with heap := upd st.heap st.next (.inst []), next := st.next + 1 }) (m := m) ea rfl hw
    refine ⟨st', b_seq (m := al (.inst [])) rfl (b_seq (show callF _ _ _ _ _ _ _ = _ from (congrFun e _).trans a) rfl), b, c, d, f, g, fun j hj => (k j hj).trans (lo j hj)⟩
  · intro hw
    obtain ⟨st', a, b, c, k⟩ := init_exc (n := n) (st := { st with heap := upd st.heap st.next (.inst []), next := st.next + 1 }) (m := m) ea rfl hw
    refine ⟨st', b_seq (m := al (.inst [])) rfl (b_bindx (show callF _ _ _ _ _ _ _ = _ from (congrFun e _).trans a)), b, c, fun j hj => (k j hj).trans (lo j hj)⟩
end Mine
end

section
open PySem
set_option maxRecDepth 100000
set_option linter.unusedVariables false
namespace Mine

section
variable {P : PI} {Φ : Phi} {ev : AEnv} {st s1 : S}
theorem s_tryOk {b : List Stmt} {h : ExceptHandler} {hs : List ExceptHandler} {p : Pos} {f : Flow} (hd : ev.hd = false) (hb : denSs P Φ ev b st = .ok f s1) : denS P Φ ev (.Try b (h :: hs) [] [] p) st = .ok f s1 :=
  b_if (c := (true && true && !ev.hd && true) = true) (m := tryM (denSs P Φ ev b) (denHs P Φ ev (h :: hs))) (m' := failM) (by rw [hd]; rfl) (by unfold tryM; rw [hb])
theorem s_tryX {b : List Stmt} {q hp p : Pos} {b0 : Stmt} {bs : List Stmt} {hs : List ExceptHandler} {r : R Flow} (hd : ev.hd = false) (hg : isGlobal ev ("BadWeightError" : Str) = true) (hb : denSs P Φ ev b st = .exc .weight s1) (h : denSs P Φ (withHd ev true) (b0 :: bs) s1 = r) :
    denS P Φ ev (.Try b (.ExceptHandler (some (.Name "BadWeightError" q)) none (b0 :: bs) hp :: hs) [] [] p) st = r :=
  b_if (c := (true && true && !ev.hd && true) = true) (m := tryM (denSs P Φ ev b) (denHs P Φ ev (.ExceptHandler (some (.Name "BadWeightError" q)) none (b0 :: bs) hp :: hs))) (m' := failM) (by rw [hd]; rfl) (by
    unfold tryM
    rw [hb]
    exact b_if (c := (true && (isGlobal ev ("BadWeightError" : Str) && true) && true) = true) (m := denSs P Φ (withHd ev true) (b0 :: bs)) (m' := failM) (by rw [hg]; rfl) h)
end

theorem n_newN : f2_new.scope.names.lookup ("number" : Str) = some NameKind.local := by decide
theorem n_newW : f2_new.scope.names.lookup ("weight" : Str) = some NameKind.local := by decide
theorem lnew_run (n : Nat) (st : S) (m w : Int) :
    (1 ≤ w ∧ w ≤ 256 → ∃ st', bodyM pi02 (phi pi02 (n + 2)) false f2_new [.int m, .int w] st = .ok (.ref st.next) st' ∧ st'.next = st.next + 3 ∧ st'.loc = st.loc ∧ st'.heap st.next = some (.inst (newFs st.next m w)) ∧ st'.heap (st.next + 1) = some (.list []) ∧ st'.heap (st.next + 2) = some (.list []) ∧ ∀ j, j < st.next → st'.heap j = st.heap j) ∧
    (¬ (1 ≤ w ∧ w ≤ 256) → ∃ st', bodyM pi02 (phi pi02 (n + 2)) false f2_new [.int m, .int w] st = .ok .none st' ∧ st'.next = st.next + 1 ∧ st'.loc = st.loc ∧ ∀ j, j < st.next → st'.heap j = st.heap j) := by
  have R := new_run n { st with loc := fun x => (f2_new.params.zip [V.int m, V.int w]).lookup x } m w [.int m, .int w] (.inl rfl)
  constructor
  · intro hw
    obtain ⟨st', a, b, c, d⟩ := R.1 hw
    refine ⟨_, body_ok (f := .ret (.ref st.next)) (s' := st') ⟨rfl, by decide⟩ ?_, b, rfl, d⟩
    exact s_ends (s_tryOk rfl (s_ends (s_ret (b_call (glob_of (by decide)) rfl (by decide) (by decide) (b_cons (b_name (by decide) n_newN rfl) (b_cons (b_name (by decide) n_newW rfl) b_nil)) a))))
  · intro hw
    obtain ⟨st', a, b, c, d⟩ := R.2 hw
    refine ⟨_, body_ok (f := .ret .none) (s' := st') ⟨rfl, by decide⟩ ?_, b, rfl, d⟩
    exact s_ends (s_tryX rfl (glob_of (by decide)) (s_flies (s_retx (b_call (glob_of (by decide)) rfl (by decide) (by decide) (b_cons (b_name (by decide) n_newN rfl) (b_cons (b_name (by decide) n_newW rfl) b_nil)) a))) (s_ends (s_ret b_none)))

theorem n_putS : f2_put.scope.names.lookup ("stream" : Str) = some NameKind.local := by decide
theorem n_putW : f2_put.scope.names.lookup ("weight" : Str) = some NameKind.local := by decide
theorem lput_run (n a : Nat) (st : S) (fa : List (Str × V)) (w : Int) (ha : st.heap a = some (.inst fa)) (hl : fa.length < 100) :
    (1 ≤ w ∧ w ≤ 256 → bodyM pi02 (phi pi02 (n + 1)) false f2_put [.ref a, .int w] st = .ok (.ref a) { st with heap := upd st.heap a (.inst (putR "_weight" (.int w) fa)) }) ∧
    (¬ (1 ≤ w ∧ w ≤ 256) → bodyM pi02 (phi pi02 (n + 1)) false f2_put [.ref a, .int w] st = .ok .none st) := by
  have R := setW_run (n := n) (st := { st with loc := fun x => (f2_put.params.zip [V.ref a, V.int w]).lookup x }) (w := w) ha hl
  constructor
  · intro hw
    refine body_ok (f := .ret (.ref a)) (s' := { st with heap := upd st.heap a (.inst (putR "_weight" (.int w) fa)), loc := fun x => (f2_put.params.zip [V.ref a, V.int w]).lookup x }) ⟨rfl, by decide⟩ ?_
    exact s_cons (s_tryOk rfl (s_cons (s_assign rfl (b_name (by decide) n_putW rfl) (a_attrW (b_name (by decide) n_putS rfl) ha (callSet (R.1 hw)))) s_nil)) (s_ends (s_ret (b_name (by decide) n_putS rfl)))
  · intro hw
    refine body_ok (f := .ret .none) (s' := { st with loc := fun x => (f2_put.params.zip [V.ref a, V.int w]).lookup x }) ⟨rfl, by decide⟩ ?_
    exact s_ends (s_tryX rfl (glob_of (by decide)) (s_flies (s_assignx rfl (b_name (by decide) n_putW rfl) (a_attrWx (b_name (by decide) n_putS rfl) ha (callSet (R.2 hw))))) (s_ends (s_ret b_none)))

theorem n_pushQ : f2_push.scope.names.lookup ("queue" : Str) = some NameKind.local := by decide
theorem n_pushI : f2_push.scope.names.lookup ("item" : Str) = some NameKind.local := by decide
theorem n_pushP : f2_push.scope.names.lookup ("place" : Str) = some NameKind.local := by decide
theorem lenOf {i : Nat} {xs : List V} {st : S} (h : st.heap i = some (.list xs)) (hl : xs.length < 100000) : lenV (.ref i) st = .ok (.int xs.length) st := b_ref (b_seq (rdL_at h) (b_if hl rfl))
theorem push_run0 (n q : Nat) (st : S) (v : V) (hq : st.heap q = some (.list [])) : ∃ st', bodyM pi02 (phi pi02 n) false f2_push [.ref q, v] st = .ok .none st' ∧ st'.next = st.next ∧ st'.loc = st.loc ∧ st'.heap q = some (.list [v]) ∧ ∀ j, j ≠ q → st'.heap j = st.heap j := by
  have nm : ∀ {h : Nat → Option AObj} {k : Nat} {p : Pos}, denE pi02 (phi pi02 n) { names := f2_push.scope.names, hd := false } (.Name "queue" p) ⟨h, k, fun x => (f2_push.params.zip [V.ref q, v]).lookup x⟩ = .ok (.ref q) ⟨h, k, fun x => (f2_push.params.zip [V.ref q, v]).lookup x⟩ := b_name (by decide) n_pushQ rfl
  refine' ⟨_, body_ok (f := .next) ⟨rfl, by decide⟩ ?run, ?c0, ?cl, ?c1, ?c2⟩
  case run =>
    refine s_cons (s_expr rfl (b_append (by decide) rfl nm hq (b_cons (b_name (by decide) n_pushI rfl) b_nil) hq (by decide))) ?_
    refine s_cons (s_assign rfl (b_bin (b_call (glob_of (by decide)) rfl (by decide) (by decide) (b_cons nm b_nil) (lenOf (upd_same _ _ _) (by show (1 : Nat) < 100000; decide))) b_int b_sub) (a_name n_pushP)) ?_
    refine s_cons (s_whileF (t_andF (t_cmp (b_name (by decide) n_pushP rfl) b_int rfl))) ?_
    exact s_cons (s_assign rfl (b_name (by decide) n_pushI rfl) (a_sub (b_name (by decide) n_pushQ rfl) (b_name (by decide) n_pushP rfl) (upd_same _ _ _) ⟨show (0 : Int) ≤ ((1 : Nat) : Int) - 1 by decide, show (0 : Nat) < 1 by decide, show ((1 : Nat) : Int) - 1 < 1000 by decide⟩)) s_nil
  case c0 => rfl
  case cl => rfl
  case c1 => exact upd_same _ _ _
  case c2 => exact fun j hj => (upd_other hj).trans (upd_other hj)

theorem n_addS : f2_add.scope.names.lookup ("self" : Str) = some NameKind.local := by decide
theorem n_addC : f2_add.scope.names.lookup ("child" : Str) = some NameKind.local := by decide
/-- the first dependent -/
theorem add_run0 (n a b ca qa : Nat) (st : S) (fa fb : List (Str × V)) (lw : V) (ha : st.heap a = some (.inst fa)) (hb : st.heap b = some (.inst fb)) (hab : a ≠ b) (hc : getR "children" fa = some (.ref ca)) (hq : getR "child_queue" fa = some (.ref qa)) (hlw : getR "last_weight" fa = some lw)
    (hca : st.heap ca = some (.list [])) (hqa : st.heap qa = some (.list [])) (hcq : ca ≠ qa) (ltc : ca < st.next) (ltq : qa < st.next) (lta : a < st.next) (ltb : b < st.next) (hl : fb.length < 100) :
    ∃ st', bodyM pi02 (phi pi02 (n + 1)) false f2_add [.ref a, .ref b] st = .ok .none st' ∧ st'.next = st.next + 1 ∧ st'.loc = st.loc ∧ ∀ j, j < st.next → j ≠ b → j ≠ ca → j ≠ qa → st'.heap j = st.heap j := by
  have c1 : ca ≠ a := by rintro rfl; rw [ha] at hca; cases hca
  have c2 : ca ≠ b := by rintro rfl; rw [hb] at hca; cases hca
  have c4 : qa ≠ b := by rintro rfl; rw [hb] at hqa; cases hqa
  have h1 : upd st.heap b (.inst (putR "parent" (.ref a) fb)) a = some (.inst fa) := (upd_other hab).trans ha
  have h2 : upd (upd st.heap b (.inst (putR "parent" (.ref a) fb))) ca (.list ([] ++ [.ref b])) a = some (.inst fa) := (upd_other (Ne.symm c1)).trans h1
  have h3 : upd (upd (upd st.heap b (.inst (putR "parent" (.ref a) fb))) ca (.list ([] ++ [.ref b]))) st.next (.tup [lw, .ref b]) qa = some (.list []) := (upd_other (Nat.ne_of_lt ltq)).trans ((upd_other (Ne.symm hcq)).trans ((upd_other c4).trans hqa))
  obtain ⟨st', k1, k2, k3, k4, k5⟩ := push_run0 n qa ⟨upd (upd (upd st.heap b (.inst (putR "parent" (.ref a) fb))) ca (.list ([] ++ [.ref b]))) st.next (.tup [lw, .ref b]), st.next + 1, fun x => (f2_add.params.zip [V.ref a, V.ref b]).lookup x⟩ (.ref st.next) h3
  refine ⟨_, body_ok (f := .next) (s' := st') ⟨rfl, by decide⟩ ?_, k2, rfl, fun j j1 j2 j3 j4 => (k5 j j4).trans ((upd_other (Nat.ne_of_lt j1)).trans ((upd_other j3).trans (upd_other j2)))⟩
  have nm : ∀ {h : Nat → Option AObj} {k : Nat} {p : Pos}, denE pi02 (phi pi02 (n + 1)) { names := f2_add.scope.names, hd := false } (.Name "self" p) ⟨h, k, fun x => (f2_add.params.zip [V.ref a, V.ref b]).lookup x⟩ = .ok (.ref a) ⟨h, k, fun x => (f2_add.params.zip [V.ref a, V.ref b]).lookup x⟩ := b_name (by decide) n_addS rfl
  have nc : ∀ {h : Nat → Option AObj} {k : Nat} {p : Pos}, denE pi02 (phi pi02 (n + 1)) { names := f2_add.scope.names, hd := false } (.Name "child" p) ⟨h, k, fun x => (f2_add.params.zip [V.ref a, V.ref b]).lookup x⟩ = .ok (.ref b) ⟨h, k, fun x => (f2_add.params.zip [V.ref a, V.ref b]).lookup x⟩ := b_name (by decide) n_addC rfl
  refine s_cons (s_assign rfl nm (a_attr nc hb (by decide) ⟨by decide, hl⟩)) ?_
  refine s_cons (s_expr rfl (b_append (by decide) rfl (b_attr rfl nm h1 (by decide) (by decide) hc) ((upd_other c2).trans hca) (b_cons nc b_nil) ((upd_other c2).trans hca) (by decide))) ?_
  exact s_cons (s_expr rfl (b_call (glob_of (by decide)) rfl (by decide) (by decide) (b_cons (b_attr rfl nm h2 (by decide) (by decide) hq) (b_cons (b_tuple rfl (b_cons (b_attr rfl nm h2 (by decide) (by decide) hlw) (b_cons nc b_nil))) b_nil)) k1)) s_nil
end Mine
end

section
open PySem
set_option maxRecDepth 100000
set_option linter.unusedVariables false
set_option linter.unusedSimpArgs false
namespace Mine

/-- what a run of the interpreter gives, when it gives a value -/
noncomputable def Wp {α : Type} (m : M α) (s : S) (Q : α → S → Prop) : Prop := ∃ a s', m s = .ok a s' ∧ Q a s'

theorem Wp_of {α : Type} {m : M α} {s s' : S} {a : α} {Q : α → S → Prop} (h : m s = .ok a s') (q : Q a s') : Wp m s Q := ⟨a, s', h, q⟩
theorem Wp_mono {α : Type} {m : M α} {s : S} {Q Q' : α → S → Prop} (h : Wp m s Q) (f : ∀ a s', Q a s' → Q' a s') : Wp m s Q' := by
  obtain ⟨a, s', e, q⟩ := h
  exact ⟨a, s', e, f _ _ q⟩
theorem Wp_seq {α β : Type} {m : M α} {f : α → M β} {s s' : S} {a : α} {Q : β → S → Prop} (h : m s = .ok a s') (h' : Wp (f a) s' Q) : Wp (m >>= f) s Q := by
  obtain ⟨b, t, e, q⟩ := h'
  exact ⟨b, t, b_seq h e, q⟩
theorem noExc_ok {α : Type} {m : M α} {s s' : S} {a : α} (h : m s = .ok a s') : noExc m s = .ok a s' := by
  unfold noExc
  rw [h]

/-! loops -/
theorem Wp_loopAt {I : Nat → S → Prop} {n : Nat} {next : Nat → M Bool} {body : M Flow} {Q : Flow → S → Prop}
    (ht : ∀ k s, k < n → I k s → ∃ s', next k s = .ok true s' ∧ Wp body s' fun (f : Flow) s'' => f = .next ∧ I (k + 1) s'')
    (hf : ∀ s, I n s → next n s = .ok false s) (hQ : ∀ s', I n s' → Q .next s') : ∀ (fuel k : Nat) (s : S), I k s → k ≤ n → n < k + fuel → Wp (loopD fuel next body k) s Q
  | 0, k, s, _, h1, h2 => absurd h2 (Nat.not_lt.mpr h1)
  | fuel + 1, k, s, hI, h1, h2 => by
    rcases Nat.lt_or_ge k n with hk | hk
    · obtain ⟨s', e, f, s'', e', rfl, hI'⟩ := ht k s hk hI
      obtain ⟨a, t, e2, q⟩ := Wp_loopAt ht hf hQ fuel (k + 1) s'' hI' hk (by rw [Nat.add_assoc, Nat.add_comm 1]; exact h2)
      exact ⟨a, t, b_seq e (b_if rfl (b_seq e' e2)), q⟩
    · obtain rfl : k = n := Nat.le_antisymm h1 hk
      exact ⟨.next, s, b_seq (hf s hI) (b_ifn Bool.false_ne_true rfl), hQ s hI⟩

theorem Wp_loop (I : Nat → S → Prop) {ev : AEnv} {i : Nat} {x : Str} {p : Pos} {xs : List V} {body : M Flow} {Q : Flow → S → Prop} {s : S} (hx : ev.names.lookup x = some .local)
    (h0 : I 0 s) (hlen : xs.length < 100) (hl : ∀ k s, I k s → s.heap i = some (.list xs))
    (step : ∀ k (hk : k < xs.length) s, I k s → Wp body { s with loc := updL s.loc x xs[k] } fun (f : Flow) s' => f = .next ∧ I (k + 1) s')
    (hQ : ∀ s', I xs.length s' → Q .next s') : Wp (loopD wlim (nextIt i (targetV ev (.Name x p))) body 0) s Q :=
  Wp_loopAt (fun k s hk hI => ⟨_, b_seq (rdL_at (hl k s hI)) (by rw [List.getElem?_eq_getElem hk]; exact b_seq (b_store hx) rfl), step k hk s hI⟩)
    (fun s hI => b_seq (rdL_at (hl _ s hI)) (by rw [List.getElem?_eq_none (Nat.le_refl _)]; rfl)) hQ wlim 0 s h0 (Nat.zero_le _) (by rw [Nat.zero_add]; exact hlen)

theorem Wp_loopZ (I : Nat → S → Prop) {ev : AEnv} {i j : Nat} {x y : Str} {xs ys : List V} {body : M Flow} {Q : Flow → S → Prop} {s : S} (hx : ev.names.lookup x = some .local) (hy : ev.names.lookup y = some .local)
    (h0 : I 0 s) (hlen : xs.length < 100) (hxy : xs.length = ys.length) (hl : ∀ k s, I k s → s.heap i = some (.list xs) ∧ s.heap j = some (.list ys))
    (step : ∀ k (hk : k < xs.length) (hk' : k < ys.length) s, I k s → Wp body { s with loc := updL (updL s.loc x xs[k]) y ys[k] } fun (f : Flow) s' => f = .next ∧ I (k + 1) s')
    (hQ : ∀ s', I xs.length s' → Q .next s') : Wp (loopD wlim (nextZ ev i j x y) body 0) s Q :=
  Wp_loopAt (fun k s hk hI => ⟨_, b_seq (rdL_at (hl k s hI).1) (b_seq (rdL_at (hl k s hI).2) (by rw [List.getElem?_eq_getElem hk, List.getElem?_eq_getElem (hxy ▸ hk)]; exact b_seq (b_seq (b_store hx) (b_store hy)) rfl)), step k hk (hxy ▸ hk) s hI⟩)
    (fun s hI => b_seq (rdL_at (hl _ s hI).1) (b_seq (rdL_at (hl _ s hI).2) (by rw [List.getElem?_eq_none (Nat.le_refl _), List.getElem?_eq_none (Nat.le_of_eq hxy.symm)]; rfl))) hQ wlim 0 s h0 (Nat.zero_le _) (by rw [Nat.zero_add]; exact hlen)

/-! comparisons -/
theorem eqD_same {h : Nat → Option AObj} {a b : V} {d : PyData} (ha : pyOf depthLim h a = some d) (hb : pyOf depthLim h b = some d) (hs : SeqAt.shaped d = true) : eqD h a b = some true := by
  unfold eqD
  rw [ha, hb]
  show (if (SeqAt.shaped d && SeqAt.shaped d) = true then some (PyData.eqv d d) else none) = _
  rw [hs, SeqAt.eqv_refl d (SeqAt.canLay_of_shaped hs)]
  rfl

/-- the heap below a bound stays -/
noncomputable def Stay (s s' : S) : Prop := s.next ≤ s'.next ∧ ∀ j, j < s.next → s'.heap j = s.heap j
theorem Stay.refl (s : S) : Stay s s := ⟨Nat.le_refl _, fun _ _ => rfl⟩
theorem Stay.trans {s s' s'' : S} (h : Stay s s') (h' : Stay s' s'') : Stay s s'' := ⟨Nat.le_trans h.1 h'.1, fun j hj => (h'.2 j (Nat.lt_of_lt_of_le hj h.1)).trans (h.2 j hj)⟩

noncomputable def lawS (k : Nat) : Stmt := f2_law.body.getD k (.Pass default)
theorem law_body : f2_law.body = [lawS 0, lawS 1, lawS 2, lawS 3, lawS 4, lawS 5, lawS 6, lawS 7, lawS 8, lawS 9] := rfl
noncomputable def lawEv : AEnv := { names := f2_law.scope.names, hd := false }
theorem Wp_Ss {ev : AEnv} {P : PI} {Φ : Phi} {s : Stmt} {r : List Stmt} {st : S} {Q : Flow → S → Prop} (h : Wp (denS P Φ ev s) st fun (f : Flow) s' => f = .next ∧ Wp (denSs P Φ ev r) s' Q) : Wp (denSs P Φ ev (s :: r)) st Q := by
  obtain ⟨f, s', e, rfl, b, t, e', q⟩ := h
  exact ⟨b, t, s_cons e e', q⟩
end Mine
end

section
open PySem
set_option maxRecDepth 100000
set_option linter.unusedVariables false
set_option linter.unusedSimpArgs false
namespace Mine

noncomputable def st02 (ns : List Int) : S := { heap := fun i => if i = 0 then some (.ro (ns.map .int)) else none, next := 1, loc := fun x => if x = ("script" : Str) then some (.ref 0) else none }
noncomputable def res02 (ns : List Int) : R Flow := denSs pi02 (phi pi02 20) { names := f2_law.scope.names, hd := false } f2_law.body (st02 ns)

structure P0 (ns zs : List Int) (nid : Nat) (st : S) : Prop where
  l1 : st.loc "script" = some (.ref 0)
  l2 : st.loc "numbers" = some (.ref nid)
  h0 : st.heap 0 = some (.ro (ns.map .int))
  hn : st.heap nid = some (.list (zs.map .int))
  p0 : 0 < st.next
  pn : nid < st.next
  len : zs.length ≤ 5

section
variable {P : PI} {Φ : Phi} {ev : AEnv} {st s1 s2 s3 : S}
theorem b_slice {v e : Expr} {p q : Pos} {o b : V} {r : R V} (h : denE P Φ ev v st = .ok o s1) (h2 : denE P Φ ev e s1 = .ok b s3) (h3 : sliceV o b s3 = r) : denE P Φ ev (.Subscript v (.Slice none (some e) none q) p) st = r :=
  b_if (c := (true && true) = true) (m := denE P Φ ev v >>= fun o => denOpt P Φ ev (some e) >>= fun b => sliceV o b) (m' := failM) rfl (b_seq h (b_seq (m := denOpt P Φ ev (some e)) h2 h3))
theorem sl_at {i : Nat} {xs : List V} {b : Int} (h : rdS i st = .ok xs st) (hb : 0 ≤ b ∧ b < 1000 ∧ xs.length < 100000) : sliceV (.ref i) (.int b) st = .ok (.ref st.next) { st with heap := upd st.heap st.next (.list (xs.take b.toNat)), next := st.next + 1 } := b_ref (b_seq (b_get rfl) (b_seq h (b_if hb rfl)))
theorem t_name {x : Str} {p : Pos} {m : M V} {v : V} {b : Bool} (h : m st = .ok v s1) (h' : truthyV v s1 = .ok b s2) : denT P Φ ev (.Name x p) m st = .ok b s2 := b_seq h h'
theorem tr_ro {i : Nat} {xs : List V} (h : st.heap i = some (.ro xs)) (hl : xs.length < 100000) : truthyV (.ref i) st = .ok (!xs.isEmpty) st := b_seq (rdS_ro h) (b_if hl rfl)
end

theorem itOf_at {L : Nat} {xs : List V} {s : S} (h : s.heap L = some (.list xs)) : itOf (.ref L) s = .ok L s := b_ref (b_seq (rdL_at h) rfl)

theorem Wp_comp (x : Str) {ev : AEnv} {sc : Scope} {elt it : Expr} {p pos : Pos} {xs : List V} {s s1 : S} {L : Nat} {Q : V → S → Prop} (Good : Nat → List V → S → Prop)
    (hhd : ev.hd = false) (hco : compOk sc = true) (hx : sc.names.lookup x = some NameKind.local)
    (hit : denE pi02 (phi pi02 20) ev it s = .ok (.ref L) s1) (hL : L < s1.next) (hh : s1.heap L = some (.list xs)) (len : xs.length < 100)
    (hG0 : ∀ st, Good 0 [] st)
    (hG : ∀ k ws st st', Good k ws st → st.next ≤ st'.next → (∀ j, s1.next < j → j < st.next → st'.heap j = st.heap j) → Good k ws st')
    (step : ∀ k (hk : k < xs.length) ws st, ws.length = k → Stay s1 st → s1.next < st.next → st.heap s1.next = some (.list ws) → Good k ws st → st.loc x = some xs[k] →
      Wp (denE pi02 (phi pi02 20) (compEnv ev sc) elt) st fun w st' => Stay st st' ∧ Good (k + 1) (ws ++ [w]) st')
    (hQ : ∀ ws s', s'.loc = s1.loc → Stay s1 s' → s1.next < s'.next → s'.heap s1.next = some (.list ws) → ws.length = xs.length → Good xs.length ws s' → Q (.ref s1.next) s') :
    Wp (denE pi02 (phi pi02 20) ev (.ListComp elt [⟨.Name x p, it, [], 0⟩] sc pos)) s Q := by
  have loop : Wp (loopD wlim (nextIt L (targetV (compEnv ev sc) (.Name x p))) (compTurnM s1.next (denE pi02 (phi pi02 20) (compEnv ev sc) elt)) 0) ⟨upd s1.heap s1.next (.list []), s1.next + 1, fun _ => none⟩ fun _ s' => Q (.ref s1.next) { s' with loc := s1.loc } := by
    refine Wp_loop (fun k st => ∃ ws, ws.length = k ∧ Stay s1 st ∧ s1.next < st.next ∧ st.heap s1.next = some (.list ws) ∧ Good k ws st) hx ?h0 len ?hl ?step ?hQ
    case h0 => exact ⟨[], rfl, ⟨Nat.le_succ _, fun j hj => upd_other (Nat.ne_of_lt hj)⟩, Nat.lt_succ_self _, upd_same _ _ _, hG0 _⟩
    case hl => exact fun k st ⟨ws, _, hs, _⟩ => (hs.2 L hL).trans hh
    case hQ => exact fun st ⟨ws, h1, h2, h3, h4, h5⟩ => hQ ws { st with loc := s1.loc } rfl h2 h3 h4 h1 (hG _ _ _ _ h5 (Nat.le_refl _) fun _ _ _ => rfl)
    case step =>
      rintro k hk st ⟨ws, h1, h2, h3, h4, h5⟩
      obtain ⟨w, st', e, g1, g2⟩ := step k hk ws { st with loc := updL st.loc x xs[k] } h1 h2 h3 h4 (hG _ _ _ _ h5 (Nat.le_refl _) fun _ _ _ => rfl) updL_same
      refine ⟨.next, _, b_seq e (b_seq (app_at ((g1.2 _ h3).trans h4) (by rw [h1]; exact Nat.lt_trans hk (Nat.lt_trans len (by decide)))) rfl), rfl, ws ++ [w], by rw [List.length_append, h1]; rfl, ⟨Nat.le_trans h2.1 g1.1, fun j hj => ?_⟩, Nat.lt_of_lt_of_le h3 g1.1, upd_same _ _ _, hG _ _ _ _ g2 (Nat.le_refl _) fun j hj _ => upd_other (Nat.ne_of_gt hj)⟩
      exact (upd_other (Nat.ne_of_lt hj)).trans ((g1.2 j (Nat.lt_of_lt_of_le hj h2.1)).trans (h2.2 j hj))
  obtain ⟨f, s2, e2, q⟩ := loop
  exact ⟨_, _, b_if (c := (true && true && true && compOk sc && !ev.hd) = true) (m := denE pi02 (phi pi02 20) ev it >>= fun y => compRest (compEnv ev sc) (.Name x p) (denE pi02 (phi pi02 20) (compEnv ev sc) elt) y) (m' := failM) (by rw [hco, hhd]; rfl)
    (b_seq hit (b_seq (itOf_at hh) (b_seq (m := al (.list [])) rfl (b_seq (m := getLoc) rfl (b_seq (m := setLoc fun _ => none) rfl (b_seq (noExc_ok e2) rfl)))))), q⟩

noncomputable def itS : Stmt → Expr
  | .Assign _ (.ListComp _ [⟨_, it, _, _⟩] _ _) _ => it
  | _ => .Name "" default

noncomputable def eltS : Stmt → Expr
  | .Assign _ (.ListComp e _ _ _) _ => e
  | _ => .Name "" default
noncomputable def scS : Stmt → Scope
  | .Assign _ (.ListComp _ _ sc _) _ => sc
  | _ => { kind := .function, names := [], isGenerator := false, isCoroutine := false }
noncomputable def tgS : Stmt → Expr
  | .Assign (t :: _) _ _ => t
  | _ => .Name "" default

theorem n_script : lawEv.names.lookup ("script" : Str) = some NameKind.local := by decide
theorem n_numbers : lawEv.names.lookup ("numbers" : Str) = some NameKind.local := by decide
theorem s_assignW {t v : Expr} {p : Pos} {st : S} {ev : AEnv} {Q : Flow → S → Prop} (hp : (!isComp v || (nameE t).isSome) = true) (h : Wp (denE pi02 (phi pi02 20) ev v) st fun a s1 => Wp (assignV pi02 (phi pi02 20) ev t a) s1 fun _ s2 => Q .next s2) : Wp (denS pi02 (phi pi02 20) ev (.Assign [t] v p)) st Q := by
  obtain ⟨a, s1, e1, u, s2, e2, q⟩ := h
  exact ⟨.next, s2, s_assign hp e1 e2, q⟩

theorem it0_run (ns : List Int) (h63 : ns.length ≤ 63) : ∃ (xs : List Int) (s1 : S) (L : Nat), denE pi02 (phi pi02 20) lawEv (itS (lawS 0)) (st02 ns) = .ok (.ref L) s1 ∧ L < s1.next ∧ s1.heap L = some (.list (xs.map .int)) ∧ xs.length ≤ 5 ∧ Stay (st02 ns) s1 ∧ s1.loc = (st02 ns).loc ∧ 0 < s1.next := by
  have h0 : (st02 ns).heap 0 = some (.ro (ns.map .int)) := rfl
  have hl : (ns.map V.int).length < 100000 := by rw [List.length_map]; omega
  by_cases hn : ns = []
  · subst hn
    refine ⟨[4, -4], _, 2, b_slice (b_ifexpF (t_name (b_name (by decide) n_script rfl) (tr_ro h0 hl)) (b_list rfl (b_cons b_int (b_cons (b_neg b_int) b_nil)))) b_int (sl_at (xs := [.int 4, .int (-4)]) (rdS_list heap_same) (by decide)), Nat.lt_succ_self _, heap_same (i := 2), by decide, ⟨Nat.le_add_right 1 2, fun j hj => ?_⟩, rfl, Nat.succ_pos _⟩
    have hj' : j < 1 := hj
    exact (upd_other (i := 2) (by omega)).trans (upd_other (i := 1) (by omega))
  · have he : (!(ns.map V.int).isEmpty) = true := by cases ns with | nil => exact absurd rfl hn | cons => rfl
    refine ⟨ns.take 5, _, 1, b_slice (b_ifexpT (t_name (b_name (by decide) n_script rfl) (he ▸ tr_ro h0 hl)) (b_name (by decide) n_script rfl)) b_int (sl_at (rdS_ro h0) ⟨by decide, by decide, hl⟩), Nat.lt_succ_self _, ?_, by rw [List.length_take]; omega, ⟨Nat.le_succ _, fun j hj => upd_other (Nat.ne_of_lt hj)⟩, rfl, Nat.succ_pos _⟩
    rw [List.map_take]
    exact heap_same (i := 1)

theorem elt0_run {ev : AEnv} {st : S} {z : Int} (e3 : ev.names.lookup ("number" : Str) = some NameKind.local) (e4 : ev.names.lookup ("abs" : Str) = some NameKind.globalImplicit) (hl : st.loc "number" = some (.int z)) : ∃ y : Int, denE pi02 (phi pi02 20) ev (eltS (lawS 0)) st = .ok (.int y) st := by
  have nm : ∀ {p : Pos}, denE pi02 (phi pi02 20) ev (.Name "number" p) st = .ok (.int z) st := b_name (by decide) e3 hl
  have ten : ∀ {a b : Nat} {p q r : Pos}, denE pi02 (phi pi02 20) ev (.BinOp (.Constant (.int 10) a p) .Pow (.Constant (.int 50) b q) r) st = .ok (.int (10 ^ (50 : Int).toNat)) st := b_bin b_int b_int (b_pow (by decide))
  by_cases hc : ((z.natAbs : Int) < 10 ^ (50 : Int).toNat)
  · exact ⟨z, b_ifexpT (t_cmp (b_call (glob_of e4) rfl (by decide) (by decide) (b_cons nm b_nil) rfl) ten (b_cmpLt.trans (by rw [decide_eq_true hc]))) nm⟩
  · exact ⟨_, b_ifexpF (t_cmp (b_call (glob_of e4) rfl (by decide) (by decide) (b_cons nm b_nil) rfl) ten (b_cmpLt.trans (by rw [decide_eq_false hc]))) (b_bin nm ten (b_mod (by decide)))⟩

theorem s0_run (ns : List Int) (h63 : ns.length ≤ 63) : Wp (denS pi02 (phi pi02 20) lawEv (lawS 0)) (st02 ns) fun f s' => f = .next ∧ ∃ zs nid, P0 ns zs nid s' := by
  obtain ⟨xs, s1, L, hit, hL, hh, hlen, hst, hloc, hnn⟩ := it0_run ns h63
  refine s_assignW (t := tgS (lawS 0)) (v := .ListComp (eltS (lawS 0)) [⟨.Name "number" _, itS (lawS 0), [], 0⟩] (scS (lawS 0)) _) rfl ?_
  refine Wp_comp "number" (fun k ws st => ∃ zs : List Int, ws = zs.map .int) rfl (by decide) (by decide) hit hL hh (by rw [List.length_map]; exact Nat.lt_of_le_of_lt hlen (by decide)) (fun st => ⟨[], rfl⟩) (fun _ _ _ _ h _ _ => h) ?step ?hQ
  case step =>
    rintro k hk ws st - - - - ⟨zs, rfl⟩ hl
    rw [List.getElem_map] at hl
    obtain ⟨y, hy⟩ := elt0_run (ev := compEnv lawEv (scS (lawS 0))) (by decide) (by decide) hl
    exact Wp_of hy ⟨Stay.refl st, zs ++ [y], by rw [List.map_append]; rfl⟩
  case hQ =>
    rintro ws s' q1 q2 q3 q4 q5 ⟨zs, rfl⟩
    refine Wp_of (a_name n_numbers) ?_
    have z0 : (0 : Nat) < (st02 ns).next := Nat.zero_lt_one
    rw [List.length_map, List.length_map] at q5
    refine ⟨rfl, zs, s1.next, (loc_other (by decide)).trans (by rw [q1, hloc]; rfl), loc_same, ?_, q4, Nat.lt_of_lt_of_le hnn q2.1, q3, q5 ▸ hlen⟩
    show s'.heap 0 = _
    rw [q2.2 0 hnn, hst.2 0 z0]
    rfl
end Mine
end

section
open PySem
set_option maxRecDepth 100000
set_option linter.unusedVariables false
set_option linter.unusedSimpArgs false
namespace Mine

structure StreamAt (st : S) (i : Nat) (m w : Int) : Prop where
  lt : i + 2 < st.next
  fs : st.heap i = some (.inst (newFs i m w))
  ch : st.heap (i + 1) = some (.list [])
  cq : st.heap (i + 2) = some (.list [])
theorem StreamAt.stay {st st' : S} {i : Nat} {m w : Int} (h : StreamAt st i m w) (k : Stay st st') : StreamAt st' i m w :=
  ⟨Nat.lt_of_lt_of_le h.lt k.1, (k.2 _ (by have := h.lt; omega)).trans h.fs, (k.2 _ (by have := h.lt; omega)).trans h.ch, (k.2 _ (by have := h.lt; omega)).trans h.cq⟩

structure SL (st : S) (x : Str) (sid : Nat) (ids : List Nat) (zs : List Int) (w : Int → Int) : Prop where
  loc : st.loc x = some (.ref sid)
  lt : sid < st.next
  hl : st.heap sid = some (.list (ids.map .ref))
  len : ids.length = zs.length
  at_ : ∀ (j : Nat) (h : j < ids.length) (h' : j < zs.length), StreamAt st ids[j] zs[j] (w zs[j])
theorem SL.stay {st st' : S} {x : Str} {sid : Nat} {ids : List Nat} {zs : List Int} {w : Int → Int} (h : SL st x sid ids zs w) (k : Stay st st') (hl : st'.loc x = st.loc x) : SL st' x sid ids zs w :=
  ⟨hl.trans h.loc, Nat.lt_of_lt_of_le h.lt k.1, (k.2 _ h.lt).trans h.hl, h.len, fun j a b => (h.at_ j a b).stay k⟩
theorem P0.stay {ns zs : List Int} {nid : Nat} {st st' : S} (h : P0 ns zs nid st) (k : Stay st st') (h1 : st'.loc "script" = st.loc "script") (h2 : st'.loc "numbers" = st.loc "numbers") : P0 ns zs nid st' :=
  ⟨h1.trans h.l1, h2.trans h.l2, (k.2 _ h.p0).trans h.h0, (k.2 _ h.pn).trans h.hn, Nat.lt_of_lt_of_le h.p0 k.1, Nat.lt_of_lt_of_le h.pn k.1, h.len⟩

theorem last_at {α : Type} {l : List α} {a : α} {k : Nat} {h : k < (l ++ [a]).length} (e : l.length = k) : (l ++ [a])[k] = a := by
  subst e
  rw [List.getElem_append_right (Nat.le_refl _)]
  simp only [Nat.sub_self, List.getElem_cons_zero]
/-- a comprehension that makes a stream of each number -/
theorem streams_run {sc : Scope} {elt it : Expr} {p pos : Pos} {ns zs : List Int} {nid : Nat} {s : S} (P : P0 ns zs nid s) (w : Int → Int) (hw : ∀ z, 1 ≤ w z ∧ w z ≤ 256) (args : Int → List V) (ha : ∀ z, args z = [.int z, .int (w z)] ∨ (args z = [.int z] ∧ w z = 16))
    (hco : compOk sc = true) (hx : sc.names.lookup ("number" : Str) = some NameKind.local)
    (hit : ∃ q, it = .Name "numbers" q)
    (helt : ∀ z st, st.loc "number" = some (.int z) → denE pi02 (phi pi02 20) (compEnv lawEv sc) elt st = newM pi02 (phi pi02 20) false (args z) st)
    {Q : V → S → Prop} (hQ : ∀ (s' : S) (sid : Nat) (ids : List Nat), Stay s s' → s'.loc = s.loc → sid < s'.next → s'.heap sid = some (.list (ids.map .ref)) → ids.length = zs.length → (∀ (j : Nat) (h : j < ids.length) (h' : j < zs.length), StreamAt s' ids[j] zs[j] (w zs[j])) → Q (.ref sid) s') :
    Wp (denE pi02 (phi pi02 20) lawEv (.ListComp elt [⟨.Name "number" p, it, [], 0⟩] sc pos)) s Q := by
  obtain ⟨q, rfl⟩ := hit
  refine Wp_comp "number" (fun k ws st => ∃ ids : List Nat, ws = ids.map .ref ∧ ids.length = k ∧ ∀ (j : Nat) (h : j < ids.length) (h' : j < zs.length), s.next < ids[j] ∧ StreamAt st ids[j] zs[j] (w zs[j])) rfl hco hx (b_name (by decide) n_numbers P.l2) P.pn P.hn (by rw [List.length_map]; exact Nat.lt_of_le_of_lt P.len (by decide)) ?h0 ?hG ?step ?hQ
  case h0 => exact fun st => ⟨[], rfl, rfl, fun j h _ => absurd h (Nat.not_lt_zero _)⟩
  case hG =>
    rintro k ws st st' ⟨ids, rfl, h1, h2⟩ h3 h4
    refine ⟨ids, rfl, h1, fun j a b => ?_⟩
    obtain ⟨g1, g2⟩ := h2 j a b
    have := g2.lt
    exact ⟨g1, by omega, (h4 _ g1 (by omega)).trans g2.fs, (h4 _ (by omega) (by omega)).trans g2.ch, (h4 _ (by omega) (by omega)).trans g2.cq⟩
  case step =>
    rintro k hk ws st h1 h2 h3 h4 ⟨ids, rfl, h5, h6⟩ hl
    rw [List.getElem_map] at hl
    have hk' : k < zs.length := List.length_map V.int ▸ hk
    obtain ⟨st', a, b, c, d, f, g, kk⟩ := (new_run 18 st zs[k] (w zs[k]) (args zs[k]) (ha _)).1 (hw _)
    refine Wp_of ((helt _ st hl).trans a) ?_
    have hs : Stay st st' := ⟨by omega, kk⟩
    refine ⟨hs, ids ++ [st.next], by rw [List.map_append]; rfl, by rw [List.length_append, h5]; rfl, fun j x y => ?_⟩
    by_cases hj : j < ids.length
    · rw [List.getElem_append_left hj]
      exact ⟨(h6 j hj y).1, (h6 j hj y).2.stay hs⟩
    · obtain rfl : j = k := by rw [List.length_append, h5] at x; exact Nat.le_antisymm (Nat.le_of_lt_succ x) (h5 ▸ Nat.le_of_not_lt hj)
      rw [last_at h5]
      exact ⟨h3, by omega, d, f, g⟩
  case hQ =>
    rintro ws s' h1 h2 h3 h4 h5 ⟨ids, rfl, h6, h7⟩
    exact hQ s' s.next ids h2 h1 h3 h4 (by rw [List.length_map, List.length_map] at h5; exact h5) fun j a b => (h7 j a b).2

noncomputable def W1 (z : Int) : Int := 1 + z.fmod 256
theorem W1_ok (z : Int) : 1 ≤ W1 z ∧ W1 z ≤ 256 := by
  unfold W1
  have h1 := Int.fmod_nonneg_of_pos z (b := 256) (by decide)
  have h2 := Int.fmod_lt_of_pos z (b := 256) (by decide)
  omega

theorem s1_run {ns zs : List Int} {nid : Nat} {st : S} (P : P0 ns zs nid st) : Wp (denS pi02 (phi pi02 20) lawEv (lawS 1)) st fun f s' => f = .next ∧ P0 ns zs nid s' ∧ ∃ sid ids, SL s' "streams" sid ids zs W1 := by
  have e2 : lawEv.names.lookup ("streams" : Str) = some NameKind.local := by decide
  have helt : ∀ z st, st.loc "number" = some (.int z) → denE pi02 (phi pi02 20) (compEnv lawEv (scS (lawS 1))) (eltS (lawS 1)) st = newM pi02 (phi pi02 20) false [.int z, .int (W1 z)] st := by
    intro z st hl
    have e3 : (compEnv lawEv (scS (lawS 1))).names.lookup ("number" : Str) = some NameKind.local := by decide
    exact b_call (glob_of (by decide)) rfl (by decide) (by decide) (b_cons (b_name (by decide) e3 hl) (b_cons (b_bin b_int (b_bin (b_name (by decide) e3 hl) b_int (b_mod (by decide))) b_add) b_nil)) rfl
  refine s_assignW (t := tgS (lawS 1)) (v := .ListComp (eltS (lawS 1)) [⟨.Name "number" _, .Name "numbers" _, [], 0⟩] (scS (lawS 1)) _) rfl ?_
  refine streams_run P W1 W1_ok (fun z => [.int z, .int (W1 z)]) (fun z => .inl rfl) (by decide) (by decide) ⟨_, rfl⟩ helt ?_
  rintro s' sid ids h1 h2 h3 h4 h5 h6
  refine Wp_of (a_name e2) ?_
  refine ⟨rfl, P.stay h1 ((loc_other (by decide)).trans (congrFun h2 _)) ((loc_other (by decide)).trans (congrFun h2 _)), sid, ids, loc_same, h3, h4, h5, fun j a b => ?_⟩
  obtain ⟨g1, g2, g3, g4⟩ := h6 j a b
  exact ⟨g1, g2, g3, g4⟩

theorem s2_run {ns zs : List Int} {nid sid : Nat} {ids : List Nat} {st : S} (P : P0 ns zs nid st) (Sx : SL st "streams" sid ids zs W1) : Wp (denS pi02 (phi pi02 20) lawEv (lawS 2)) st fun f s' => f = .next ∧ P0 ns zs nid s' ∧ SL s' "streams" sid ids zs W1 ∧ ∃ oid jds, SL s' "others" oid jds zs (fun _ => 16) := by
  have e2 : lawEv.names.lookup ("others" : Str) = some NameKind.local := by decide
  have helt : ∀ z st, st.loc "number" = some (.int z) → denE pi02 (phi pi02 20) (compEnv lawEv (scS (lawS 2))) (eltS (lawS 2)) st = newM pi02 (phi pi02 20) false [.int z] st := by
    intro z st hl
    have e3 : (compEnv lawEv (scS (lawS 2))).names.lookup ("number" : Str) = some NameKind.local := by decide
    exact b_call (glob_of (by decide)) rfl (by decide) (by decide) (b_cons (b_name (by decide) e3 hl) b_nil) rfl
  refine s_assignW (t := tgS (lawS 2)) (v := .ListComp (eltS (lawS 2)) [⟨.Name "number" _, .Name "numbers" _, [], 0⟩] (scS (lawS 2)) _) rfl ?_
  refine streams_run P (fun _ => 16) (fun _ => by decide) (fun z => [.int z]) (fun z => .inr ⟨rfl, rfl⟩) (by decide) (by decide) ⟨_, rfl⟩ helt ?_
  rintro s' oid jds h1 h2 h3 h4 h5 h6
  refine Wp_of (a_name e2) ?_
  refine ⟨rfl, P.stay h1 ((loc_other (by decide)).trans (congrFun h2 _)) ((loc_other (by decide)).trans (congrFun h2 _)), Sx.stay h1 ((loc_other (by decide)).trans (congrFun h2 _)), oid, jds, loc_same, h3, h4, h5, fun j a b => ?_⟩
  obtain ⟨g1, g2, g3, g4⟩ := h6 j a b
  exact ⟨g1, g2, g3, g4⟩
end Mine
end

section
open PySem
set_option maxRecDepth 100000
set_option linter.unusedVariables false
set_option linter.unusedSimpArgs false
namespace Mine

theorem notInst {h : Nat → Option AObj} {a : Nat} {xs : List V} (ha : h a = some (.list xs)) : isInst h (.ref a) = false := by
  show (instAt h a).isSome = false
  unfold instAt
  rw [ha]
  rfl
theorem ne_same {st : S} {i j : Nat} {d : PyData} {Φ : Phi} {hd : Bool} (hi : isInst st.heap (.ref i) = false) (hp : pyOf depthLim st.heap (.ref i) = some d) (hq : pyOf depthLim st.heap (.ref j) = some d) (hs : SeqAt.shaped d = true) :
    compareV pi02 Φ hd .NotEq (.ref i) (.ref j) st = .ok (.bool false) st := by
  show cmpV pi02 Φ hd .NotEq (.ref i) (.ref j) st = _
  unfold cmpV
  rw [hi, if_neg Bool.false_ne_true]
  exact b_get (f := fun _ => ((eqD st.heap (.ref i) (.ref j)).map (!·)).map V.bool) (by rw [eqD_same hp hq hs]; rfl)
theorem c_obj {st : S} {a : Nat} {v : V} {op : CmpOp} {n : Str} {fs : List (Str × V)} {r : R V} (hi : isV op (.ref a) v = none) (ha : st.heap a = some (.inst fs)) (hv : (isInst st.heap v || isIntV v) = true) (hn : cmpName op = some n)
    (h : callF pi02 (phi pi02 20) false (.meth n) [.ref a, v] [] st = r) : compareV pi02 (phi pi02 20) false op (.ref a) v st = r := by
  unfold compareV
  rw [hi]
  show cmpV pi02 (phi pi02 20) false op (.ref a) v st = r
  unfold cmpV
  rw [isInst_at ha, if_pos rfl, if_pos hv, hn]
  exact h

section
variable {st : S} {a b : Nat} {x y wa wb z : Int} (ha : st.heap a = some (.inst (newFs a x wa))) (hb : st.heap b = some (.inst (newFs b y wb)))
include ha
theorem c_eqi : compareV pi02 (phi pi02 20) false .Eq (.ref a) (.int z) st = .ok (.bool false) st := c_obj rfl ha (Bool.or_true _) rfl (eqi_run (hd := false) (n := 19))
theorem c_nei : compareV pi02 (phi pi02 20) false .NotEq (.ref a) (.int z) st = .ok (.bool true) st := c_obj rfl ha (Bool.or_true _) rfl (nei_run (n := 18) ha rfl)
include hb
theorem c_ob : (isInst st.heap (.ref b) || isIntV (.ref b)) = true := by rw [isInst_at hb]; rfl
theorem c_eq : compareV pi02 (phi pi02 20) false .Eq (.ref a) (.ref b) st = .ok (.bool (x == y)) st := c_obj rfl ha (c_ob ha hb) rfl (eq_run (n := 19) ha hb rfl rfl)
theorem c_ne : compareV pi02 (phi pi02 20) false .NotEq (.ref a) (.ref b) st = .ok (.bool !(x == y)) st := c_obj rfl ha (c_ob ha hb) rfl (ne_run (n := 18) ha hb rfl rfl rfl)
theorem c_lt : compareV pi02 (phi pi02 20) false .Lt (.ref a) (.ref b) st = .ok (.bool (decide (x < y))) st := c_obj rfl ha (c_ob ha hb) rfl (lt_run (n := 19) ha hb rfl rfl)
theorem c_le : compareV pi02 (phi pi02 20) false .LtE (.ref a) (.ref b) st = .ok (.bool (decide (x ≤ y))) st := c_obj rfl ha (c_ob ha hb) rfl (le_run (n := 19) ha hb rfl rfl)
theorem c_gt : compareV pi02 (phi pi02 20) false .Gt (.ref a) (.ref b) st = .ok (.bool (decide (x > y))) st := c_obj rfl ha (c_ob ha hb) rfl (gt_run (n := 19) ha hb rfl rfl)
theorem c_ge : compareV pi02 (phi pi02 20) false .GtE (.ref a) (.ref b) st = .ok (.bool (decide (x ≥ y))) st := c_obj rfl ha (c_ob ha hb) rfl (ge_run (n := 19) ha hb rfl rfl)
end

noncomputable def bodyS : Stmt → List Stmt
  | .For _ _ b _ _ => b
  | _ => []
noncomputable def inner : List Stmt := match bodyS (lawS 3) with
  | s :: _ => bodyS s
  | [] => []
noncomputable def compA : List Stmt → Expr
  | .If (.Compare l _ _ _) _ _ _ :: _ => l
  | _ => .Name "" default
theorem n_x : lawEv.names.lookup ("x" : Str) = some NameKind.local := by decide
theorem n_one : lawEv.names.lookup ("one" : Str) = some NameKind.local := by decide
theorem n_y : lawEv.names.lookup ("y" : Str) = some NameKind.local := by decide
theorem n_other : lawEv.names.lookup ("other" : Str) = some NameKind.local := by decide

theorem py_list {h : Nat → Option AObj} {i : Nat} {xs : List V} {ds : List PyData} (hi : h i = some (.list xs)) (hx : optAll (xs.map (pyOf 3 h)) = some ds) : pyOf depthLim h (.ref i) = some (.list ds) := by
  show pyObj (pyOf 3 h) (h i) = _
  rw [hi]
  show Option.map PyData.list _ = _
  rw [hx]
  rfl
theorem py_nil {h : Nat → Option AObj} : optAll (([] : List V).map (pyOf 3 h)) = some [] := rfl
theorem py_cons {h : Nat → Option AObj} {x : V} {xs : List V} {d : PyData} {ds : List PyData} (h1 : pyOf 3 h x = some d) (h2 : optAll (xs.map (pyOf 3 h)) = some ds) : optAll ((x :: xs).map (pyOf 3 h)) = some (d :: ds) := by
  rw [List.map_cons, h1]
  show Option.map _ _ = _
  rw [h2]
  rfl
theorem py_bool {h : Nat → Option AObj} {b : Bool} : pyOf 3 h (.bool b) = some (.bool b) := rfl
theorem py_int {h : Nat → Option AObj} {b : Int} : pyOf 3 h (.int b) = some (.int b) := rfl
theorem py_none {h : Nat → Option AObj} : pyOf 3 h .none = some .none := rfl
theorem py_empty {h : Nat → Option AObj} {i : Nat} (hi : h i = some (.list [])) : pyOf 3 h (.ref i) = some (.list []) := by
  show pyObj (pyOf 2 h) (h i) = _
  rw [hi]
  rfl

theorem inner_run {st : S} {a b : Nat} {x y wa wb : Int} (ha : StreamAt st a x wa) (hb : StreamAt st b y wb) (lx : st.loc "x" = some (.int x)) (l1 : st.loc "one" = some (.ref a)) (ly : st.loc "y" = some (.int y)) (l2 : st.loc "other" = some (.ref b)) :
    Wp (denSs pi02 (phi pi02 20) lawEv inner) st fun f s' => f = .next ∧ Stay st s' ∧ s'.loc = st.loc := by
  have one : ∀ {p : Pos}, denE pi02 (phi pi02 20) lawEv (.Name "one" p) st = .ok (.ref a) st := b_name (by decide) n_one l1
  have oth : ∀ {p : Pos}, denE pi02 (phi pi02 20) lawEv (.Name "other" p) st = .ok (.ref b) st := b_name (by decide) n_other l2
  generalize hb1 : (x == y) = b1
  generalize hb3 : decide (x < y) = b3
  generalize hb4 : decide (x ≤ y) = b4
  generalize hb5 : decide (x > y) = b5
  generalize hb6 : decide (x ≥ y) = b6
  have h1 := hb1 ▸ c_eq ha.fs hb.fs
  have h2 := hb1 ▸ c_ne ha.fs hb.fs
  have h3 := hb3 ▸ c_lt ha.fs hb.fs
  have h4 := hb4 ▸ c_le ha.fs hb.fs
  have h5 := hb5 ▸ c_gt ha.fs hb.fs
  have h6 := hb6 ▸ c_ge ha.fs hb.fs
  generalize hs1 : ({ st with heap := upd st.heap st.next (.list [.bool b1, .bool !b1, .bool b3, .bool b4, .bool b5, .bool b6]), next := st.next + 1 } : S) = s1
  have nx : ∀ {p : Pos}, denE pi02 (phi pi02 20) lawEv (.Name "x" p) s1 = .ok (.int x) s1 := by subst hs1; exact b_name (by decide) n_x lx
  have ny : ∀ {p : Pos}, denE pi02 (phi pi02 20) lawEv (.Name "y" p) s1 = .ok (.int y) s1 := by subst hs1; exact b_name (by decide) n_y ly
  have hn : s1.next = st.next + 1 := by subst hs1; rfl
  have hat : s1.heap st.next = some (.list [.bool b1, .bool !b1, .bool b3, .bool b4, .bool b5, .bool b6]) := by subst hs1; exact heap_same
  have lo : ∀ j, j < st.next → s1.heap j = st.heap j := by subst hs1; exact fun j hj => heap_other (Nat.ne_of_lt hj)
  have hl : s1.loc = st.loc := by subst hs1; rfl
  have ne1 : st.next ≠ s1.next := by rw [hn]; exact Nat.ne_of_lt (Nat.lt_succ_self _)
  have dat : ∀ {h : Nat → Option AObj} {i : Nat}, h i = some (.list [.bool b1, .bool !b1, .bool b3, .bool b4, .bool b5, .bool b6]) → pyOf depthLim h (.ref i) = some (.list [.bool b1, .bool !b1, .bool b3, .bool b4, .bool b5, .bool b6]) := fun hi => py_list hi (py_cons py_bool (py_cons py_bool (py_cons py_bool (py_cons py_bool (py_cons py_bool (py_cons py_bool py_nil))))))
  have e1 : denE pi02 (phi pi02 20) lawEv (compA inner) st = .ok (.ref st.next) s1 := by
    subst hs1
    exact b_list rfl (b_cons (b_cmp one oth h1) (b_cons (b_cmp one oth h2) (b_cons (b_cmp one oth h3) (b_cons (b_cmp one oth h4) (b_cons (b_cmp one oth h5) (b_cons (b_cmp one oth h6) b_nil))))))
  have hi : isInst (upd s1.heap s1.next (.list [.bool b1, .bool !b1, .bool b3, .bool b4, .bool b5, .bool b6])) (.ref st.next) = false := notInst ((upd_other ne1).trans hat)
  refine Wp_of (s_cons (s_ifF (t_cmp e1 (b_list rfl (b_cons (b_cmp nx ny (hb1 ▸ b_cmpEq)) (b_cons (b_cmp nx ny (hb1 ▸ b_cmpNe)) (b_cons (b_cmp nx ny (hb3 ▸ b_cmpLt)) (b_cons (b_cmp nx ny (hb4 ▸ b_cmpLe)) (b_cons (b_cmp nx ny (hb5 ▸ b_cmpGt)) (b_cons (b_cmp nx ny (hb6 ▸ b_cmpGe)) b_nil))))))) (ne_same hi (dat ((upd_other ne1).trans hat)) (dat (upd_same _ _ _)) rfl)) s_nil) s_nil) ⟨rfl, ⟨?_, fun j hj => ?_⟩, hl⟩
  · show st.next ≤ s1.next + 1
    omega
  · exact (heap_other (by omega)).trans (lo j hj)
end Mine
end

section
open PySem
set_option maxRecDepth 100000
set_option linter.unusedVariables false
set_option linter.unusedSimpArgs false
namespace Mine

noncomputable def nthS (l : List Stmt) (k : Nat) : Stmt := l.getD k (.Pass default)
theorem outer_eq : bodyS (lawS 3) = [nthS (bodyS (lawS 3)) 0, nthS (bodyS (lawS 3)) 1, nthS (bodyS (lawS 3)) 2] := rfl

theorem o1_run {st : S} {a : Nat} {x wa : Int} (ha : StreamAt st a x wa) (lx : st.loc "x" = some (.int x)) (l1 : st.loc "one" = some (.ref a)) : denS pi02 (phi pi02 20) lawEv (nthS (bodyS (lawS 3)) 1) st = .ok .next st := by
  have one : ∀ {p : Pos}, denE pi02 (phi pi02 20) lawEv (.Name "one" p) st = .ok (.ref a) st := b_name (by decide) n_one l1
  have nx : ∀ {p : Pos}, denE pi02 (phi pi02 20) lawEv (.Name "x" p) st = .ok (.int x) st := b_name (by decide) n_x lx
  exact s_ifF (t_or (t_cmp one nx (c_eqi ha.fs)) (t_not (b := true) (t_cmp one nx (c_nei ha.fs)))) s_nil

theorem getW_of {st : S} {a : Nat} {fs : List (Str × V)} {w : V} (ha : st.heap a = some (.inst fs)) (hw : getR "_weight" fs = some w) : callF pi02 (phi pi02 20) false .getW [.ref a] [] st = .ok w st := getW_run (hd := false) (n := 19) ha hw

/-- two lists of the same data, one laid after the other -/
theorem o2_run {st : S} {a : Nat} {x : Int} (ha : StreamAt st a x (W1 x)) (lx : st.loc "x" = some (.int x)) (l1 : st.loc "one" = some (.ref a)) : Wp (denS pi02 (phi pi02 20) lawEv (nthS (bodyS (lawS 3)) 2)) st fun f s' => f = .next ∧ Stay st s' ∧ s'.loc = st.loc := by
  have one : ∀ {p : Pos}, denE pi02 (phi pi02 20) lawEv (.Name "one" p) st = .ok (.ref a) st := b_name (by decide) n_one l1
  have nx : ∀ {h : Nat → Option AObj} {k : Nat} {p : Pos}, denE pi02 (phi pi02 20) lawEv (.Name "x" p) ⟨h, k, st.loc⟩ = .ok (.int x) ⟨h, k, st.loc⟩ := b_name (by decide) n_x lx
  have lt := ha.lt
  generalize hA : AObj.list [V.int x, V.int (W1 x), V.none, V.ref (a + 1), V.ref (a + 2), V.bool true, V.int 0] = A
  generalize hB : AObj.list [V.int x, V.int (1 + x.fmod 256), V.none, V.ref (st.next + 1), V.ref (st.next + 2), V.bool true, V.int 0] = B
  have at0 : upd (upd (upd (upd st.heap st.next A) (st.next + 1) (.list [])) (st.next + 2) (.list [])) (st.next + 3) B st.next = some A := (upd_other (by omega)).trans ((upd_other (by omega)).trans ((upd_other (by omega)).trans (upd_same _ _ _)))
  have at1 : upd (upd (upd (upd st.heap st.next A) (st.next + 1) (.list [])) (st.next + 2) (.list [])) (st.next + 3) B (st.next + 1) = some (.list []) := (upd_other (by omega)).trans ((upd_other (by omega)).trans (upd_same _ _ _))
  have at2 : upd (upd (upd (upd st.heap st.next A) (st.next + 1) (.list [])) (st.next + 2) (.list [])) (st.next + 3) B (st.next + 2) = some (.list []) := (upd_other (by omega)).trans (upd_same _ _ _)
  have lo : ∀ j, j < st.next → upd (upd (upd (upd st.heap st.next A) (st.next + 1) (.list [])) (st.next + 2) (.list [])) (st.next + 3) B j = st.heap j := fun j hj => (upd_other (by omega)).trans ((upd_other (by omega)).trans ((upd_other (by omega)).trans (upd_other (by omega))))
  have at3 : upd (upd (upd (upd st.heap st.next A) (st.next + 1) (.list [])) (st.next + 2) (.list [])) (st.next + 3) B (st.next + 3) = some B := upd_same _ _ _
  generalize hH : upd (upd (upd (upd st.heap st.next A) (st.next + 1) (.list [])) (st.next + 2) (.list [])) (st.next + 3) B = H at at0 at1 at2 at3 lo
  have p1 : pyOf depthLim H (.ref st.next) = some (.list [.int x, .int (W1 x), .none, .list [], .list [], .bool true, .int 0]) :=
    py_list (at0.trans (congrArg some hA.symm)) (py_cons py_int (py_cons py_int (py_cons py_none (py_cons (py_empty ((lo _ (by omega)).trans ha.ch)) (py_cons (py_empty ((lo _ (by omega)).trans ha.cq)) (py_cons py_bool (py_cons py_int py_nil)))))))
  have p2 : pyOf depthLim H (.ref (st.next + 3)) = some (.list [.int x, .int (W1 x), .none, .list [], .list [], .bool true, .int 0]) :=
    py_list (at3.trans (congrArg some hB.symm)) (py_cons py_int (py_cons py_int (py_cons py_none (py_cons (py_empty at1) (py_cons (py_empty at2) (py_cons py_bool (py_cons py_int py_nil)))))))
  have hi : isInst H (.ref st.next) = false := notInst (at0.trans (congrArg some hA.symm))
  refine Wp_of (s' := ⟨H, st.next + 4, st.loc⟩) ?_ ⟨rfl, ⟨Nat.le_add_right _ _, lo⟩, rfl⟩
  refine s_ifF (t_cmp (s2 := ⟨H, st.next + 4, st.loc⟩) (a := .ref st.next) (b := .ref (st.next + 3)) (s1 := ⟨upd st.heap st.next A, st.next + 1, st.loc⟩) ?l ?r (ne_same hi p1 p2 rfl)) s_nil
  case l =>
    rw [← hA]
    exact b_list rfl (b_cons (b_attr rfl one ha.fs (by decide) (by decide) rfl) (b_cons (b_attrW rfl one ha.fs (getW_of ha.fs rfl)) (b_cons (b_attr rfl one ha.fs (by decide) (by decide) rfl) (b_cons (b_attr rfl one ha.fs (by decide) (by decide) rfl) (b_cons (b_attr rfl one ha.fs (by decide) (by decide) rfl) (b_cons (b_attr rfl one ha.fs (by decide) (by decide) rfl) (b_cons (b_attr rfl one ha.fs (by decide) (by decide) rfl) b_nil)))))))
  case r =>
    rw [← hH, ← hB]
    exact b_list rfl (b_cons nx (b_cons (b_bin b_int (b_bin nx b_int (b_mod (by decide))) b_add) (b_cons b_none (b_cons (b_list rfl b_nil) (b_cons (b_list rfl b_nil) (b_cons b_bool (b_cons b_int b_nil)))))))

theorem zipFor {ev : AEnv} {x y n1 n2 : Str} {p1 p2 p3 q0 q1 q2 q3 q4 : Pos} {k : Nat} {body : List Stmt} {i j : Nat} {xs ys : List V} {st : S} {Q : Flow → S → Prop} (h1 : ev.names.lookup n1 = some .local) (h2 : ev.names.lookup n2 = some .local) (hz : isGlobal ev "zip" = true) (hd : ev.hd = false)
    (d1 : n1 ≠ ("__debug__" : Str)) (d2 : n2 ≠ ("__debug__" : Str)) (l1 : st.loc n1 = some (.ref i)) (l2 : st.loc n2 = some (.ref j)) (hx : st.heap i = some (.list xs)) (hy : st.heap j = some (.list ys))
    (h : Wp (loopD wlim (nextZ ev i j x y) (denSs pi02 (phi pi02 20) ev body) 0) st Q) :
    Wp (denS pi02 (phi pi02 20) ev (.For (.Tuple [.Name x p1, .Name y p2] k p3) (.Call (.Name "zip" q0) [.Name n1 q1, .Name n2 q2] [] q3) body [] q4)) st Q := by
  obtain ⟨a, s', e, q⟩ := h
  exact ⟨a, s', b_if (c := (true && !ev.hd) = true) (m := if isGlobal ev "zip" = true ∧ ("zip" : Str) = ("zip" : Str) then (if false = false ∧ false = false then zipM ev x y (denSs pi02 (phi pi02 20) ev body) (denE pi02 (phi pi02 20) ev (.Name n1 q1)) (denE pi02 (phi pi02 20) ev (.Name n2 q2)) else failM) else forM ev (.Tuple [.Name x p1, .Name y p2] k p3) (denE pi02 (phi pi02 20) ev (.Call (.Name "zip" q0) [.Name n1 q1, .Name n2 q2] [] q3)) (denSs pi02 (phi pi02 20) ev body)) (m' := failM) (by rw [hd]; rfl)
    (b_if ⟨hz, rfl⟩ (b_if ⟨rfl, rfl⟩ (b_seq (b_name d1 h1 l1) (b_seq (b_name d2 h2 l2) (b_ref (b_ref (b_seq (rdL_at hx) (b_seq (rdL_at hy) e)))))))), q⟩
end Mine
end

section
open PySem
set_option maxRecDepth 100000
set_option linter.unusedVariables false
set_option linter.unusedSimpArgs false
namespace Mine

structure LI (ns zs : List Int) (nid sid oid : Nat) (ids jds : List Nat) (st : S) : Prop where
  p : P0 ns zs nid st
  s : SL st "streams" sid ids zs W1
  o : SL st "others" oid jds zs (fun _ => 16)
theorem LI.stay {ns zs : List Int} {nid sid oid : Nat} {ids jds : List Nat} {st st' : S} (h : LI ns zs nid sid oid ids jds st) (k : Stay st st')
    (hl : ∀ n ∈ (["script", "numbers", "streams", "others"] : List Str), st'.loc n = st.loc n) : LI ns zs nid sid oid ids jds st' :=
  ⟨h.p.stay k (hl _ (by decide)) (hl _ (by decide)), h.s.stay k (hl _ (by decide)), h.o.stay k (hl _ (by decide))⟩

theorem len5 {zs : List Int} (h : zs.length ≤ 5) : (zs.map V.int).length < 100 := by rw [List.length_map]; exact Nat.lt_of_le_of_lt h (by decide)
theorem o0_run {ns zs : List Int} {nid sid oid : Nat} {ids jds : List Nat} {st : S} {a : Nat} {x : Int} (L : LI ns zs nid sid oid ids jds st) (ha : StreamAt st a x (W1 x)) (lx : st.loc "x" = some (.int x)) (l1 : st.loc "one" = some (.ref a)) :
    Wp (denS pi02 (phi pi02 20) lawEv (nthS (bodyS (lawS 3)) 0)) st fun f s' => f = .next ∧ Stay st s' ∧ ∀ n : Str, n ≠ "y" → n ≠ "other" → s'.loc n = st.loc n := by
  have e1 : lawEv.names.lookup ("numbers" : Str) = some NameKind.local := by decide
  have e2 : lawEv.names.lookup ("others" : Str) = some NameKind.local := by decide
  have e3 : lawEv.names.lookup ("y" : Str) = some NameKind.local := by decide
  have e4 : lawEv.names.lookup ("other" : Str) = some NameKind.local := by decide
  show Wp (denS pi02 (phi pi02 20) lawEv (.For (.Tuple [.Name "y" _, .Name "other" _] _ _) (.Call (.Name "zip" _) [.Name "numbers" _, .Name "others" _] [] _) inner [] _)) st _
  refine zipFor e1 e2 (by decide) rfl (by decide) (by decide) L.p.l2 L.o.loc L.p.hn L.o.hl ?_
  refine Wp_loopZ (fun _ s => Stay st s ∧ ∀ n : Str, n ≠ "y" → n ≠ "other" → s.loc n = st.loc n) (xs := zs.map .int) (ys := jds.map .ref) e3 e4 ⟨Stay.refl st, fun _ _ _ => rfl⟩ (len5 L.p.len) (by rw [List.length_map, List.length_map, L.o.len]) ?hl ?step ?hQ
  case hl =>
    rintro k s ⟨h1, -⟩
    exact ⟨(h1.2 _ L.p.pn).trans L.p.hn, (h1.2 _ L.o.lt).trans L.o.hl⟩
  case hQ =>
    rintro s h
    exact ⟨rfl, h⟩
  case step =>
    rintro k hk hk' s ⟨h1, h2⟩
    rw [List.getElem_map, List.getElem_map]
    rw [List.length_map] at hk hk'
    have hs : Stay st { s with loc := updL (updL s.loc "y" (.int (zs[k]'hk))) "other" (.ref (jds[k]'hk')) } := h1
    have q1 : s.loc "x" = some (.int x) := (h2 "x" (by decide) (by decide)).trans lx
    have q2 : s.loc "one" = some (.ref a) := (h2 "one" (by decide) (by decide)).trans l1
    refine Wp_mono (inner_run (ha.stay hs) ((L.o.at_ k hk' hk).stay hs) ((loc_other (by decide)).trans ((updL_other (by decide)).trans q1)) ((loc_other (by decide)).trans ((updL_other (by decide)).trans q2)) ((loc_other (by decide)).trans updL_same) loc_same) ?_
    rintro f s' ⟨rfl, g1, g2⟩
    exact ⟨rfl, hs.trans g1, fun n n1 n2 => (congrFun g2 n).trans ((updL_other n2).trans ((updL_other n1).trans (h2 n n1 n2)))⟩

theorem s3_run {ns zs : List Int} {nid sid oid : Nat} {ids jds : List Nat} {st : S} (L : LI ns zs nid sid oid ids jds st) : Wp (denS pi02 (phi pi02 20) lawEv (lawS 3)) st fun f s' => f = .next ∧ LI ns zs nid sid oid ids jds s' := by
  have e1 : lawEv.names.lookup ("numbers" : Str) = some NameKind.local := by decide
  have e2 : lawEv.names.lookup ("streams" : Str) = some NameKind.local := by decide
  have e3 : lawEv.names.lookup ("x" : Str) = some NameKind.local := by decide
  have e4 : lawEv.names.lookup ("one" : Str) = some NameKind.local := by decide
  show Wp (denS pi02 (phi pi02 20) lawEv (.For (.Tuple [.Name "x" _, .Name "one" _] _ _) (.Call (.Name "zip" _) [.Name "numbers" _, .Name "streams" _] [] _) (bodyS (lawS 3)) [] _)) st _
  refine zipFor e1 e2 (by decide) rfl (by decide) (by decide) L.p.l2 L.s.loc L.p.hn L.s.hl ?_
  refine Wp_loopZ (fun _ s => LI ns zs nid sid oid ids jds s) (xs := zs.map .int) (ys := ids.map .ref) e3 e4 L (len5 L.p.len) (by rw [List.length_map, List.length_map, L.s.len]) ?hl ?step ?hQ
  case hl =>
    rintro k s h
    exact ⟨h.p.hn, h.s.hl⟩
  case hQ =>
    rintro s h
    exact ⟨rfl, h⟩
  case step =>
    rintro k hk hk' s h
    rw [List.getElem_map, List.getElem_map]
    have k1 : k < zs.length := List.length_map V.int ▸ hk
    have k2 : k < ids.length := List.length_map V.ref ▸ hk'
    have L1 : LI ns zs nid sid oid ids jds { s with loc := updL (updL s.loc "x" (.int zs[k])) "one" (.ref ids[k]) } := by
      refine h.stay (Stay.refl s) fun n hn => ?_
      have n1 : n ≠ "x" := by rintro rfl; revert hn; decide
      have n2 : n ≠ "one" := by rintro rfl; revert hn; decide
      exact (updL_other n2).trans (updL_other n1)
    have m1 : ({ s with loc := updL (updL s.loc "x" (.int zs[k])) "one" (.ref ids[k]) } : S).loc "x" = some (.int zs[k]) := (loc_other (by decide)).trans updL_same
    have m2 : ({ s with loc := updL (updL s.loc "x" (.int zs[k])) "one" (.ref ids[k]) } : S).loc "one" = some (.ref ids[k]) := loc_same
    generalize ({ s with loc := updL (updL s.loc "x" (.int zs[k])) "one" (.ref ids[k]) } : S) = s1 at L1 m1 m2
    rw [outer_eq]
    refine Wp_Ss (Wp_mono (o0_run L1 (L1.s.at_ k k2 k1) m1 m2) ?_)
    rintro f s2 ⟨rfl, g1, g2⟩
    refine ⟨rfl, ?_⟩
    have L2 : LI ns zs nid sid oid ids jds s2 := by
      refine L1.stay g1 fun n hn => g2 n ?_ ?_
      · rintro rfl; revert hn; decide
      · rintro rfl; revert hn; decide
    have m3 := (g2 "x" (by decide) (by decide)).trans m1
    have m4 := (g2 "one" (by decide) (by decide)).trans m2
    have A := L2.s.at_ k k2 k1
    refine Wp_Ss (Wp_of (o1_run A m3 m4) ⟨rfl, ?_⟩)
    refine Wp_Ss (Wp_mono (o2_run A m3 m4) ?_)
    rintro f s3 ⟨rfl, g3, g4⟩
    refine ⟨rfl, Wp_of rfl ⟨rfl, L2.stay g3 fun n _ => by rw [g4]⟩⟩
end Mine
end

section
open PySem
set_option maxRecDepth 100000
set_option linter.unusedVariables false
set_option linter.unusedSimpArgs false
namespace Mine

noncomputable def pairD (z : Int) : PyData := .tuple [.int z, .int 16]
structure TL (b : Nat) (st : S) (ts : List Nat) (zs : List Int) : Prop where
  len : ts.length = zs.length
  at_ : ∀ (j : Nat) (h : j < ts.length) (h' : j < zs.length), b < ts[j] ∧ ts[j] < st.next ∧ st.heap ts[j] = some (.tup [.int zs[j], .int 16])

theorem py_pair {h : Nat → Option AObj} {t : Nat} {z : Int} (h0 : h t = some (.tup [.int z, .int 16])) : pyOf 3 h (.ref t) = some (pairD z) := by
  show pyObj (pyOf 2 h) (h t) = _
  rw [h0]
  rfl
theorem pyAll_pairs {h : Nat → Option AObj} : ∀ (ts : List Nat) (zs : List Int), ts.length = zs.length → (∀ (j : Nat) (a : j < ts.length) (b : j < zs.length), h ts[j] = some (.tup [.int zs[j], .int 16])) → optAll ((ts.map V.ref).map (pyOf 3 h)) = some (zs.map pairD)
  | [], [], _, _ => py_nil
  | t :: ts, z :: zs, hl, ha => py_cons (py_pair (ha 0 (Nat.succ_pos _) (Nat.succ_pos _))) (pyAll_pairs ts zs (Nat.succ.inj hl) fun j a b => ha (j + 1) (Nat.succ_lt_succ a) (Nat.succ_lt_succ b))
theorem pyOf_pairs {h : Nat → Option AObj} {i : Nat} {ts : List Nat} {zs : List Int} (hi : h i = some (.list (ts.map .ref))) (hl : ts.length = zs.length) (ha : ∀ (j : Nat) (a : j < ts.length) (b : j < zs.length), h ts[j] = some (.tup [.int zs[j], .int 16])) : pyOf depthLim h (.ref i) = some (.list (zs.map pairD)) :=
  py_list hi (pyAll_pairs ts zs hl ha)
theorem lay_pairs : ∀ zs : List Int, PyData.canLayAll0 (zs.map pairD) = true ∧ PyData.depthAll (zs.map pairD) ≤ 2
  | [] => ⟨rfl, Nat.zero_le _⟩
  | z :: zs => ⟨by rw [List.map_cons, PyData.canLayAll0, (lay_pairs zs).1]; rfl, by rw [List.map_cons, PyData.depthAll]; exact Nat.max_le.mpr ⟨Nat.le_of_ble_eq_true rfl, (lay_pairs zs).2⟩⟩
theorem shaped_pairs (zs : List Int) : SeqAt.shaped (.list (zs.map pairD)) = true := by
  unfold SeqAt.shaped
  rw [PyData.canLay0, (lay_pairs zs).1, PyData.depth, Bool.true_and]
  exact decide_eq_true (by have := (lay_pairs zs).2; omega)

/-- a comprehension that makes a pair of each -/
theorem pairs_run {sc : Scope} {elt : Expr} {x n : Str} {p pos q : Pos} {zs : List Int} {xs : List V} {s : S} {L : Nat} (hlen : zs.length ≤ 5) (hx0 : xs.length = zs.length)
    (hco : compOk sc = true) (hx : sc.names.lookup x = some NameKind.local) (hn : lawEv.names.lookup n = some NameKind.local) (hd : n ≠ ("__debug__" : Str))
    (hl : s.loc n = some (.ref L)) (hL : L < s.next) (hh : s.heap L = some (.list xs))
    (helt : ∀ (k : Nat) (a : k < xs.length) (b : k < zs.length) st, Stay s st → st.loc x = some xs[k] → denE pi02 (phi pi02 20) (compEnv lawEv sc) elt st = .ok (.ref st.next) { st with heap := upd st.heap st.next (.tup [.int zs[k], .int 16]), next := st.next + 1 })
    {Q : V → S → Prop} (hQ : ∀ (s' : S) (ts : List Nat), Stay s s' → s'.loc = s.loc → s.next < s'.next → s'.heap s.next = some (.list (ts.map .ref)) → TL s.next s' ts zs → Q (.ref s.next) s') :
    Wp (denE pi02 (phi pi02 20) lawEv (.ListComp elt [⟨.Name x p, .Name n q, [], 0⟩] sc pos)) s Q := by
  refine Wp_comp x (fun k ws st => ∃ ts : List Nat, ws = ts.map .ref ∧ ts.length = k ∧ ∀ (j : Nat) (h : j < ts.length) (h' : j < zs.length), s.next < ts[j] ∧ ts[j] < st.next ∧ st.heap ts[j] = some (.tup [.int zs[j], .int 16])) rfl hco hx (b_name hd hn hl) hL hh (hx0 ▸ Nat.lt_of_le_of_lt hlen (by decide)) ?h0 ?hG ?step ?hQ
  case h0 => exact fun st => ⟨[], rfl, rfl, fun j h _ => absurd h (Nat.not_lt_zero _)⟩
  case hG =>
    rintro k ws st st' ⟨ts, rfl, h1, h2⟩ h3 h4
    refine ⟨ts, rfl, h1, fun j a b => ?_⟩
    obtain ⟨g1, g2, g3⟩ := h2 j a b
    exact ⟨g1, by omega, (h4 _ g1 g2).trans g3⟩
  case step =>
    rintro k hk ws st h1 h2 h3 h4 ⟨ts, rfl, h5, h6⟩ hl
    have hk' : k < zs.length := hx0 ▸ hk
    refine Wp_of (helt k hk hk' st h2 hl) ⟨⟨Nat.le_succ _, fun j hj => upd_other (Nat.ne_of_lt hj)⟩, ts ++ [st.next], by rw [List.map_append]; rfl, by rw [List.length_append, h5]; rfl, fun j a b => ?_⟩
    by_cases hj : j < ts.length
    · rw [List.getElem_append_left hj]
      obtain ⟨g1, g2, g3⟩ := h6 j hj b
      exact ⟨g1, Nat.lt_succ_of_lt g2, (upd_other (Nat.ne_of_lt g2)).trans g3⟩
    · obtain rfl : j = k := by rw [List.length_append, h5] at a; exact Nat.le_antisymm (Nat.le_of_lt_succ a) (h5 ▸ Nat.le_of_not_lt hj)
      rw [last_at h5]
      exact ⟨h3, Nat.lt_succ_self _, upd_same _ _ _⟩
  case hQ =>
    rintro ws s' h1 h2 h3 h4 h5 ⟨ts, rfl, h6, h7⟩
    exact hQ s' ts h2 h1 h3 h4 ⟨by rw [List.length_map, hx0] at h5; exact h5, h7⟩

noncomputable def compL : Stmt → Expr
  | .If (.Compare l _ _ _) _ _ _ => l
  | _ => .Name "" default
noncomputable def compR : Stmt → Expr
  | .If (.Compare _ _ (r :: _) _) _ _ _ => r
  | _ => .Name "" default
noncomputable def eltE : Expr → Expr
  | .ListComp e _ _ _ => e
  | _ => .Name "" default
noncomputable def scE : Expr → Scope
  | .ListComp _ _ sc _ => sc
  | _ => { kind := .function, names := [], isGenerator := false, isCoroutine := false }

theorem s4_run {ns zs : List Int} {nid sid oid : Nat} {ids jds : List Nat} {st : S} (L : LI ns zs nid sid oid ids jds st) : Wp (denS pi02 (phi pi02 20) lawEv (lawS 4)) st fun f s' => f = .next ∧ LI ns zs nid sid oid ids jds s' := by
  have hL : ∀ (k : Nat) (a : k < (jds.map V.ref).length) (b : k < zs.length) s, Stay st s → s.loc "other" = some (jds.map V.ref)[k] → denE pi02 (phi pi02 20) (compEnv lawEv (scE (compL (lawS 4)))) (eltE (compL (lawS 4))) s = .ok (.ref s.next) { s with heap := upd s.heap s.next (.tup [.int zs[k], .int 16]), next := s.next + 1 } := by
    intro k a b s hs hl
    rw [List.getElem_map] at hl
    have A := (L.o.at_ k (by simpa using a) b).stay hs
    have e3 : (compEnv lawEv (scE (compL (lawS 4)))).names.lookup ("other" : Str) = some NameKind.local := by decide
    have nm : ∀ {p : Pos}, denE pi02 (phi pi02 20) (compEnv lawEv (scE (compL (lawS 4)))) (.Name "other" p) s = .ok (.ref (jds[k]'(by simpa using a))) s := b_name (by decide) e3 hl
    exact b_tuple rfl (b_cons (b_attr rfl nm A.fs (by decide) (by decide) rfl) (b_cons (b_attrW rfl nm A.fs (getW_of A.fs rfl)) b_nil))
  have hR : ∀ s0 : S, ∀ (k : Nat) (a : k < (zs.map V.int).length) (b : k < zs.length) s, Stay s0 s → s.loc "y" = some (zs.map V.int)[k] → denE pi02 (phi pi02 20) (compEnv lawEv (scE (compR (lawS 4)))) (eltE (compR (lawS 4))) s = .ok (.ref s.next) { s with heap := upd s.heap s.next (.tup [.int zs[k], .int 16]), next := s.next + 1 } := by
    intro s0 k a b s hs hl
    rw [List.getElem_map] at hl
    have e3 : (compEnv lawEv (scE (compR (lawS 4)))).names.lookup ("y" : Str) = some NameKind.local := by decide
    exact b_tuple rfl (b_cons (b_name (by decide) e3 hl) (b_cons b_int b_nil))
  suffices go : Wp (denE pi02 (phi pi02 20) lawEv (compL (lawS 4))) st (fun v s1 => Wp (denE pi02 (phi pi02 20) lawEv (compR (lawS 4))) s1 fun w s2 => compareV pi02 (phi pi02 20) false .NotEq v w s2 = .ok (.bool false) s2 ∧ LI ns zs nid sid oid ids jds s2) by
    obtain ⟨v, s1, e1, w, s2, e2, e3, L2⟩ := go
    exact Wp_of (s_ifF (t_cmp e1 e2 e3) s_nil) ⟨rfl, L2⟩
  show Wp (denE pi02 (phi pi02 20) lawEv (.ListComp (eltE (compL (lawS 4))) [⟨.Name "other" _, .Name "others" _, [], 0⟩] (scE (compL (lawS 4))) _)) st _
  refine pairs_run (xs := jds.map .ref) L.p.len (by rw [List.length_map, L.o.len]) (by decide) (by decide) (by decide) (by decide) L.o.loc L.o.lt L.o.hl hL ?_
  intro s1 ts g1 g2 g3 g4 T1
  have L1 := L.stay g1 fun n _ => by rw [g2]
  show Wp (denE pi02 (phi pi02 20) lawEv (.ListComp (eltE (compR (lawS 4))) [⟨.Name "y" _, .Name "numbers" _, [], 0⟩] (scE (compR (lawS 4))) _)) s1 _
  refine pairs_run (xs := zs.map .int) L.p.len (List.length_map _) (by decide) (by decide) (by decide) (by decide) L1.p.l2 L1.p.pn L1.p.hn (hR s1) ?_
  intro s2 us k1 k2 k3 k4 T2
  have L2 := L1.stay k1 fun n _ => by rw [k2]
  have q1 : s2.heap st.next = some (.list (ts.map .ref)) := (k1.2 _ g3).trans g4
  have d1 := pyOf_pairs q1 T1.len fun j a b => (k1.2 _ (T1.at_ j a b).2.1).trans (T1.at_ j a b).2.2
  have d2 := pyOf_pairs k4 T2.len fun j a b => (T2.at_ j a b).2.2
  exact ⟨ne_same (notInst q1) d1 d2 (shaped_pairs zs), L2⟩
end Mine
end

section
open PySem
set_option maxRecDepth 100000
set_option linter.unusedVariables false
set_option linter.unusedSimpArgs false
namespace Mine

theorem n_stands : lawEv.names.lookup ("stands" : Str) = some NameKind.local := by decide
theorem n_kept : lawEv.names.lookup ("kept" : Str) = some NameKind.local := by decide
theorem n_weight : lawEv.names.lookup ("weight" : Str) = some NameKind.local := by decide
theorem n_fresh : lawEv.names.lookup ("fresh" : Str) = some NameKind.local := by decide
theorem n_put : lawEv.names.lookup ("put" : Str) = some NameKind.local := by decide

theorem s5_run {ns zs : List Int} {nid sid oid : Nat} {ids jds : List Nat} {st : S} (L : LI ns zs nid sid oid ids jds st) : Wp (denS pi02 (phi pi02 20) lawEv (lawS 5)) st fun f s' => f = .next ∧ P0 ns zs nid s' ∧ ∃ a, 0 < a ∧ s'.loc "stands" = some (.ref a) ∧ StreamAt s' a 9 16 := by
  obtain ⟨st', a, b, c, d, f, g, kk⟩ := (new_run 18 st 9 16 [.int 9] (.inr ⟨rfl, rfl⟩)).1 (by decide)
  have hle : st.next ≤ st'.next := b ▸ Nat.le_add_right _ _
  refine Wp_of (s_assign rfl (b_call (glob_of (by decide)) rfl (by decide) (by decide) (b_cons b_int b_nil) a) (a_name n_stands)) ⟨rfl, L.p.stay ⟨hle, kk⟩ ((loc_other (by decide)).trans (congrFun c _)) ((loc_other (by decide)).trans (congrFun c _)), st.next, L.p.p0, loc_same, ?_, d, f, g⟩
  show st.next + 2 < st'.next
  omega

structure KI (L : Nat) (a : Nat) (kept : Int) (fs : List (Str × V)) (st : S) : Prop where
  l1 : st.loc "stands" = some (.ref a)
  l2 : st.loc "kept" = some (.int kept)
  ha : st.heap a = some (.inst fs)
  hw : getR "_weight" fs = some (.int kept)
  len : fs.length < 100
  lta : a < st.next

theorem s6_run {ns zs : List Int} {nid a : Nat} {st : S} (P : P0 ns zs nid st) (a0 : 0 < a) (l1 : st.loc "stands" = some (.ref a)) (A : StreamAt st a 9 16) : Wp (denS pi02 (phi pi02 20) lawEv (lawS 6)) st fun f s' => f = .next ∧ s'.loc = st.loc ∧ s'.heap 0 = st.heap 0 ∧ s'.heap a = st.heap a ∧ st.next ≤ s'.next := by
  obtain ⟨st', h1, h2, h3, h4, h5, h6, h7⟩ := (new_run 18 st 10 16 [.int 10] (.inr ⟨rfl, rfl⟩)).1 (by decide)
  have lt := A.lt
  have p0 := P.p0
  have hs : Stay st st' := ⟨by omega, h7⟩
  have A' := A.stay hs
  obtain ⟨st'', k1, k2, k3, k4⟩ := add_run0 18 a st.next (a + 1) (a + 2) st' _ _ (.int 0) A'.fs h4 (by omega) rfl rfl rfl A'.ch A'.cq (by omega) (by omega) (by omega) (by omega) (by omega) (show (8 : Nat) < 100 by decide)
  refine Wp_of (s_expr rfl (b_meth (by decide) rfl (by decide) (b_name (by decide) n_stands l1) A.fs rfl (by decide) (b_cons (b_call (glob_of (by decide)) rfl (by decide) (by decide) (b_cons b_int b_nil) h1) b_nil) k1)) ⟨rfl, k3.trans h3, (k4 0 (by omega) (by omega) (by omega) (by omega)).trans (h7 0 p0), (k4 a (by omega) (by omega) (by omega) (by omega)).trans (h7 a (by omega)), by omega⟩

theorem s7_run {st : S} : denS pi02 (phi pi02 20) lawEv (lawS 7) st = .ok .next { st with loc := updL st.loc "kept" (.int 16) } := s_assign rfl b_int (a_name n_kept)
theorem s9_run {st : S} : denS pi02 (phi pi02 20) lawEv (lawS 9) st = .ok (.ret (.bool true)) st := s_ret b_bool

/-! the last loop -/
theorem getR_putR {x : Str} {v : V} : ∀ {fs : List (Str × V)}, getR x (putR x v fs) = some v
  | [] => if_pos rfl
  | (y, w) :: r => by
    unfold putR
    by_cases h : y = x
    · rw [if_pos h]; exact if_pos h
    · rw [if_neg h]; exact (if_neg h).trans getR_putR
theorem len_putR {x : Str} {v u : V} : ∀ {fs : List (Str × V)}, getR x fs = some u → (putR x v fs).length = fs.length
  | [], h => nomatch h
  | (y, w) :: r, h => by
    unfold putR
    by_cases e : y = x
    · rw [if_pos e]; rfl
    · rw [if_neg e]; exact congrArg (· + 1) (len_putR ((if_neg e).symm.trans h))

theorem l8_eq : bodyS (lawS 8) = [nthS (bodyS (lawS 8)) 0, nthS (bodyS (lawS 8)) 1, nthS (bodyS (lawS 8)) 2, nthS (bodyS (lawS 8)) 3] := rfl

/-- the first statement: a new stream, or None -/
theorem t0_run {a : Nat} {kept w : Int} {fs : List (Str × V)} {L : Nat} {st : S} (K : KI L a kept fs st) (lw : st.loc "weight" = some (.int w)) : Wp (denS pi02 (phi pi02 20) lawEv (nthS (bodyS (lawS 8)) 0)) st fun f s' => f = .next ∧ KI L a kept fs s' ∧ Stay st s' ∧ s'.loc "weight" = some (.int w) ∧
    (1 ≤ w ∧ w ≤ 256 → ∃ b, a < b ∧ s'.loc "fresh" = some (.ref b) ∧ StreamAt s' b 9 w) ∧ (¬ (1 ≤ w ∧ w ≤ 256) → s'.loc "fresh" = some .none) := by
  obtain ⟨H1, H2⟩ := lnew_run 17 st 9 w
  have hlt := K.lta
  have run : ∀ {v : V} {s' : S}, bodyM pi02 (phi pi02 19) false f2_new [.int 9, .int w] st = .ok v s' → denS pi02 (phi pi02 20) lawEv (nthS (bodyS (lawS 8)) 0) st = .ok .next { s' with loc := updL s'.loc "fresh" v } :=
    fun h => s_assign rfl (b_call (glob_of (by decide)) rfl (by decide) (by decide) (b_cons b_int (b_cons (b_name (by decide) n_weight lw) b_nil)) (b_callFn (by decide) h)) (a_name n_fresh)
  have keep : ∀ {v : V} {s' : S}, Stay st s' → s'.loc = st.loc → KI L a kept fs { s' with loc := updL s'.loc "fresh" v } := fun hs hl =>
    ⟨(loc_other (by decide)).trans ((congrFun hl _).trans K.l1), (loc_other (by decide)).trans ((congrFun hl _).trans K.l2), (hs.2 _ hlt).trans K.ha, K.hw, K.len, Nat.lt_of_lt_of_le hlt hs.1⟩
  by_cases hw : 1 ≤ w ∧ w ≤ 256
  · obtain ⟨st', h1, h2, h3, h4, h5, h6, h7⟩ := H1 hw
    have hs : Stay st st' := ⟨h2 ▸ Nat.le_add_right _ _, h7⟩
    refine Wp_of (run h1) ⟨rfl, keep hs h3, hs, (loc_other (by decide)).trans ((congrFun h3 _).trans lw), fun _ => ⟨st.next, hlt, loc_same, ?_, h4, h5, h6⟩, fun g => absurd hw g⟩
    show st.next + 2 < st'.next
    omega
  · obtain ⟨st', h1, h2, h3, h7⟩ := H2 hw
    have hs : Stay st st' := ⟨h2 ▸ Nat.le_add_right _ _, h7⟩
    exact Wp_of (run h1) ⟨rfl, keep hs h3, hs, (loc_other (by decide)).trans ((congrFun h3 _).trans lw), fun g => absurd g hw, fun _ => loc_same⟩

/-- what stands after the second statement: the stands' object has its new fields, kept is not yet told -/
structure KJ (a : Nat) (kept w : Int) (fs : List (Str × V)) (st : S) : Prop where
  l1 : st.loc "stands" = some (.ref a)
  l2 : st.loc "kept" = some (.int kept)
  lw : st.loc "weight" = some (.int w)
  lta : a < st.next
  yes : 1 ≤ w ∧ w ≤ 256 → st.loc "put" = some (.ref a) ∧ st.heap a = some (.inst (putR "_weight" (.int w) fs)) ∧ ∃ b, a < b ∧ st.loc "fresh" = some (.ref b) ∧ StreamAt st b 9 w
  no : ¬ (1 ≤ w ∧ w ≤ 256) → st.loc "put" = some .none ∧ st.heap a = some (.inst fs) ∧ st.loc "fresh" = some .none

theorem t1_run {a : Nat} {kept w : Int} {fs : List (Str × V)} {L : Nat} {st : S} (K : KI L a kept fs st) (lw : st.loc "weight" = some (.int w)) (h1 : 1 ≤ w ∧ w ≤ 256 → ∃ b, a < b ∧ st.loc "fresh" = some (.ref b) ∧ StreamAt st b 9 w) (h2 : ¬ (1 ≤ w ∧ w ≤ 256) → st.loc "fresh" = some .none) :
    Wp (denS pi02 (phi pi02 20) lawEv (nthS (bodyS (lawS 8)) 1)) st fun f s' => f = .next ∧ KJ a kept w fs s' ∧ st.next ≤ s'.next ∧ ∀ j, j < st.next → j ≠ a → s'.heap j = st.heap j := by
  have R := lput_run 18 a st fs w K.ha K.len
  have run : ∀ {v : V} {s' : S}, bodyM pi02 (phi pi02 19) false f2_put [.ref a, .int w] st = .ok v s' → denS pi02 (phi pi02 20) lawEv (nthS (bodyS (lawS 8)) 1) st = .ok .next { s' with loc := updL s'.loc "put" v } :=
    fun h => s_assign rfl (b_call (glob_of (by decide)) rfl (by decide) (by decide) (b_cons (b_name (by decide) n_stands K.l1) (b_cons (b_name (by decide) n_weight lw) b_nil)) (b_callFn (by decide) h)) (a_name n_put)
  by_cases hw : 1 ≤ w ∧ w ≤ 256
  · obtain ⟨b, b1, b2, b3⟩ := h1 hw
    have n1 : b ≠ a := Nat.ne_of_gt b1
    have n2 : b + 1 ≠ a := by omega
    have n3 : b + 2 ≠ a := by omega
    exact Wp_of (run (R.1 hw)) ⟨rfl, ⟨(loc_other (by decide)).trans K.l1, (loc_other (by decide)).trans K.l2, (loc_other (by decide)).trans lw, K.lta, fun _ => ⟨loc_same, heap_same, b, b1, (loc_other (by decide)).trans b2, ⟨b3.lt, (heap_other n1).trans b3.fs, (heap_other n2).trans b3.ch, (heap_other n3).trans b3.cq⟩⟩, fun g => absurd hw g⟩, Nat.le_refl _, fun j j1 j2 => heap_other j2⟩
  · exact Wp_of (run (R.2 hw)) ⟨rfl, ⟨(loc_other (by decide)).trans K.l1, (loc_other (by decide)).trans K.l2, (loc_other (by decide)).trans lw, K.lta, fun g => absurd g hw, fun _ => ⟨loc_same, K.ha, (loc_other (by decide)).trans (h2 hw)⟩⟩, Nat.le_refl _, fun j j1 j2 => rfl⟩

/-- the third: kept, and what the new one is -/
theorem t2_run {a : Nat} {kept w : Int} {fs : List (Str × V)} {st : S} (K : KJ a kept w fs st) : Wp (denS pi02 (phi pi02 20) lawEv (nthS (bodyS (lawS 8)) 2)) st fun f s' => f = .next ∧ Stay st s' ∧ s'.loc "stands" = some (.ref a) ∧ s'.loc "kept" = some (.int (if 1 ≤ w ∧ w ≤ 256 then w else kept)) := by
  have nw : ∀ {p : Pos}, denE pi02 (phi pi02 20) lawEv (.Name "weight" p) st = .ok (.int w) st := b_name (by decide) n_weight K.lw
  by_cases hw : 1 ≤ w ∧ w ≤ 256
  · obtain ⟨lp, hh, b, hab, lf, B⟩ := K.yes hw
    rw [if_pos hw]
    have lt := B.lt
    have fr : ∀ {h : Nat → Option AObj} {k : Nat} {p : Pos}, denE pi02 (phi pi02 20) lawEv (.Name "fresh" p) ⟨h, k, updL st.loc "kept" (.int w)⟩ = .ok (.ref b) ⟨h, k, updL st.loc "kept" (.int w)⟩ := b_name (by decide) n_fresh ((loc_other (x := "kept") (y := "fresh") (by decide)).trans lf)
    have pt : ∀ {h : Nat → Option AObj} {k : Nat} {p : Pos}, denE pi02 (phi pi02 20) lawEv (.Name "put" p) ⟨h, k, updL st.loc "kept" (.int w)⟩ = .ok (.ref a) ⟨h, k, updL st.loc "kept" (.int w)⟩ := b_name (by decide) n_put ((loc_other (x := "kept") (y := "put") (by decide)).trans lp)
    have we : ∀ {h : Nat → Option AObj} {k : Nat} {p : Pos}, denE pi02 (phi pi02 20) lawEv (.Name "weight" p) ⟨h, k, updL st.loc "kept" (.int w)⟩ = .ok (.int w) ⟨h, k, updL st.loc "kept" (.int w)⟩ := b_name (by decide) n_weight ((loc_other (x := "kept") (y := "weight") (by decide)).trans K.lw)
    generalize hl : updL st.loc "kept" (.int w) = l at fr pt we
    generalize hA : AObj.list [V.int w, V.none, V.ref (b + 1), V.ref (b + 2)] = A
    generalize hB : AObj.list [V.int w, V.none, V.ref (st.next + 1), V.ref (st.next + 2)] = B'
    have at0 : upd (upd (upd (upd st.heap st.next A) (st.next + 1) (.list [])) (st.next + 2) (.list [])) (st.next + 3) B' st.next = some A := (upd_other (by omega)).trans ((upd_other (by omega)).trans ((upd_other (by omega)).trans (upd_same _ _ _)))
    have at1 : upd (upd (upd (upd st.heap st.next A) (st.next + 1) (.list [])) (st.next + 2) (.list [])) (st.next + 3) B' (st.next + 1) = some (.list []) := (upd_other (by omega)).trans ((upd_other (by omega)).trans (upd_same _ _ _))
    have at2 : upd (upd (upd (upd st.heap st.next A) (st.next + 1) (.list [])) (st.next + 2) (.list [])) (st.next + 3) B' (st.next + 2) = some (.list []) := (upd_other (by omega)).trans (upd_same _ _ _)
    have at3 : upd (upd (upd (upd st.heap st.next A) (st.next + 1) (.list [])) (st.next + 2) (.list [])) (st.next + 3) B' (st.next + 3) = some B' := upd_same _ _ _
    have lo : ∀ j, j < st.next → upd (upd (upd (upd st.heap st.next A) (st.next + 1) (.list [])) (st.next + 2) (.list [])) (st.next + 3) B' j = st.heap j := fun j hj => (upd_other (by omega)).trans ((upd_other (by omega)).trans ((upd_other (by omega)).trans (upd_other (by omega))))
    generalize hH : upd (upd (upd (upd st.heap st.next A) (st.next + 1) (.list [])) (st.next + 2) (.list [])) (st.next + 3) B' = H at at0 at1 at2 at3 lo
    have p1 : pyOf depthLim H (.ref st.next) = some (.list [.int w, .none, .list [], .list []]) := py_list (at0.trans (congrArg some hA.symm)) (py_cons py_int (py_cons py_none (py_cons (py_empty ((lo _ (by omega)).trans B.ch)) (py_cons (py_empty ((lo _ (by omega)).trans B.cq)) py_nil))))
    have p2 : pyOf depthLim H (.ref (st.next + 3)) = some (.list [.int w, .none, .list [], .list []]) := py_list (at3.trans (congrArg some hB.symm)) (py_cons py_int (py_cons py_none (py_cons (py_empty at1) (py_cons (py_empty at2) py_nil))))
    have hi : isInst H (.ref st.next) = false := notInst (at0.trans (congrArg some hA.symm))
    have e1 : ∀ {p1 p2 p3 p4 p5 p6 p7 p8 p9 : Pos}, denE pi02 (phi pi02 20) lawEv (.List [.Attribute (.Name "fresh" p1) "weight" p2, .Attribute (.Name "fresh" p3) "parent" p4, .Attribute (.Name "fresh" p5) "children" p6, .Attribute (.Name "fresh" p7) "child_queue" p8] p9) ⟨st.heap, st.next, l⟩ = .ok (.ref st.next) ⟨upd st.heap st.next A, st.next + 1, l⟩ := by
      rw [← hA]
      exact b_list rfl (b_cons (b_attrW rfl fr B.fs (getW_of B.fs rfl)) (b_cons (b_attr rfl fr B.fs (by decide) (by decide) rfl) (b_cons (b_attr rfl fr B.fs (by decide) (by decide) rfl) (b_cons (b_attr rfl fr B.fs (by decide) (by decide) rfl) b_nil))))
    have e2 : ∀ {p1 p2 p3 p4 p5 : Pos} {k : Nat}, denE pi02 (phi pi02 20) lawEv (.List [.Name "weight" p1, .Constant .none k p2, .List [] p3, .List [] p4] p5) ⟨upd st.heap st.next A, st.next + 1, l⟩ = .ok (.ref (st.next + 3)) ⟨H, st.next + 4, l⟩ := by
      rw [← hH, ← hB]
      exact b_list rfl (b_cons we (b_cons b_none (b_cons (b_list rfl b_nil) (b_cons (b_list rfl b_nil) b_nil))))
    refine Wp_of (s' := ⟨H, st.next + 4, l⟩) (s_ifT (t_cmp2 b_int nw (b_cmpLe.trans (by rw [decide_eq_true hw.1])) b_int (b_cmpLe.trans (by rw [decide_eq_true hw.2]))) (s_cons (s_assign rfl nw ((a_name n_kept).trans (by rw [hl]))) (s_cons (s_ifF (t_or3 (t_cmp fr b_none rfl) (t_cmp pt b_none rfl) (t_cmp e1 e2 (ne_same hi p1 p2 rfl))) s_nil) s_nil))) ⟨rfl, ⟨Nat.le_add_right _ _, lo⟩, ?_, ?_⟩
    · show l "stands" = _
      rw [← hl]
      exact (updL_other (by decide)).trans K.l1
    · show l "kept" = _
      rw [← hl]
      exact updL_same
  · obtain ⟨lp, hh, lf⟩ := K.no hw
    rw [if_neg hw]
    have el : ∀ {p1 p2 p3 p4 p5 p6 p7 p8 : Pos} {k1 k2 : Nat} {b : List Stmt}, denS pi02 (phi pi02 20) lawEv (.If (.BoolOp .Or [.Compare (.Name "fresh" p1) [.IsNot] [.Constant .none k1 p2] p3, .Compare (.Name "put" p4) [.IsNot] [.Constant .none k2 p5] p6] p7) b [] p8) st = .ok .next st :=
      s_ifF (t_or (t_cmp (b_name (by decide) n_fresh lf) b_none rfl) (t_cmp (b_name (by decide) n_put lp) b_none rfl)) s_nil
    refine Wp_of (s' := st) ?_ ⟨rfl, Stay.refl st, K.l1, K.l2⟩
    by_cases h1 : 1 ≤ w
    · exact s_ifF (t_cmp2 b_int nw (b_cmpLe.trans (by rw [decide_eq_true h1])) b_int (b_cmpLe.trans (by rw [decide_eq_false (fun h2 => hw ⟨h1, h2⟩)]))) (s_cons el s_nil)
    · exact s_ifF (t_cmpF b_int nw (b_cmpLe.trans (by rw [decide_eq_false h1]))) (s_cons el s_nil)

theorem t3_run {a : Nat} {kept : Int} {fs : List (Str × V)} {st : S} (l1 : st.loc "stands" = some (.ref a)) (l2 : st.loc "kept" = some (.int kept)) (ha : st.heap a = some (.inst fs)) (hw : getR "_weight" fs = some (.int kept)) : denS pi02 (phi pi02 20) lawEv (nthS (bodyS (lawS 8)) 3) st = .ok .next st :=
  s_ifF (t_cmp (b_attrW rfl (b_name (by decide) n_stands l1) ha (getW_of ha hw)) (b_name (by decide) n_kept l2) (b_cmpNe.trans (by rw [beq_self_eq_true]; rfl))) s_nil

theorem turn_run {a : Nat} {kept w : Int} {fs : List (Str × V)} {L : Nat} {st : S} (K : KI L a kept fs st) (lw : st.loc "weight" = some (.int w)) : Wp (denSs pi02 (phi pi02 20) lawEv (bodyS (lawS 8))) st fun f s' => f = .next ∧ (∃ kept' fs', KI L a kept' fs' s') ∧ st.next ≤ s'.next ∧ ∀ j, j < st.next → j ≠ a → s'.heap j = st.heap j := by
  rw [l8_eq]
  refine Wp_Ss (Wp_mono (t0_run K lw) ?_)
  rintro f s1 ⟨rfl, K1, h1, lw1, y1, n1⟩
  refine ⟨rfl, Wp_Ss (Wp_mono (t1_run K1 lw1 y1 n1) ?_)⟩
  rintro f s2 ⟨rfl, K2, h2, k2⟩
  refine ⟨rfl, Wp_Ss (Wp_mono (t2_run K2) ?_)⟩
  rintro f s3 ⟨rfl, h3, l1, l2⟩
  have key : ∃ fs', s3.heap a = some (.inst fs') ∧ getR "_weight" fs' = some (.int (if 1 ≤ w ∧ w ≤ 256 then w else kept)) ∧ fs'.length < 100 := by
    by_cases hw : 1 ≤ w ∧ w ≤ 256
    · refine ⟨_, (h3.2 _ K2.lta).trans (K2.yes hw).2.1, by rw [if_pos hw]; exact getR_putR, ?_⟩
      rw [len_putR K.hw]
      exact K.len
    · exact ⟨_, (h3.2 _ K2.lta).trans (K2.no hw).2.1, by rw [if_neg hw]; exact K.hw, K.len⟩
  obtain ⟨fs', q1, q2, q3⟩ := key
  refine ⟨rfl, Wp_Ss (Wp_of (t3_run l1 l2 q1 q2) ⟨rfl, Wp_of rfl ⟨rfl, ⟨_, fs', l1, l2, q1, q2, q3, Nat.lt_of_lt_of_le K2.lta h3.1⟩, Nat.le_trans h1.1 (Nat.le_trans h2 h3.1), fun j j1 j2 => ?_⟩⟩)⟩
  rw [h3.2 j (Nat.lt_of_lt_of_le j1 (Nat.le_trans h1.1 h2)), k2 j (Nat.lt_of_lt_of_le j1 h1.1) j2, h1.2 j j1]
end Mine
end

section
open PySem
set_option maxRecDepth 100000
set_option linter.unusedVariables false
set_option linter.unusedSimpArgs false
namespace Mine

noncomputable def forIt : Stmt → Expr
  | .For _ it _ _ _ => it
  | _ => .Name "" default

theorem b_cat {i j : Nat} {xs ys : List V} {st : S} (h1 : st.heap i = some (.list xs)) (h2 : st.heap j = some (.list ys)) (hl : xs.length + ys.length < 100000) : binV .Add (.ref i) (.ref j) st = .ok (.ref st.next) { st with heap := upd st.heap st.next (.list (xs ++ ys)), next := st.next + 1 } :=
  b_ref (b_ref (b_seq (rdL_at h1) (b_seq (rdL_at h2) (b_if hl rfl))))

theorem it8_run {ns : List Int} {st : S} (h63 : ns.length ≤ 63) (l1 : st.loc "script" = some (.ref 0)) (h0 : st.heap 0 = some (.ro (ns.map .int))) :
    ∃ M L, denE pi02 (phi pi02 20) lawEv (forIt (lawS 8)) st = .ok (.ref L) M ∧ M.heap L = some (.list ((ns.map .int).take 12 ++ [0, 1, 256, 257].map .int)) ∧ M.loc = st.loc ∧ L < M.next ∧ Stay st M := by
  have b2 : (ns.map V.int).length < 100000 := by rw [List.length_map]; exact Nat.lt_of_le_of_lt h63 (by decide)
  have b3 : ((ns.map V.int).take 12).length + ([0, 1, 256, 257].map V.int).length < 100000 := by
    rw [List.length_take]
    show min 12 _ + 4 < 100000
    omega
  exact ⟨_, _, b_bin (b_slice (b_name (by decide) n_script l1) b_int (sl_at (rdS_ro h0) ⟨by decide, by decide, b2⟩)) (b_list rfl (b_cons b_int (b_cons b_int (b_cons b_int (b_cons b_int b_nil))))) (b_cat (xs := (ns.map V.int).take 12) (ys := [0, 1, 256, 257].map V.int) ((heap_other (Nat.ne_of_lt (Nat.lt_succ_self _))).trans heap_same) heap_same b3),
    heap_same, rfl, Nat.lt_succ_self _, Nat.le_add_right _ 3, fun j hj => (upd_other (Nat.ne_of_lt (Nat.lt_of_lt_of_le hj (Nat.le_add_right _ 2)))).trans ((upd_other (Nat.ne_of_lt (Nat.lt_succ_of_lt hj))).trans (upd_other (Nat.ne_of_lt hj)))⟩

theorem s8_run {ns zs : List Int} {nid a : Nat} {fs : List (Str × V)} {st : S} (h63 : ns.length ≤ 63) (l1 : st.loc "script" = some (.ref 0)) (h0 : st.heap 0 = some (.ro (ns.map .int))) (hn : 0 < st.next)
    (K : ∀ L, KI L a 16 fs st) : Wp (denS pi02 (phi pi02 20) lawEv (lawS 8)) st fun f s' => f = .next := by
  obtain ⟨M, L, hit, hat, hloc, hL, hs⟩ := it8_run h63 l1 h0
  have e1 : lawEv.names.lookup ("weight" : Str) = some NameKind.local := by decide
  have K0 := K L
  have hlt := K0.lta
  suffices loop : Wp (loopD wlim (nextIt L (targetV lawEv (.Name "weight" ⟨0, 0, 0, 0⟩))) (denSs pi02 (phi pi02 20) lawEv (bodyS (lawS 8))) 0) M fun f s' => f = .next by
    obtain ⟨f, s', e, q⟩ := loop
    exact ⟨f, s', b_if (c := (true && true) = true) (m := forM lawEv (.Name "weight" ⟨0, 0, 0, 0⟩) (denE pi02 (phi pi02 20) lawEv (forIt (lawS 8))) (denSs pi02 (phi pi02 20) lawEv (bodyS (lawS 8)))) (m' := failM) rfl (b_seq hit (b_seq (itOf_at hat) e)), q⟩
  refine Wp_loop (fun _ s => (∃ kept fs', KI L a kept fs' s) ∧ L < s.next ∧ s.heap L = some (.list ((ns.map .int).take 12 ++ [0, 1, 256, 257].map .int))) e1 ?h0 ?hlen (fun k s h => h.2.2) ?step (fun s _ => rfl)
  case hlen =>
    rw [List.length_append, List.length_take]
    show min 12 _ + 4 < 100
    omega
  case h0 => exact ⟨⟨16, fs, (congrFun hloc _).trans K0.l1, (congrFun hloc _).trans K0.l2, (hs.2 _ hlt).trans K0.ha, K0.hw, K0.len, Nat.lt_of_lt_of_le hlt hs.1⟩, hL, hat⟩
  case step =>
    rintro k hk s ⟨⟨kept, fs', K1⟩, h2, h3⟩
    have hv : ∃ w : Int, ((ns.map V.int).take 12 ++ [0, 1, 256, 257].map V.int)[k] = .int w := by
      have := List.getElem_mem hk
      rcases List.mem_append.mp this with h | h
      · obtain ⟨w, _, e⟩ := List.mem_map.mp (List.mem_of_mem_take h)
        exact ⟨w, e.symm⟩
      · obtain ⟨w, _, e⟩ := List.mem_map.mp h
        exact ⟨w, e.symm⟩
    obtain ⟨w, hw⟩ := hv
    rw [hw]
    have K2 : KI L a kept fs' { s with loc := updL s.loc "weight" (.int w) } := ⟨(loc_other (by decide)).trans K1.l1, (loc_other (by decide)).trans K1.l2, K1.ha, K1.hw, K1.len, K1.lta⟩
    refine Wp_mono (turn_run K2 (w := w) loc_same) ?_
    rintro f s' ⟨rfl, g1, g2, g3⟩
    have hne : L ≠ a := by
      rintro rfl
      rw [K1.ha] at h3
      cases h3
    exact ⟨rfl, g1, Nat.lt_of_lt_of_le h2 g2, (g3 L h2 hne).trans h3⟩

theorem law02 (ns : List Int) (h63 : ns.length ≤ 63) : ∃ st', res02 ns = .ok (.ret (.bool true)) st' := by
  have key : Wp (denSs pi02 (phi pi02 20) lawEv f2_law.body) (st02 ns) fun f _ => f = .ret (.bool true) := by
    rw [law_body]
    refine Wp_Ss (Wp_mono (s0_run ns h63) ?_)
    rintro f s1 ⟨rfl, zs, nid, P⟩
    refine ⟨rfl, Wp_Ss (Wp_mono (s1_run P) ?_)⟩
    rintro f s2 ⟨rfl, P, sid, ids, Sx⟩
    refine ⟨rfl, Wp_Ss (Wp_mono (s2_run P Sx) ?_)⟩
    rintro f s3 ⟨rfl, P, Sx, oid, jds, O⟩
    refine ⟨rfl, Wp_Ss (Wp_mono (s3_run ⟨P, Sx, O⟩) ?_)⟩
    rintro f s4 ⟨rfl, L⟩
    refine ⟨rfl, Wp_Ss (Wp_mono (s4_run L) ?_)⟩
    rintro f s5 ⟨rfl, L⟩
    refine ⟨rfl, Wp_Ss (Wp_mono (s5_run L) ?_)⟩
    rintro f s6 ⟨rfl, P, a, a0, l1, A⟩
    refine ⟨rfl, Wp_Ss (Wp_mono (s6_run P a0 l1 A) ?_)⟩
    rintro f s7 ⟨rfl, g1, g2, g3, g4⟩
    refine ⟨rfl, Wp_Ss (Wp_of s7_run ⟨rfl, ?_⟩)⟩
    have hlt := A.lt
    have hp := P.p0
    refine Wp_Ss (Wp_mono (s8_run (zs := zs) (nid := nid) (ns := ns) (a := a) (fs := newFs a 9 16) h63 ?_ ?_ ?_ ?_) ?_)
    · exact (loc_other (by decide)).trans ((congrFun g1 _).trans P.l1)
    · exact g2.trans P.h0
    · exact Nat.lt_of_lt_of_le hp g4
    · intro L
      exact ⟨(loc_other (by decide)).trans ((congrFun g1 _).trans l1), loc_same, g3.trans A.fs, rfl, (show (8 : Nat) < 100 by decide), by show a < s7.next; omega⟩
    · rintro f s8 rfl
      refine ⟨rfl, ?_⟩
      refine Wp_of (a := Flow.ret (.bool true)) (s' := s8) ?_ rfl
      show (denS pi02 (phi pi02 20) lawEv (lawS 9) >>= fun (f : Flow) => match f with | .next => denSs pi02 (phi pi02 20) lawEv [] | f => pure f) s8 = _
      rw [bind_run, s9_run]
      rfl
  obtain ⟨f, st', e, rfl⟩ := key
  exact ⟨st', e⟩
end Mine
end

section
open PySem PySem.W PySem.Calls PyProof.Rows
set_option maxRecDepth 100000
set_option maxHeartbeats 8000000
set_option linter.unusedVariables false
namespace Mine
open_top hd02 for PySem.Challenge.rw_it0021_02
set_option pp.maxSteps 20000

noncomputable abbrev K02 (w : World) : Frag := hd02.heap_39 w.params
noncomputable def c02 (w : World) (h : Heap) : Cx := { prog := PySem.Challenge.rw_it0021_02.row.prog, w, K := hd02.heap_39 w.params, C := 173, base := h, P := pi02 }

theorem bindR_exact {params : List Str} {pos us : List Value} (h : bindR params [] pos = some us) : pos.length = params.length ∧ us = pos := by
  unfold bindR at h
  split at h
  · rename_i q
    cases h
    exact ⟨Nat.le_antisymm q.1 q.2, by rw [List.drop_nil, List.append_nil]⟩
  · cases h

theorem fnOk_of {c : Cx} {code : FnC} {fa : Addr} {oc od osl name qual params dV kV doc pm an cdv ct} (h1 : c.K.lookup fa = some ⟨oc, od, .func (fnOf name qual params code.body code.scope dV kV doc pm an cdv ct), osl⟩) (h2 : codeIn c.K cdv qual = true)
    (hd : code.defaults = []) (hb : ∀ pos : List Value, pos.length = code.params.length → bindArgs (fnOf name qual params code.body code.scope dV kV doc pm an cdv ct) ⟨pos, []⟩ = pure (code.params.zip pos))
    (co : code.scope.isCoroutine = false) (gen : code.scope.isGenerator = false) (kind : code.scope.kind = .function) (nodup : code.params.Nodup) (par : ∀ x ∈ code.params, code.scope.names.lookup x = some .local ∨ code.scope.names.lookup x = some .cell) : FnOk c code fa where
  fn := ⟨oc, od, osl, name, qual, params, dV, kV, doc, pm, an, cdv, ct, [], h1, h2, fun _ => by rw [hd]; trivial, fun s pos us X hx => by
    obtain ⟨hl, rfl⟩ := bindR_exact hx
    exact BindsTo.of_eq (hb _ hl)⟩
  co := co
  gen := gen
  kind := kind
  nodup := nodup
  par := par

theorem fn2_ahead (w : World) (h : Heap) : FnOk (c02 w h) f2_ahead 28 := by
  refine' fnOk_of (c := c02 w h) (code := f2_ahead) ?h1 ?h2 rfl ?hb rfl rfl rfl (by decide) (by decide)
  case h1 => show (hd02.heap_39 w.params).lookup 28 = _; k_is
  case h2 => show codeIn (hd02.heap_39 w.params) _ _ = _; k_is
  case hb =>
    intro pos hl
    match pos, hl with
    | [a0, a1], _ => rfl

theorem fn2_push (w : World) (h : Heap) : FnOk (c02 w h) f2_push 35 := by
  refine' fnOk_of (c := c02 w h) (code := f2_push) ?h1 ?h2 rfl ?hb rfl rfl rfl (by decide) (by decide)
  case h1 => show (hd02.heap_39 w.params).lookup 35 = _; k_is
  case h2 => show codeIn (hd02.heap_39 w.params) _ _ = _; k_is
  case hb =>
    intro pos hl
    match pos, hl with
    | [a0, a1], _ => rfl

theorem fn2_new (w : World) (h : Heap) : FnOk (c02 w h) f2_new 184 := by
  refine' fnOk_of (c := c02 w h) (code := f2_new) ?h1 ?h2 rfl ?hb rfl rfl rfl (by decide) (by decide)
  case h1 => show (hd02.heap_39 w.params).lookup 184 = _; k_is
  case h2 => show codeIn (hd02.heap_39 w.params) _ _ = _; k_is
  case hb =>
    intro pos hl
    match pos, hl with
    | [a0, a1], _ => rfl

theorem fn2_put (w : World) (h : Heap) : FnOk (c02 w h) f2_put 191 := by
  refine' fnOk_of (c := c02 w h) (code := f2_put) ?h1 ?h2 rfl ?hb rfl rfl rfl (by decide) (by decide)
  case h1 => show (hd02.heap_39 w.params).lookup 191 = _; k_is
  case h2 => show codeIn (hd02.heap_39 w.params) _ _ = _; k_is
  case hb =>
    intro pos hl
    match pos, hl with
    | [a0, a1], _ => rfl

theorem fn2_add (w : World) (h : Heap) : FnOk (c02 w h) f2_add 99 := by
  refine' fnOk_of (c := c02 w h) (code := f2_add) ?h1 ?h2 rfl ?hb rfl rfl rfl (by decide) (by decide)
  case h1 => show (hd02.heap_39 w.params).lookup 99 = _; k_is
  case h2 => show codeIn (hd02.heap_39 w.params) _ _ = _; k_is
  case hb =>
    intro pos hl
    match pos, hl with
    | [a0, a1], _ => rfl

theorem fn2_eq (w : World) (h : Heap) : FnOk (c02 w h) f2_eq 135 := by
  refine' fnOk_of (c := c02 w h) (code := f2_eq) ?h1 ?h2 rfl ?hb rfl rfl rfl (by decide) (by decide)
  case h1 => show (hd02.heap_39 w.params).lookup 135 = _; k_is
  case h2 => show codeIn (hd02.heap_39 w.params) _ _ = _; k_is
  case hb =>
    intro pos hl
    match pos, hl with
    | [a0, a1], _ => rfl

theorem fn2_ne (w : World) (h : Heap) : FnOk (c02 w h) f2_ne 142 := by
  refine' fnOk_of (c := c02 w h) (code := f2_ne) ?h1 ?h2 rfl ?hb rfl rfl rfl (by decide) (by decide)
  case h1 => show (hd02.heap_39 w.params).lookup 142 = _; k_is
  case h2 => show codeIn (hd02.heap_39 w.params) _ _ = _; k_is
  case hb =>
    intro pos hl
    match pos, hl with
    | [a0, a1], _ => rfl

theorem fn2_lt (w : World) (h : Heap) : FnOk (c02 w h) f2_lt 149 := by
  refine' fnOk_of (c := c02 w h) (code := f2_lt) ?h1 ?h2 rfl ?hb rfl rfl rfl (by decide) (by decide)
  case h1 => show (hd02.heap_39 w.params).lookup 149 = _; k_is
  case h2 => show codeIn (hd02.heap_39 w.params) _ _ = _; k_is
  case hb =>
    intro pos hl
    match pos, hl with
    | [a0, a1], _ => rfl

theorem fn2_le (w : World) (h : Heap) : FnOk (c02 w h) f2_le 156 := by
  refine' fnOk_of (c := c02 w h) (code := f2_le) ?h1 ?h2 rfl ?hb rfl rfl rfl (by decide) (by decide)
  case h1 => show (hd02.heap_39 w.params).lookup 156 = _; k_is
  case h2 => show codeIn (hd02.heap_39 w.params) _ _ = _; k_is
  case hb =>
    intro pos hl
    match pos, hl with
    | [a0, a1], _ => rfl

theorem fn2_gt (w : World) (h : Heap) : FnOk (c02 w h) f2_gt 163 := by
  refine' fnOk_of (c := c02 w h) (code := f2_gt) ?h1 ?h2 rfl ?hb rfl rfl rfl (by decide) (by decide)
  case h1 => show (hd02.heap_39 w.params).lookup 163 = _; k_is
  case h2 => show codeIn (hd02.heap_39 w.params) _ _ = _; k_is
  case hb =>
    intro pos hl
    match pos, hl with
    | [a0, a1], _ => rfl

theorem fn2_ge (w : World) (h : Heap) : FnOk (c02 w h) f2_ge 170 := by
  refine' fnOk_of (c := c02 w h) (code := f2_ge) ?h1 ?h2 rfl ?hb rfl rfl rfl (by decide) (by decide)
  case h1 => show (hd02.heap_39 w.params).lookup 170 = _; k_is
  case h2 => show codeIn (hd02.heap_39 w.params) _ _ = _; k_is
  case hb =>
    intro pos hl
    match pos, hl with
    | [a0, a1], _ => rfl

theorem fn2_getW (w : World) (h : Heap) : FnOk (c02 w h) f2_getW 82 := by
  refine' fnOk_of (c := c02 w h) (code := f2_getW) ?h1 ?h2 rfl ?hb rfl rfl rfl (by decide) (by decide)
  case h1 => show (hd02.heap_39 w.params).lookup 82 = _; k_is
  case h2 => show codeIn (hd02.heap_39 w.params) _ _ = _; k_is
  case hb =>
    intro pos hl
    match pos, hl with
    | [a0], _ => rfl

theorem fn2_setW (w : World) (h : Heap) : FnOk (c02 w h) f2_setW 91 := by
  refine' fnOk_of (c := c02 w h) (code := f2_setW) ?h1 ?h2 rfl ?hb rfl rfl rfl (by decide) (by decide)
  case h1 => show (hd02.heap_39 w.params).lookup 91 = _; k_is
  case h2 => show codeIn (hd02.heap_39 w.params) _ _ = _; k_is
  case hb =>
    intro pos hl
    match pos, hl with
    | [a0, a1], _ => rfl

theorem fn2_init (w : World) (h : Heap) : FnOk (c02 w h) f2_init 75 where
  fn := by
    show ∃ oc od osl name qual params dV kV doc pm an cdv ct dvs, (hd02.heap_39 w.params).lookup 75 = some ⟨oc, od, .func (fnOf name qual params f2_init.body f2_init.scope dV kV doc pm an cdv ct), osl⟩ ∧ codeIn (hd02.heap_39 w.params) cdv qual = true ∧ _
    refine ⟨_, _, _, _, _, _, _, _, _, _, _, _, _, [.int 16 261], (by k_is), (by k_is), fun W => ⟨⟨261, rfl⟩, trivial⟩, ?_⟩
    intro s pos us X hx
    have X' : (hd02.heap_39 w.params).In s.heap := X
    match pos, hx with
    | [], hx => exact nomatch (show none = some us from hx)
    | [a], hx => exact nomatch (show none = some us from hx)
    | [a, b], hx =>
      obtain rfl := Option.some.inj ((show bindR _ _ [a, b] = some _ from rfl).symm.trans hx)
      exact binds_K X' rfl (by k_is) rfl rfl rfl
    | [a, b, d], hx =>
      obtain rfl := Option.some.inj ((show bindR _ _ [a, b, d] = some _ from rfl).symm.trans hx)
      exact binds_K X' rfl (by k_is) rfl rfl rfl
    | _ :: _ :: _ :: _ :: r, hx => exact nomatch ((show bindR f2_init.params [.int 16 261] (_ :: _ :: _ :: _ :: r) = none from if_neg fun q => Nat.not_succ_le_zero _ (Nat.le_of_succ_le_succ (Nat.le_of_succ_le_succ (Nat.le_of_succ_le_succ q.1)))).symm.trans hx)
  co := rfl
  gen := rfl
  kind := rfl
  nodup := by decide
  par := by decide

theorem cx02 (w : World) {h : Heap} {mg mb : Str → Option Value} {p : Program} {loose : List Str} (KX : (hd02.heap_39 w.params).In h) (T : TopRead p loose mg mb h) : CxOk (c02 w h) where
  X := KX
  g := ⟨mg, mb, T.g, T.b, T.builtins⟩
  lim := T.nolimit
  get := fun n => (show plainGet (hd02.heap_39 w.params) 173 "x" = true by k_is)
  hasDict := by show hasDictIn (hd02.heap_39 w.params) 173 = true; k_is
  setattr := by show findIn (hd02.heap_39 w.params) (.ref 173) "__setattr__" = _; k_is
  over := by show plainOver (hd02.heap_39 w.params) 173 = true; k_is
  makes := by show makesIn (hd02.heap_39 w.params) 173 = true; k_is
  keep := by show keepIn (hd02.heap_39 w.params) (.ref 173) = true; k_is
  stream := by show nsIn (hd02.heap_39 w.params) mainGlobals "Stream" = _; k_is
  fields := by
    intro x hx
    show findIn (hd02.heap_39 w.params) (.ref 173) x = some none ∧ takerIn (hd02.heap_39 w.params) 173 x = some none
    have hx' : x ∈ (["stream_id", "_weight", "children", "parent", "child_queue", "active", "last_weight", "_deficit"] : List Str) := hx
    simp only [List.mem_cons, List.not_mem_nil, or_false] at hx'
    rcases hx' with rfl | rfl | rfl | rfl | rfl | rfl | rfl | rfl <;> exact ⟨by k_is, by k_is⟩
  weight := by
    refine ⟨mg, T.g, 58, "Exception", "Exception.__new__", _, _, "Exception", _, _, [.type "Exception", .type "BaseException", .type "object"], ?_, PySem.F.excBase_Exception, by decide, PySem.F.excBase_Exception, own_of_in KX T ?_ ?_⟩
    · show nsIn (hd02.heap_39 w.params) mainGlobals "BadWeightError" = _; k_is
    · show nsIn (hd02.heap_39 w.params) mainGlobals "BadWeightError" = _; k_is
    · first | k_exc | kernel_rfl
  dbg := rfl
  fn := by
    intro f code hc
    have hc' : code02 f = some code := hc
    cases f with
    | glob n =>
      simp only [code02] at hc'
      split at hc'
      · rename_i e; subst e; cases hc'; exact ⟨28, (by show nsIn (hd02.heap_39 w.params) mainGlobals "_ahead" = _; k_is), fn2_ahead w h⟩
      split at hc'
      · rename_i e; subst e; cases hc'; exact ⟨35, (by show nsIn (hd02.heap_39 w.params) mainGlobals "heappush" = _; k_is), fn2_push w h⟩
      split at hc'
      · rename_i e; subst e; cases hc'; exact ⟨184, (by show nsIn (hd02.heap_39 w.params) mainGlobals "_law_new" = _; k_is), fn2_new w h⟩
      split at hc'
      · rename_i e; subst e; cases hc'; exact ⟨191, (by show nsIn (hd02.heap_39 w.params) mainGlobals "_law_put" = _; k_is), fn2_put w h⟩
      cases hc'
    | meth n =>
      simp only [code02] at hc'
      split at hc'
      · rename_i e; subst e; cases hc'; exact ⟨75, ⟨(by show findIn (hd02.heap_39 w.params) (.ref 173) "__init__" = _; k_is), (by show isFn (hd02.heap_39 w.params) (.ref 75) = true; k_is)⟩, fn2_init w h⟩
      split at hc'
      · rename_i e; subst e; cases hc'; exact ⟨99, ⟨(by show findIn (hd02.heap_39 w.params) (.ref 173) "add_child" = _; k_is), (by show isFn (hd02.heap_39 w.params) (.ref 99) = true; k_is)⟩, fn2_add w h⟩
      split at hc'
      · rename_i e; subst e; cases hc'; exact ⟨135, ⟨(by show findIn (hd02.heap_39 w.params) (.ref 173) "__eq__" = _; k_is), (by show isFn (hd02.heap_39 w.params) (.ref 135) = true; k_is)⟩, fn2_eq w h⟩
      split at hc'
      · rename_i e; subst e; cases hc'; exact ⟨142, ⟨(by show findIn (hd02.heap_39 w.params) (.ref 173) "__ne__" = _; k_is), (by show isFn (hd02.heap_39 w.params) (.ref 142) = true; k_is)⟩, fn2_ne w h⟩
      split at hc'
      · rename_i e; subst e; cases hc'; exact ⟨149, ⟨(by show findIn (hd02.heap_39 w.params) (.ref 173) "__lt__" = _; k_is), (by show isFn (hd02.heap_39 w.params) (.ref 149) = true; k_is)⟩, fn2_lt w h⟩
      split at hc'
      · rename_i e; subst e; cases hc'; exact ⟨156, ⟨(by show findIn (hd02.heap_39 w.params) (.ref 173) "__le__" = _; k_is), (by show isFn (hd02.heap_39 w.params) (.ref 156) = true; k_is)⟩, fn2_le w h⟩
      split at hc'
      · rename_i e; subst e; cases hc'; exact ⟨163, ⟨(by show findIn (hd02.heap_39 w.params) (.ref 173) "__gt__" = _; k_is), (by show isFn (hd02.heap_39 w.params) (.ref 163) = true; k_is)⟩, fn2_gt w h⟩
      split at hc'
      · rename_i e; subst e; cases hc'; exact ⟨170, ⟨(by show findIn (hd02.heap_39 w.params) (.ref 173) "__ge__" = _; k_is), (by show isFn (hd02.heap_39 w.params) (.ref 170) = true; k_is)⟩, fn2_ge w h⟩
      cases hc'
    | getW => cases hc'; exact ⟨82, ⟨92, _, (by show findIn (hd02.heap_39 w.params) (.ref 173) "weight" = _; k_is), (by show recIn (hd02.heap_39 w.params) 92 "property" = _; k_is)⟩, fn2_getW w h⟩
    | setW => cases hc'; exact ⟨91, ⟨92, _, _, (by show findIn (hd02.heap_39 w.params) (.ref 173) "weight" = _; k_is), (by show recIn (hd02.heap_39 w.params) 92 "property" = _; k_is)⟩, fn2_setW w h⟩
  prop := by
    refine ⟨92, ?_, ?_, ?_, ?_, ?_⟩
    · show findIn (hd02.heap_39 w.params) (.ref 173) "weight" = _; k_is
    · show specialIn (hd02.heap_39 w.params) (.ref 92) "__get__" = _; k_is
    · show takesIn (hd02.heap_39 w.params) (.ref 92) = _; k_is
    · show takerIn (hd02.heap_39 w.params) 173 "weight" = _; k_is
    · show typeIn (hd02.heap_39 w.params) (.ref 92) = _; k_is
  frees := by
    intro n hn
    show nsIn (hd02.heap_39 w.params) mainGlobals n = some none
    simp only [List.mem_cons, List.not_mem_nil, or_false] at hn
    rcases hn with rfl | rfl | rfl | rfl | rfl <;> k_is
  isi := by
    show kitOne (hd02.heap_39 w.params) _ _ = _ ∧ kitOne (hd02.heap_39 w.params) _ _ = _ ∧ kitOne (hd02.heap_39 w.params) _ _ = _
    exact ⟨by kernel_rfl, by kernel_rfl, by kernel_rfl⟩
  isiC := by
    refine ⟨?_, ?_, ?_, ?_⟩
    · show findIn (hd02.heap_39 w.params) (.ref 173) "__class__" = _; k_is
    · show specialIn (hd02.heap_39 w.params) (.builtin "object.__class__") "__get__" = _; k_is
    · show takesIn (hd02.heap_39 w.params) (.builtin "object.__class__") = _; k_is
    · show mroIn (hd02.heap_39 w.params) 173 (.type "object") = _; k_is
  subInt := by show subIn (hd02.heap_39 w.params) (.type "int") (.ref 173) = some false; k_is

/-! the join -/
theorem vs_ints {W : Wd} : ∀ {vs : List Value} {ns : List Int}, IntsAre vs ns → VsRel W (ns.map V.int) vs
  | _, _, .nil => trivial
  | _, _, .cons _ _ h => ⟨⟨_, rfl⟩, vs_ints h⟩


noncomputable def w02 (a L : Addr) : Wd := { n := 1, ρ := fun _ => a, δ := fun _ => 0, lab := fun x => if x = L then some .frame else none }

theorem law_runs {w : World} {s₁ : Shared} {mg mb : Str → Option Value} {p : Program} {loose : List Str} (KX : (hd02.heap_39 w.params).In s₁.heap) (T : TopRead p loose mg mb s₁.heap)
    {a : Addr} {vs : List Value} {ns : List Int} {h₁ : Heap} {tk : Nat} {m : Str → Option Value} {env : Env} (hL : s₁.heap.IsList a vs.toArray) (hI : IntsAre vs ns) (F : Fr s₁.heap s₁.heap.objs.size h₁ m) (hm : m "script" = some (.ref a))
    (hgood : ∃ st', res02 ns = .ok (.ret (.bool true)) st')
    (e1 : env.scope = f2_law.scope) (e2 : env.locals = s₁.heap.objs.size) (e3 : env.globals = mainGlobals) (e4 : env.builtins = builtinsNs) (e5 : env.frame = some s₁.heap.objs.size)
    {Q : PySem.Flow → Shared → Prop} {E : Value → Shared → Prop}
    (hQ : ∀ s', (∀ b o, s₁.heap.get? b = some o → s'.heap.get? b = some o) → Same { s₁ with heap := h₁, toks := tk } s' → Q (.ret (.bool true)) s') :
    wpAny (model PySem.Challenge.rw_it0021_02.row.prog w) (callerA.deeper env) (execs f2_law.body env) Q E { s₁ with heap := h₁, toks := tk } := by
  have C := cx02 w KX T
  let g : G := { c := c02 w s₁.heap, d := 20, k := 0, hd := false, pins := [], fenvs := [env], L := s₁.heap.objs.size, fr := [] }
  have fo : FOk g := by
    intro e he
    obtain rfl := List.mem_singleton.mp he
    exact ⟨by rw [e1]; decide, _, e5, .head _⟩
  have hA : AOk g (callerA.deeper env) := by
    refine ⟨fo, Around.frames_deeper rfl, .inl rfl, Nat.zero_le _, ?_, ?_⟩
    · show 1 + claimMargin + 1 + 8 * 20 ≤ 980 + 0
      decide
    · show 4 + 3 + 60 * 20 ≤ 9800 + 0
      decide
  have D : Gd g := ⟨C, fnSim_all C 20, Nat.zero_le _⟩
  have Tp : EnvTop g env := ⟨fo, [], _, rfl, e5⟩
  have O : EnvOk g (w02 a s₁.heap.objs.size) { names := f2_law.scope.names, hd := false } env :=
    ⟨by rw [e1]; rfl, fun x => by rw [e1], e3, e4, e2, rfl⟩
  have hS : St g (w02 a s₁.heap.objs.size) m (st02 ns) { s₁ with heap := h₁, toks := tk } := by
    refine ⟨⟨F.keep, ?_, (fun p hp => nomatch hp), ?_, ?_, ?_, (fun p hp => nomatch hp), ?_, ?_, ?_, ?_, ?_⟩, rfl, ?_⟩
    · intro p hp
      obtain rfl := List.mem_singleton.mp hp
      exact F.ns
    · intro i o e
      have e' : (if i = 0 then some (AObj.ro (ns.map .int)) else none) = some o := e
      split at e'
      · rename_i z; rw [z]; exact Nat.zero_lt_one
      · cases e'
    · intro i o e
      have e' : (if i = 0 then some (AObj.ro (ns.map .int)) else none) = some o := e
      split at e'
      · cases e'; exact ⟨vs, hL, vs_ints hI⟩
      · cases e'
    · intro p hp
      obtain rfl := List.mem_singleton.mp hp
      exact if_pos rfl
    · intro i o e hn
      have e' : (if i = 0 then some (AObj.ro (ns.map .int)) else none) = some o := e
      split at e'
      · cases e'; exact hn.elim
      · cases e'
    · intro i fs e
      have e' : (if i = 0 then some (AObj.ro (ns.map .int)) else none) = some (.inst fs) := e
      split at e' <;> cases e'
    · intro x hx
      have hx' : (if x = s₁.heap.objs.size then some Tag.frame else none) ≠ none := hx
      split at hx'
      · rename_i z
        subst z
        obtain ⟨o, _, _, ho, _⟩ := F.ns
        exact ⟨⟨base_none (c := c02 w s₁.heap) (Nat.le_refl _), fun _ => Nat.le_refl _⟩, o, ho⟩
      · exact absurd rfl hx'
    · show ([s₁.heap.objs.size] : List Addr).Nodup
      exact List.nodup_cons.mpr ⟨(fun h => nomatch h), List.nodup_nil⟩
    · obtain ⟨o, _, _, ho, _⟩ := F.ns
      exact Nat.le_of_lt (Heap.lt_size ho)
    · intro x v e
      have e' : (if x = ("script" : Str) then some (V.ref 0) else none) = some v := e
      split at e'
      · rename_i z; subst z; cases e'
        exact ⟨_, hm, Nat.zero_lt_one, rfl⟩
      · cases e'
  obtain ⟨st', hr⟩ := hgood
  have hr' : denSs g.c.P (phi g.c.P g.d) { names := f2_law.scope.names, hd := false } f2_law.body (st02 ns) = .ok (.ret (.bool true)) st' := hr
  refine snd_Ss f2_law.body D Tp O _ _ _ _ _ _ _ hA (Ext.refl _) hS ?_
  rw [hr']
  rintro W' mm' s' f' hx' hS' hs' ⟨u, rfl, rfl⟩
  exact hQ s' hS'.inv.stays hs'

theorem post_true (l : OpenLaw) (args args' : List WData) : l.row.claim.post args (.bool true) args' = true := by
  have h1 : WShape.has [] (WData.bool true) .bool = true := by first | rfl | decide | kernel_rfl | (simp [WShape.has, WShape.arms]; done)
  have h2 : PySem.W.same (WData.bool true) (WData.bool true) = true := by first | rfl | decide | kernel_rfl
  show (WShape.has [] (WData.bool true) .bool && WTm.holds [] (.eq .res (.lit (.bool true))) { args := args, res := some (.bool true), after := args' }) = true
  rw [h1, Bool.true_and]
  unfold WTm.holds WTm.value
  simp [WTm.value, h2]

theorem final02 (law : ∀ ns : List Int, ns.length ≤ 63 → ∃ st', res02 ns = .ok (.ret (.bool true)) st') : PySem.Challenge.rw_it0021_02.Holds := hd02 (by
  k_go0
  all_goals (try k_fold)
  rename Fr _ _ _ _ => F
  rename Frag.In _ _ => KX
  rename Top _ _ _ _ _ _ => T
  rename IntsAre _ _ => hI
  rename Heap.IsList _ _ _ => hL
  rename _ = #[] => hg
  refine law_runs KX (topRead_of T) hL hI F rfl (law _ ?hlen) rfl rfl rfl rfl rfl ?hQ
  case hlen => omega
  case hQ =>
    rintro s' keep ⟨h', tk', rfl⟩
    refine ⟨.inl ⟨.bool true, .bool true, [], rfl, fun _ => rfl, .bool true, ?post, fun _ => ⟨List.nodup_nil, fun _ h => nomatch h⟩⟩, keep, rfl, hg⟩
    exact post_true _ _ _)
end Mine
end

theorem PySem.Challenge.cw_it0021_02_holds : PySem.Challenge.rw_it0021_02.Holds :=
  Mine.final02 Mine.law02
