import PyProof.Rows.All
import Wide.All
import OpenK.AllK
import Wide.FinOn
import PyProof.Rows.ZipGen
import PyProof.Rows.FactsT2
import PySem.Challenge.RW_it0021_01
set_option Elab.async false
set_option maxRecDepth 100000
set_option linter.unusedVariables false
set_option linter.unusedSimpArgs false
set_option genSizeOf false
namespace Mine
section
open PySem
section
theorem ltl {a b c : Nat} (h : a < b) (h' : b ≤ c) : a < c := Nat.le_trans h h'
theorem smp {α : Type _} {a b : α} (h : a ∈ [b]) : a = b := by rw [List.mem_singleton] at h; exact h
theorem sj {α : Type _} {a b : α} (h : some a = some b) : a = b := by injection h
theorem lexT {a b c a' b' c' : Int} (h1 : a < b ∨ (a = b ∧ a' ≤ b')) (h2 : b < c ∨ (b = c ∧ b' ≤ c')) : a < c ∨ (a = c ∧ a' ≤ c') := by
 rcases h1 with h1 | ⟨rfl, h1⟩
 ·exact .inl (h2.elim (Int.lt_trans h1) fun q => q.1 ▸ h1)
 ·exact h2.imp_right fun q => ⟨q.1, Int.le_trans h1 q.2⟩
theorem lexO {a b a' b' : Int} (h : ¬ (a < b ∨ (a = b ∧ a' ≤ b'))) : b < a ∨ (b = a ∧ b' ≤ a') := by
 rcases Int.lt_trichotomy a b with h1 | rfl | h1
 ·exact absurd (.inl h1) h
 ·exact .inr ⟨rfl, (Int.le_total b' a').resolve_right fun q => h (.inr ⟨rfl, q⟩)⟩
 ·exact .inl h1
theorem lexA {a b a' b' : Int} (h1 : a < b ∨ (a = b ∧ a' ≤ b')) (h2 : b < a ∨ (b = a ∧ b' ≤ a')) : a = b ∧ a' = b' := by
 rcases h1 with h1 | ⟨rfl, h1⟩
 ·exact absurd h1 (h2.elim (fun q => Int.not_lt.mpr (Int.le_of_lt q)) fun q => q.1 ▸ Int.lt_irrefl _)
 ·exact ⟨rfl, Int.le_antisymm h1 (h2.elim (fun q => absurd q (Int.lt_irrefl _)) And.right)⟩
theorem zN {α : Type _} {a : α} {P : Prop} (h : none = some a) : P := by contradiction
theorem zS {α : Type _} {a : α} {P : Prop} (h : some a = none) : P := by contradiction
theorem zF {P : Prop} (h : false = true) : P := by contradiction
theorem zT {P : Prop} (h : true = false) : P := by contradiction
theorem zL {α : Type _} {a : α} {P : Prop} (h : a ∈ []) : P := by contradiction
inductive V where
 | none
 | bool (b : Bool)
 | int (i : Int)
 | str (x : Str)
 | bytes (b : List UInt8)
 | ref (i : Nat)
 deriving Inhabited, DecidableEq
inductive AObj where
 | list (xs : List V)
 | tup (xs : List V)
 | inst (fs : List (Str × V))
 | dictI (es : List (Int × V)) (ver : Nat)
 | dictS (es : List (Str × V))
 | cell (v : Option V)
 | ro (xs : List V)
 deriving Inhabited
set_option genInjectivity false in
inductive X where
 | index | value | assertion | weight
 deriving DecidableEq
set_option genInjectivity false in
structure S where
 heap : Nat → Option AObj
 next : Nat
 loc : Str → Option V
inductive R (α : Type) where
 | fail
 | ok (a : α) (s : S)
 | exc (x : X) (s : S)
noncomputable def M (α : Type) := S → R α
namespace M
noncomputable def pure {α : Type} (a : α) : M α := fun s => .ok a s
noncomputable def bind {α β : Type} (m : M α) (f : α → M β) : M β := fun s => match m s with
 | .fail => .fail
 | .ok a s' => f a s'
 | .exc x s' => .exc x s'
noncomputable instance : Monad M where
 pure := pure
 bind := bind
end M
noncomputable def failM {α : Type} : M α := fun _ => .fail
noncomputable def throwM {α : Type} (x : X) : M α := fun s => .exc x s
noncomputable def upd {α : Type} (f : Nat → Option α) (i : Nat) (o : α) : Nat → Option α := fun j => if j = i then some o else f j
noncomputable def wrD (i : Nat) (es : List (Int × V)) : M Unit := fun s => .ok () { s with heap := upd s.heap i (.dictI es s.next), next := s.next + 1 }
noncomputable def alD (es : List (Int × V)) : M V := fun s => .ok (.ref (s.next + 1)) { s with heap := upd s.heap (s.next + 1) (.dictI es s.next), next := s.next + 2 }
noncomputable def wr (i : Nat) (o : AObj) : M Unit := fun s => .ok () { s with heap := upd s.heap i o }
noncomputable def al (o : AObj) : M Nat := fun s => .ok s.next { s with heap := upd s.heap s.next o, next := s.next + 1 }
noncomputable def getLoc : M (Str → Option V) := fun s => .ok s.loc s
noncomputable def setLoc (l : Str → Option V) : M Unit := fun s => .ok () { s with loc := l }
noncomputable def updL (l : Str → Option V) (x : Str) (v : V) : Str → Option V := fun y => if y = x then some v else l y
noncomputable def getM {α : Type} (f : S → Option α) : M α := fun s => match f s with
 | some a => .ok a s
 | none => .fail
noncomputable def ofOpt {α : Type} (o : Option α) : M α := getM fun _ => o
set_option genInjectivity false in
inductive FId where
 | glob (n : Str)
 | meth (n : Str)
 | getW
 | setW
set_option genInjectivity false in
structure FnC where
 params : List Str
 defaults : List V
 scope : Scope
 body : List Stmt
 kw : Bool
set_option genInjectivity false in
structure PI where
 code : FId → Option FnC
 fields : List Str
set_option genInjectivity false in
structure AEnv where
 names : List (Str × NameKind)
 cells : List (Str × Nat)
 hd : Bool
noncomputable abbrev Phi := Bool → FId → List V → M V
noncomputable def bindV (c : FnC) (pos : List V) (kw : List (Str × V)) : Option (List V) :=
 match kw with
 | [] => if pos.length ≤ c.params.length ∧ c.params.length ≤ pos.length + c.defaults.length then
   some (pos ++ c.defaults.drop (pos.length + c.defaults.length - c.params.length)) else none
 | [p] => if c.kw = true ∧ c.params.length = pos.length + 1 ∧ c.params[pos.length]? = some p.1 then some (pos ++ [p.2]) else none
 | _ => none
noncomputable def callF (P : PI) (Φ : Phi) (hd : Bool) (f : FId) (pos : List V) (kw : List (Str × V)) : M V :=
 match P.code f with
 | none => failM
 | some c => match bindV c pos kw with
  | none => failM
  | some vs => Φ hd f vs
noncomputable def locM (x : Str) : M V := getM fun s => s.loc x
noncomputable def cellAt (h : Nat → Option AObj) (i : Nat) : Option (Option V) := match h i with
 | some (.cell v) => some v
 | _ => none
noncomputable def cellV (ev : AEnv) (x : Str) (s : S) : Option V := match ev.cells.lookup x with
 | some i => (match cellAt s.heap i with
  | some v => v
  | none => none)
 | none => none
noncomputable def loadV (ev : AEnv) (x : Str) : M V :=
 if x = ("__debug__" : Str) then failM else if ev.names.lookup x = some .local then locM x else
  if ev.names.lookup x = some .cell then getM (cellV ev x) else failM
noncomputable def storeCell (ev : AEnv) (x : Str) (v : V) : M Unit := (getM fun _ => ev.cells.lookup x) >>= fun i => (getM fun s => cellAt s.heap i) >>= fun _ => wr i (.cell (some v))
noncomputable def storeV (ev : AEnv) (x : Str) (v : V) : M Unit :=
 if ev.names.lookup x = some .local then (fun s => .ok () { s with loc := updL s.loc x v }) else
  if ev.names.lookup x = some .cell then storeCell ev x v else failM
noncomputable def listAt (h : Nat → Option AObj) (i : Nat) : Option (List V) := match h i with
 | some (.list xs) => some xs
 | _ => none
noncomputable def instAt (h : Nat → Option AObj) (i : Nat) : Option (List (Str × V)) := match h i with
 | some (.inst fs) => some fs
 | _ => none
noncomputable def seqAt (h : Nat → Option AObj) (i : Nat) : Option (List V) := match h i with
 | some (.list xs) => some xs
 | some (.ro xs) => some xs
 | _ => none
noncomputable def rdL (i : Nat) : M (List V) := getM fun s => listAt s.heap i
noncomputable def rdI (i : Nat) : M (List (Str × V)) := getM fun s => instAt s.heap i
noncomputable def rdS (i : Nat) : M (List V) := getM fun s => seqAt s.heap i
noncomputable def tupAt (h : Nat → Option AObj) (i : Nat) : Option (List V) := match h i with
 | some (.tup xs) => some xs
 | _ => none
noncomputable def dctI (h : Nat → Option AObj) (i : Nat) : Option (List (Int × V) × Nat) := match h i with
 | some (.dictI es v) => some (es, v)
 | _ => none
noncomputable def dctS (h : Nat → Option AObj) (i : Nat) : Option (List (Str × V)) := match h i with
 | some (.dictS es) => some es
 | _ => none
noncomputable def rdT (i : Nat) : M (List V) := getM fun s => tupAt s.heap i
noncomputable def rdDI (i : Nat) : M (List (Int × V) × Nat) := getM fun s => dctI s.heap i
noncomputable def rdDS (i : Nat) : M (List (Str × V)) := getM fun s => dctS s.heap i
noncomputable def refOf : V → Option Nat
 | .ref i => some i
 | _ => none
noncomputable def intOf : V → Option Int
 | .int i => some i
 | _ => none
noncomputable def intPair (a b : V) : Option (Int × Int) := match intOf a with
 | some x => (match intOf b with
  | some y => some (x, y)
  | none => none)
 | none => none
noncomputable def strOf : V → Option Str
 | .str x => some x
 | _ => none
noncomputable def strM (v : V) : M Str := getM fun _ => strOf v
noncomputable def refM (v : V) : M Nat := getM fun _ => refOf v
noncomputable def intM (v : V) : M Int := getM fun _ => intOf v
noncomputable def alRef (o : AObj) : M V := al o >>= fun i => pure (.ref i)
noncomputable def truthyV (v : V) : M Bool := match v with
 | .bool b => pure b
 | .ref i => do
  let xs ← rdS i
  if xs.length < 100000 then pure (!xs.isEmpty) else failM
 | _ => failM
noncomputable def binI (op : Operator) (x y : Int) : M V := match op with
 | .Add => pure (.int (x + y))
 | .Sub => pure (.int (x - y))
 | .Mod => if y = 0 then failM else pure (.int (Int.fmod x y))
 | .FloorDiv => if 0 < y ∧ y < 1000 then pure (.int (Int.fdiv x y)) else failM
 | .Pow => if 0 ≤ y ∧ y ≤ 100 ∧ x = 10 then pure (.int (x ^ y.toNat)) else failM
 | _ => failM
noncomputable def isAdd : Operator → Bool
 | .Add => true
 | _ => false
noncomputable def binV (op : Operator) (a b : V) : M V := match intPair a b with
 | some (x, y) => binI op x y
 | none => if isAdd op then refM a >>= fun i => refM b >>= fun j => rdL i >>= fun xs => rdL j >>= fun ys => if xs.length + ys.length < 100000 then alRef (.list (xs ++ ys)) else failM
  else failM
noncomputable def optAll {α : Type} : List (Option α) → Option (List α)
 | [] => some []
 | x :: r => match x with
  | none => none
  | some d => (optAll r).map (d :: ·)
noncomputable def pyObj (f : V → Option PyData) : Option AObj → Option PyData
 | some (.list xs) => (optAll (xs.map f)).map .list
 | some (.tup xs) => (optAll (xs.map f)).map .tuple
 | _ => none
noncomputable def pyVal (f : V → Option PyData) (h : Nat → Option AObj) : V → Option PyData
 | .none => some .none
 | .bool b => some (.bool b)
 | .int i => some (.int i)
 | .str x => some (.str x)
 | .bytes _ => none
 | .ref i => pyObj f (h i)
noncomputable def pyOf : Nat → (Nat → Option AObj) → V → Option PyData
 | 0, _, _ => none
 | n + 1, h, v => pyVal (pyOf n h) h v
noncomputable def depthLim : Nat := 4
noncomputable def eqD (h : Nat → Option AObj) (a b : V) : Option Bool := match pyOf depthLim h a with
 | some da => (match pyOf depthLim h b with
  | some db => if SeqAt.shaped da && SeqAt.shaped db then some (PyData.eqv da db) else none
  | none => none)
 | none => none
noncomputable def cmpName : CmpOp → Option Str
 | .Eq => some "__eq__"
 | .NotEq => some "__ne__"
 | .Lt => some "__lt__"
 | .LtE => some "__le__"
 | .Gt => some "__gt__"
 | .GtE => some "__ge__"
 | _ => none
noncomputable def isInst (h : Nat → Option AObj) (v : V) : Bool := match refOf v with
 | some i => (instAt h i).isSome
 | none => false
noncomputable def isIntV (v : V) : Bool := (intOf v).isSome
noncomputable def intsV : List V → Option (List Int)
 | [] => some []
 | v :: r => match intOf v with
  | some x => (intsV r).map (x :: ·)
  | none => none
noncomputable def memI (h : Nat → Option AObj) (a b : V) : Option Bool := match intOf a with
 | some x => (match refOf b with
  | some i => (match listAt h i with
   | some xs => (intsV xs).map fun ns => ns.any (· == x)
   | none => none)
  | none => none)
 | none => none
noncomputable def cmpI : CmpOp → Int → Int → Option Bool
 | .Eq, x, y => some (x == y)
 | .NotEq, x, y => some (!(x == y))
 | .Lt, x, y => some (decide (x < y))
 | .LtE, x, y => some (decide (x ≤ y))
 | .Gt, x, y => some (decide (x > y))
 | .GtE, x, y => some (decide (x ≥ y))
 | _, _, _ => none
noncomputable def okB (o : Option Bool) : M V := getM fun _ => o.map .bool
noncomputable def cmpV (P : PI) (Φ : Phi) (hd : Bool) (op : CmpOp) (a b : V) : M V := fun s =>
 if isInst s.heap a then
  if isInst s.heap b || isIntV b then
   match cmpName op with
   | some n => callF P Φ hd (.meth n) [a, b] [] s
   | none => .fail
  else .fail
 else match intPair a b with
  | some (x, y) => okB (cmpI op x y) s
  | none => match op with
   | .Eq => okB (eqD s.heap a b) s
   | .NotEq => okB ((eqD s.heap a b).map (!·)) s
   | .In => okB (memI s.heap a b) s
   | .NotIn => okB ((memI s.heap a b).map (!·)) s
   | _ => .fail
noncomputable def isNone : V → Bool
 | .none => true
 | _ => false
noncomputable def isV (op : CmpOp) (a b : V) : Option V := match op, b with
 | .Is, .none => some (.bool (isNone a))
 | .IsNot, .none => some (.bool (!isNone a))
 | _, _ => none
noncomputable def compareV (P : PI) (Φ : Phi) (hd : Bool) (op : CmpOp) (a b : V) : M V := match isV op a b with
 | some v => pure v
 | none => cmpV P Φ hd op a b
noncomputable def chainV (P : PI) (Φ : Phi) (hd : Bool) (a : V) : List CmpOp → List (M V) → M V
 | [op], [r] => do
  let b ← r
  compareV P Φ hd op a b
 | op :: ops, r :: rs => do
  let b ← r
  match ← compareV P Φ hd op a b with
  | .bool true => chainV P Φ hd b ops rs
  | .bool false => pure (.bool false)
  | _ => failM
 | _, _ => failM
noncomputable def testV (P : PI) (Φ : Phi) (hd : Bool) (a : V) : List CmpOp → List (M V) → M Bool
 | [op], [r] => do
  let b ← r
  match ← compareV P Φ hd op a b with
  | .bool c => pure c
  | _ => failM
 | op :: ops, r :: rs => do
  let b ← r
  match ← compareV P Φ hd op a b with
  | .bool true => testV P Φ hd b ops rs
  | .bool false => pure false
  | _ => failM
 | _, _ => failM
noncomputable def getR (x : Str) : List (Str × V) → Option V
 | [] => none
 | (y, w) :: r => if y = x then some w else getR x r
noncomputable def putR (x : Str) (v : V) : List (Str × V) → List (Str × V)
 | [] => [(x, v)]
 | (y, w) :: r => if y = x then (y, v) :: r else (y, w) :: putR x v r
noncomputable def getF {α : Type} [DecidableEq α] (x : α) (es : List (α × V)) : Option V := (es.find? fun p => p.1 = x).map (·.2)
noncomputable def putF {α : Type} [DecidableEq α] (x : α) (v : V) (es : List (α × V)) : List (α × V) :=
 if es.any (fun p => p.1 = x) then es.map (fun p => if p.1 = x then (p.1, v) else p) else es ++ [(x, v)]
noncomputable def delF {α : Type} [DecidableEq α] (x : α) (es : List (α × V)) : List (α × V) := es.filter fun p => decide (p.1 ≠ x)
noncomputable def wName : Str := "weight"
noncomputable def noExc {α : Type} (m : M α) : M α := fun s => match m s with
 | .ok a s' => .ok a s'
 | _ => .fail
noncomputable def attrV (P : PI) (Φ : Phi) (hd : Bool) (o : V) (x : Str) : M V := do
 let i ← refM o
 let fs ← rdI i
 if x = wName then noExc (callF P Φ hd .getW [.ref i] [])
 else if P.fields.contains x then ofOpt (getR x fs) else failM
noncomputable def unitM (m : M V) : M Unit := m >>= fun _ => pure ()
noncomputable def setAttrV (P : PI) (Φ : Phi) (hd : Bool) (o : V) (x : Str) (v : V) : M Unit := do
 let i ← refM o
 let fs ← rdI i
 if x = wName then unitM (callF P Φ hd .setW [.ref i, v] [])
 else if P.fields.contains x ∧ fs.length < 100 then wr i (.inst (putR x v fs)) else failM
noncomputable def rdO (i : Nat) : M AObj := getM fun s => s.heap i
noncomputable def natB (v : V) : Option Nat := match intOf v with
 | some k => if 0 ≤ k ∧ k < 1000 then some k.toNat else none
 | none => none
noncomputable def natM (v : V) : M Nat := getM fun _ => natB v
noncomputable def subO (o : AObj) (i : V) : M V := match o with
 | .list xs => natM i >>= fun k => ofOpt xs[k]?
 | .tup xs => natM i >>= fun k => ofOpt xs[k]?
 | .dictI es _ => intM i >>= fun k => ofOpt (getF k es)
 | .dictS es => strM i >>= fun k => ofOpt (getF k es)
 | _ => failM
noncomputable def subV (o i : V) : M V := refM o >>= fun a => rdO a >>= fun ob => subO ob i
noncomputable def setO (a : Nat) (o : AObj) (i v : V) : M Unit := match o with
 | .list xs => natM i >>= fun k => if k < xs.length then wr a (.list (xs.set k v)) else failM
 | .dictI es _ => intM i >>= fun k => if es.length < 1000 then wrD a (putF k v es) else failM
 | .dictS es => strM i >>= fun k => if es.length < 1000 then wr a (.dictS (putF k v es)) else failM
 | _ => failM
noncomputable def setSubV (o i v : V) : M Unit := refM o >>= fun a => rdO a >>= fun ob => setO a ob i v
noncomputable def lowB (v : V) : Option Nat := match v with
 | .none => some 0
 | v => natB v
noncomputable def sliceV (o lo hi : V) : M V := do
 let a ← refM o
 let l ← getM fun _ => lowB lo
 let b ← natM hi
 let xs ← rdS a
 if xs.length < 100000 then alRef (.list ((xs.take b).drop l)) else failM
noncomputable def pairV (h : Nat → Option AObj) (v : V) : Option ((Int × Int) × V) := match refOf v with
 | some i => (match tupAt h i with
  | some [a, b] => (intPair a b).map fun p => (p, v)
  | _ => none)
 | none => none
noncomputable def leP (p q : (Int × Int) × V) : Bool := decide (p.1.1 < q.1.1 ∨ (p.1.1 = q.1.1 ∧ p.1.2 ≤ q.1.2))
noncomputable def insP (p : (Int × Int) × V) : List ((Int × Int) × V) → List ((Int × Int) × V)
 | [] => [p]
 | q :: r => if leP p q then p :: q :: r else q :: insP p r
noncomputable def sortP : List ((Int × Int) × V) → List ((Int × Int) × V)
 | [] => []
 | p :: r => insP p (sortP r)
noncomputable def sortedV (o : V) : M V := do
 let a ← refM o
 let xs ← rdL a
 let ps ← getM fun s => optAll (xs.map (pairV s.heap))
 if ps.length < 64 ∧ (ps.map (·.1)).Nodup then alRef (.list ((sortP ps).map (·.2))) else failM
set_option genInjectivity false in
inductive Flow where
 | next | brk | cont
 | ret (v : V)
 deriving Inhabited
noncomputable def wlim : Nat := 100
noncomputable def loopGo (again : M Flow) (f : Flow) : M Flow := match f with
 | .next => again
 | .cont => again
 | .brk => pure .next
 | .ret v => pure (.ret v)
noncomputable def loopD (fuel : Nat) (next : Nat → M Bool) (body : M Flow) (k : Nat) : M Flow := match fuel with
 | 0 => failM
 | fuel + 1 => next k >>= fun b => if b = true then body >>= loopGo (loopD fuel next body (k + 1)) else pure .next
noncomputable def nextIt (i : Nat) (tv : V → M Unit) (k : Nat) : M Bool := rdL i >>= fun xs => match xs[k]? with
 | some v => tv v >>= fun _ => pure true
 | none => pure false
noncomputable def nextD (i ver n : Nat) (tv : V → M Unit) (k : Nat) : M Bool := rdDI i >>= fun p => if p.2 = ver ∧ p.1.length = n then (match p.1[k]? with
 | some e => tv (.int e.1) >>= fun _ => pure true
 | none => pure false) else failM
noncomputable def nextR (a b st : Int) (tv : V → M Unit) (k : Nat) : M Bool := if a + st * k < b then tv (.int (a + st * k)) >>= fun _ => pure true else pure false
set_option genInjectivity false in
inductive It where
 | list (i : Nat)
 | dict (i ver n : Nat)
noncomputable def nextOf (it : It) (tv : V → M Unit) : Nat → M Bool := match it with
 | .list i => nextIt i tv
 | .dict i ver n => nextD i ver n tv
noncomputable def nameE : Expr → Option Str
 | .Name x _ => some x
 | _ => none
noncomputable def tup2 : Expr → Option (Str × Str)
 | .Tuple es _ _ => (match es with
  | [a, b] => (match nameE a with
   | some x => (match nameE b with
    | some y => some (x, y)
    | none => none)
   | none => none)
  | _ => none)
 | _ => none
noncomputable def two : List V → Option (V × V)
 | [a, b] => some (a, b)
 | _ => none
noncomputable def targetV (ev : AEnv) (t : Expr) (v : V) : M Unit := match nameE t with
 | some x => storeV ev x v
 | none => (match tup2 t with
  | some xy => refM v >>= fun i => rdT i >>= fun vs => (getM fun _ => two vs) >>= fun ab => storeV ev xy.1 ab.1 >>= fun _ => storeV ev xy.2 ab.2
  | none => failM)
noncomputable def excOf (x : Str) : Option X :=
 if x = ("IndexError" : Str) then some .index
 else if x = ("ValueError" : Str) then some .value
 else if x = ("AssertionError" : Str) then some .assertion
 else if x = ("BadWeightError" : Str) then some .weight
 else none
noncomputable def tryM (m : M Flow) (h : X → Option (M Flow)) : M Flow := fun s => match m s with
 | .exc x s' => (match h x with
  | some k => k s'
  | none => .exc x s')
 | .ok f s' => .ok f s'
 | .fail => .fail
noncomputable def thruM {α : Type} (m : M Flow) (r : S → R α) : S → R α := fun s => match m s with
 | .ok f s' => (match f with
  | .next => r s'
  | _ => .fail)
 | _ => .fail
noncomputable def finM (m f1 f2 : M Flow) : M Flow := fun s => match m s with
 | .fail => .fail
 | .ok a s' => thruM f1 (fun s'' => .ok a s'') s'
 | .exc x s' => thruM f2 (fun s'' => .exc x s'') s'
noncomputable def isGlobal (ev : AEnv) (x : Str) : Bool := match ev.names.lookup x with
 | some .globalImplicit => true
 | _ => false
noncomputable def lenV (v : V) : M V := do
 let i ← refM v
 let xs ← rdL i
 if xs.length < 100000 then pure (.int xs.length) else failM
noncomputable def absV (v : V) : M V := do
 let x ← intM v
 pure (.int x.natAbs)
noncomputable def notIntV (h : Nat → Option AObj) (v : V) : Bool := match v with
 | .none => true
 | .str _ => true
 | .bytes _ => true
 | .ref i => (tupAt h i).isSome
 | _ => false
noncomputable def isinstV (v : V) (n : Str) : M V := fun s =>
 if n = ("int" : Str) then (if isIntV v then .ok (.bool true) s else if notIntV s.heap v then .ok (.bool false) s else .fail)
 else if n = ("Stream" : Str) then (if isIntV v then .ok (.bool false) s else if isInst s.heap v then .ok (.bool true) s else .fail)
 else .fail
noncomputable def appendM (i : Nat) (w : V) : M V := do
 let xs ← rdL i
 if xs.length < 1000 then do wr i (.list (xs ++ [w])); pure .none else failM
noncomputable def popM (hd : Bool) (i : Nat) : M V := rdL i >>= fun xs => match xs with
 | x :: r => if r.length < 100000 then wr i (.list r) >>= fun _ => pure x else failM
 | [] => if hd then failM else throwM .index
noncomputable def dpopM (i : Nat) (k : Int) : M V := rdDI i >>= fun p => match getF k p.1 with
 | some w => if p.1.length < 1000 then wrD i (delF k p.1) >>= fun _ => pure w else failM
 | none => failM
noncomputable def cutM (i k : Nat) : M V := rdL i >>= fun ys => if k < ys.length ∧ ys.length < 100000 then wr i (.list (ys.eraseIdx k)) >>= fun _ => pure .none else failM
noncomputable def boolOf : V → Option Bool
 | .bool c => some c
 | _ => none
noncomputable def hitM (P : PI) (Φ : Phi) (hd : Bool) (x v : V) : M Bool := (getM fun s => if isInst s.heap x && isInst s.heap v then some () else none) >>= fun _ => if x = v then pure true else callF P Φ hd (.meth "__eq__") [x, v] [] >>= fun r => getM fun _ => boolOf r
noncomputable def removeN (P : PI) (Φ : Phi) (hd : Bool) (i : Nat) (v : V) (n k : Nat) : M V := match n with
 | 0 => failM
 | n + 1 => rdL i >>= fun ys => match ys[k]? with
  | none => throwM .value
  | some x => hitM P Φ hd x v >>= fun c => if c then cutM i k else removeN P Φ hd i v n (k + 1)
section
variable (P : PI) (Φ : Phi)
set_option genInjectivity false in
inductive Callee where
 | inst | append | lpop | remove | dpop
noncomputable def calleeO (o : AObj) (n : Str) : M Callee := match o with
 | .inst fs => if (getR n fs).isSome then failM else if (P.code (.meth n)).isSome then pure .inst else failM
 | .list _ => if n = ("append" : Str) then pure .append else if n = ("pop" : Str) then pure .lpop else if n = ("remove" : Str) then pure .remove else failM
 | .dictI _ _ => if n = ("pop" : Str) then pure .dpop else failM
 | _ => failM
noncomputable def calleeM (o : V) (n : Str) : M (Callee × Nat) := do
 let i ← refM o
 let ob ← rdO i
 let k ← calleeO P ob n
 pure (k, i)
noncomputable def one (f : V → M V) (vs : List V) : M V := match vs with
 | [v] => f v
 | _ => failM
noncomputable def methodM (hd : Bool) (k : Callee) (i : Nat) (n : Str) (args : List V) (kw : List (Str × V)) : M V := match k with
 | .inst => callF P Φ hd (.meth n) (.ref i :: args) kw
 | .append => if kw.isEmpty then one (appendM i) args else failM
 | .lpop => if kw.isEmpty then one (fun v => intM v >>= fun z => if z = 0 then popM hd i else failM) args else failM
 | .remove => if kw.isEmpty ∧ hd = false then one (fun v => removeN P Φ hd i v wlim 0) args else failM
 | .dpop => if kw.isEmpty then one (fun v => intM v >>= fun z => dpopM i z) args else failM
noncomputable def dictM (ks vs : List V) : M V := match intsV ks with
 | some ns => alD ((ns.zip vs).foldl (fun es p => putF p.1 p.2 es) [])
 | none => (match optAll (ks.map strOf) with
  | some xs => alRef (.dictS ((xs.zip vs).foldl (fun es p => putF p.1 p.2 es) []))
  | none => failM)
noncomputable def newM (hd : Bool) (args : List V) : M V := do
 let i ← al (.inst [])
 let r ← callF P Φ hd (.meth "__init__") (.ref i :: args) []
 if isNone r then pure (.ref i) else failM
noncomputable def callName (ev : AEnv) (f : Str) (vs : List V) : M V :=
 if (P.code (.glob f)).isSome then callF P Φ ev.hd (.glob f) vs []
 else if f = ("Stream" : Str) then newM P Φ ev.hd vs
 else if f = ("len" : Str) then one lenV vs
 else if f = ("abs" : Str) then one absV vs
 else if f = ("sorted" : Str) then one sortedV vs
 else failM
noncomputable def compEnv (ev : AEnv) (sc : Scope) : AEnv :=
 { names := sc.names.map fun p => if p.2 == .free && ev.names.lookup p.1 == some .cell then (p.1, .cell) else p, cells := ev.cells, hd := ev.hd }
noncomputable def compOk (ev : AEnv) (sc : Scope) : Bool := sc.kind == .function && sc.names.all fun p => p.2 != .cell && (p.2 != .local || sc.names.lookup p.1 == some .local) &&
 (p.2 != .free || (ev.names.lookup p.1 == some .cell && (ev.cells.lookup p.1).isSome && sc.names.lookup p.1 == some .free))
noncomputable def compTurnM (acc : Nat) (ok : M Bool) (elt : M V) : M Flow := do
 if ← ok then do
  let w ← elt
  let _ ← appendM acc w
  pure .next
 else pure .next
noncomputable def itO (hd : Bool) (i : Nat) (o : AObj) : M It := match o with
 | .list _ => pure (.list i)
 | .dictI es ver => if hd then failM else pure (.dict i ver es.length)
 | _ => failM
noncomputable def itOf (hd : Bool) (v : V) : M It := do
 let i ← refM v
 let o ← rdO i
 itO hd i o
noncomputable def compRest (ev : AEnv) (t : Expr) (ok : M Bool) (elt : M V) (x : V) : M V := do
 let iter ← itOf ev.hd x
 let acc ← al (.list [])
 let l ← getLoc
 setLoc fun _ => none
 let _ ← noExc (loopD wlim (nextOf iter (targetV ev t)) (compTurnM acc ok elt) 0)
 setLoc l
 pure (.ref acc)
noncomputable def pairsM : List (M V) → List (M V) → M (List V × List V)
 | [], [] => pure ([], [])
 | k :: ks, v :: vs => do
  let a ← k
  let b ← v
  let p ← pairsM ks vs
  pure (a :: p.1, b :: p.2)
 | _, _ => failM
noncomputable def stepless : Expr → Bool
 | .Slice _ _ st _ => st.isNone
 | _ => true
noncomputable def dictForm (ks : List (Option Expr)) (vs : List Expr) : Bool := !ks.isEmpty && ks.length < 16 && ks.length == vs.length && ks.all fun k => k.isSome
noncomputable def globE (ev : AEnv) (t : Expr) : Option Str := match nameE t with
 | some n => if isGlobal ev n then some n else none
 | none => none
noncomputable def knownFn (f : Str) : Bool := (P.code (.glob f)).isSome || f == ("Stream" : Str) || f == ("len" : Str) || f == ("abs" : Str) || f == ("sorted" : Str)
noncomputable def starred : Expr → Bool
 | .Starred .. => true
 | _ => false
noncomputable def noStars (es : List Expr) : Bool := es.length < 25 && es.all fun e => !starred e
noncomputable def namedKws (ks : List Keyword) : Bool := ks.length < 2 && ks.all fun k => k.arg.isSome
noncomputable def plainBase : Expr → Bool
 | .Call (.Name _ _) [] [] _ => false
 | _ => true
noncomputable def constM : PySem.Const → M V
 | .none => pure .none
 | .bool b => pure (.bool b)
 | .int i => pure (.int i)
 | .str x => pure (.str x)
 | .bytes b => pure (.bytes b)
 | _ => failM
noncomputable def unM : UnaryOp → V → M V
 | .Not, v => truthyV v >>= fun b => pure (.bool !b)
 | .USub, v => intM v >>= fun i => pure (.int (-i))
 | _, _ => failM
noncomputable def truthM (w : M V) : M Bool := w >>= truthyV
noncomputable def boolNext (op : BoolOp) (b : Bool) (m : M Bool) : M Bool := match op with
 | .And => if b then m else pure false
 | .Or => if b then pure true else m
noncomputable def isiM (ev : AEnv) (args : List Expr) (ms : List (M V)) : M V := match args with
 | [_, t] => (match ms with
  | [m, _] => (match globE ev t with
   | some n => m >>= fun v => isinstV v n
   | none => failM)
  | _ => failM)
 | _ => failM
mutual
noncomputable def denE (ev : AEnv) : Expr → M V
 | .Constant c _ _ => constM c
 | .Name x _ => loadV ev x
 | .UnaryOp op x _ => denE ev x >>= unM op
 | .BinOp l op r _ => do
  let a ← denE ev l
  let b ← denE ev r
  binV op a b
 | .IfExp t b o _ => do if ← denT ev t (denE ev t) then denE ev b else denE ev o
 | .Compare l ops cs _ => do
  let a ← denE ev l
  chainV P Φ ev.hd a ops (denEach ev cs)
 | .List es _ => if noStars es then denEs ev es >>= fun vs => alRef (.list vs) else failM
 | .Tuple es _ _ => if noStars es then denEs ev es >>= fun vs => alRef (.tup vs) else failM
 | .Attribute v n _ => if plainBase v then denE ev v >>= fun o => attrV P Φ ev.hd o n else failM
 | .Dict ks vs _ => if dictForm ks vs then pairsM (denEachOpt ev ks) (denEach ev vs) >>= fun p => dictM p.1 p.2 else failM
 | .Subscript v i _ => if stepless i then denE ev v >>= denIx ev i (denE ev i) else failM
 | .Call f args kws pp => match f with
  | .Attribute o n ap => if (ap.endLine == pp.line) && plainBase o && noStars args && namedKws kws then do
    let ov ← denE ev o
    let k ← calleeM P ov n
    let vs ← denEs ev args
    let kw ← denKws ev kws
    methodM P Φ ev.hd k.1 k.2 n vs kw
   else failM
  | .Name f _ => if isGlobal ev f && kws.isEmpty && noStars args then
    (if f = ("isinstance" : Str) then isiM ev args (denEach ev args)
    else if knownFn P f then denEs ev args >>= fun vs => callName P Φ ev f vs else failM)
   else failM
  | _ => failM
 | .ListComp elt gens sc _ => denComp ev sc (denE (compEnv ev sc) elt) gens
 | _ => failM
noncomputable def denComp (ev : AEnv) (sc : Scope) (elt : M V) : List Comprehension → M V
 | [] => failM
 | ⟨t, it, ifs, a⟩ :: r => if (a == 0) && r.isEmpty && compOk ev sc && !ev.hd then do
  let x ← denE ev it
  compRest (compEnv ev sc) t (denAll (compEnv ev sc) ifs) elt x
  else failM
noncomputable def denIx (ev : AEnv) : Expr → M V → V → M V
 | .Slice lo hi _ _, _, o => denOpt ev lo >>= fun a => denOpt ev hi >>= fun b => sliceV o a b
 | _, mi, o => mi >>= fun k => subV o k
noncomputable def denAll (ev : AEnv) : List Expr → M Bool
 | [] => pure true
 | c :: r => denT ev c (denE ev c) >>= fun b => if b then denAll ev r else pure false
noncomputable def denT (ev : AEnv) : Expr → M V → M Bool
 | .UnaryOp op x _, w => match op with
  | .Not => denT ev x (denE ev x) >>= fun b => pure !b
  | _ => truthM w
 | .BoolOp op vs _, _ => denBool ev op vs
 | .IfExp _ _ _ _, _ => failM
 | .Compare l ops cs _, _ => do
  let a ← denE ev l
  testV P Φ ev.hd a ops (denEach ev cs)
 | _, w => truthM w
noncomputable def denBool (ev : AEnv) : BoolOp → List Expr → M Bool
 | op, [] => pure (op == .And)
 | op, x :: r => do
  let b ← denT ev x (denE ev x)
  boolNext op b (denBool ev op r)
noncomputable def denEach (ev : AEnv) : List Expr → List (M V)
 | [] => []
 | e :: r => denE ev e :: denEach ev r
noncomputable def denEs (ev : AEnv) : List Expr → M (List V)
 | [] => pure []
 | e :: r => do
  let v ← denE ev e
  let vs ← denEs ev r
  pure (v :: vs)
noncomputable def denOpt (ev : AEnv) : Option Expr → M V
 | none => pure .none
 | some e => denE ev e
noncomputable def denKws (ev : AEnv) : List Keyword → M (List (Str × V))
 | [] => pure []
 | ⟨n, e, _⟩ :: r => do
  let v ← denE ev e
  let vs ← denKws ev r
  pure ((n.getD "", v) :: vs)
noncomputable def denEachOpt (ev : AEnv) : List (Option Expr) → List (M V)
 | [] => []
 | none :: r => failM :: denEachOpt ev r
 | some e :: r => denE ev e :: denEachOpt ev r
end
noncomputable def assignV (ev : AEnv) (t : Expr) (v : V) : M Unit := match t with
 | .Name x _ => storeV ev x v
 | .Attribute o n _ => denE P Φ ev o >>= fun ov => setAttrV P Φ ev.hd ov n v
 | .Subscript o i _ => do
  let ov ← denE P Φ ev o
  let iv ← denE P Φ ev i
  setSubV ov iv v
 | .Tuple es k p => targetV ev (.Tuple es k p) v
 | _ => failM
noncomputable def isComp : Expr → Bool
 | .ListComp .. => true
 | .SetComp .. => true
 | .DictComp .. => true
 | _ => false
noncomputable def isTup : Expr → Bool
 | .Tuple .. => true
 | _ => false
noncomputable def withHd (ev : AEnv) (b : Bool) : AEnv := { ev with hd := b }
noncomputable def twoE : Expr → Option (List Expr)
 | .Tuple es _ _ => if es.length = 2 then some es else none
 | _ => none
noncomputable def linesOk : Expr → Bool
 | .Tuple es _ _ => (match es with
  | [.Name _ p, .Name _ q] => p.line == q.line
  | _ => false)
 | _ => false
noncomputable def swapOk (ev : AEnv) (x y : Str) (t v : Expr) : Bool := linesOk t && x != y && ev.names.lookup x == some .local && ev.names.lookup y == some .local && (match twoE v with
 | some es => !es.any starred && !es.all (foldedForSure 8) && !es.all (constantsAlone 8)
 | none => false)
noncomputable def swapV (ev : AEnv) (x y : Str) (v : V) : M Unit := refM v >>= fun i => rdT i >>= fun vs => (getM fun _ => two vs) >>= fun ab => storeV ev y ab.2 >>= fun _ => storeV ev x ab.1
noncomputable def pairAsg (ev : AEnv) (t v : Expr) : M Flow := match tup2 t with
 | some xy => if swapOk ev xy.1 xy.2 t v then denE P Φ ev v >>= fun w => swapV ev xy.1 xy.2 w >>= fun _ => pure .next else failM
 | none => failM
noncomputable def callN : Expr → Option (Str × List Expr)
 | .Call f args kws _ => if kws.isEmpty then (nameE f).map fun n => (n, args) else none
 | _ => none
noncomputable def rangeM (vs : List V) : Option (Int × Int × Int) := match optAll (vs.map intOf) with
 | some [n] => if 0 ≤ n ∧ n < 1000 then some (0, n, 1) else none
 | some [a, b, st] => if 0 < st ∧ st < 1000 ∧ 0 ≤ a ∧ a < 1000 ∧ 0 ≤ b ∧ b < 1000 then some (a, b, st) else none
 | _ => none
noncomputable def forM (ev : AEnv) (t : Expr) (m : M V) (body : M Flow) : M Flow := do
 let v ← m
 let it ← itOf ev.hd v
 loopD wlim (nextOf it (targetV ev t)) body 0
noncomputable def forRange (ev : AEnv) (t : Expr) (ms : M (List V)) (body : M Flow) : M Flow := do
 let vs ← ms
 let p ← getM fun _ => rangeM vs
 loopD wlim (nextR p.1 p.2.1 p.2.2 (targetV ev t)) body 0
noncomputable def denFor (ev : AEnv) (t it : Expr) (body : M Flow) : M Flow := match callN it with
 | some (f, args) => if isGlobal ev f ∧ f = ("range" : Str) then (if noStars args ∧ ev.hd = false then forRange ev t (denEs P Φ ev args) body else failM) else forM ev t (denE P Φ ev it) body
 | none => forM ev t (denE P Φ ev it) body
noncomputable def retM (ev : AEnv) : Option Expr → M Flow
 | some e => denE P Φ ev e >>= fun v => pure (.ret v)
 | none => failM
noncomputable def asgM (ev : AEnv) (ts : List Expr) (v : Expr) : M Flow := match ts with
 | [t] => if isTup v && isTup t then pairAsg P Φ ev t v else denE P Φ ev v >>= fun x => assignV P Φ ev t x >>= fun _ => pure .next
 | _ => failM
noncomputable def augI (op : Operator) (x y : Int) : M V := match op with
 | .Add => pure (.int (x + y))
 | .Sub => pure (.int (x - y))
 | _ => failM
noncomputable def augM (ev : AEnv) (t : Expr) (op : Operator) (e : Expr) : M Flow := match nameE t with
 | some x => loadV ev x >>= fun a => denE P Φ ev e >>= fun b => (getM fun _ => intPair a b) >>= fun p => augI op p.1 p.2 >>= fun c => storeV ev x c >>= fun _ => pure .next
 | none => failM
noncomputable def assertM (ev : AEnv) (t : Expr) : M Flow := if ev.hd then failM else denT P Φ ev t (denE P Φ ev t) >>= fun b => if b then pure .next else throwM .assertion
noncomputable def isStrC : PySem.Const → Bool
 | .str _ => true
 | _ => false
noncomputable def strE : Expr → Bool
 | .Constant c _ _ => isStrC c
 | _ => false
noncomputable def oneStr : List Expr → Bool
 | [a] => strE a
 | _ => false
noncomputable def raiseOf : Expr → Option Str
 | .Call f args kws _ => if oneStr args && kws.isEmpty then nameE f else none
 | _ => none
noncomputable def raiseM (ev : AEnv) (e : Option Expr) (c : Option Expr) : M Flow := match e.bind raiseOf with
 | some f => if isGlobal ev f ∧ f = ("BadWeightError" : Str) ∧ ev.hd = false ∧ c.isNone then throwM .weight else failM
 | none => failM
noncomputable def handles (ev : AEnv) (t : Option Expr) : Option X := match t.bind nameE with
 | some n => if isGlobal ev n then excOf n else none
 | none => none
noncomputable def clauseM (y : Option X) (ok : Bool) (x : X) (suite : M Flow) (rest : Option (M Flow)) : Option (M Flow) := match y with
 | some y => if ok then (if x = y then some suite else if x = .weight ∨ y = .weight then some failM else rest) else some failM
 | none => some failM
mutual
noncomputable def denS (ev : AEnv) : Stmt → M Flow
 | .Continue _ => pure .cont
 | .Expr e _ => if (!isComp e) = true then denE P Φ ev e >>= fun _ => pure .next else failM
 | .Return e _ => retM P Φ ev e
 | .Assign ts v _ => asgM P Φ ev ts v
 | .AugAssign t op e _ => augM P Φ ev t op e
 | .Assert t m _ => if m.isNone then assertM P Φ ev t else failM
 | .If t b o _ => do
  if ← denT P Φ ev t (denE P Φ ev t) then denSs ev b else denSs ev o
 | .While t b o _ => if o.isEmpty then loopD wlim (fun _ => denT P Φ ev t (denE P Φ ev t)) (denSs ev b) 0 else failM
 | .For t it b o _ => if o.isEmpty then denFor P Φ ev t it (denSs ev b) else failM
 | .Raise e c _ => raiseM ev e c
 | .Try b hs o f _ => if o.isEmpty && !ev.hd then
   (if f.isEmpty then (if (!hs.isEmpty) = true then tryM (denSs ev b) (denHs ev hs) else failM)
   else if hs.isEmpty then finM (denSs ev b) (denSs ev f) (denSs (withHd ev true) f) else failM)
  else failM
 | _ => failM
noncomputable def denSs (ev : AEnv) : List Stmt → M Flow
 | [] => pure .next
 | s :: r => do
  match ← denS ev s with
  | .next => denSs ev r
  | f => pure f
noncomputable def denHs (ev : AEnv) : List ExceptHandler → X → Option (M Flow)
 | [], _ => none
 | .ExceptHandler t n b _ :: r, x => clauseM (handles ev t) (n.isNone && !b.isEmpty) x (denSs (withHd ev true) b) (denHs ev r x)
end
noncomputable def cellNs (names : List (Str × NameKind)) : List Str := (names.filter fun p => p.2 == .cell).map (·.1)
noncomputable def backV : Flow → V
 | .ret v => v
 | _ => .none
noncomputable def bodyR (hd : Bool) (c : FnC) (binds : Str → Option V) : M Flow := match cellNs c.scope.names with
 | [] => setLoc binds >>= fun _ => denSs P Φ { names := c.scope.names, cells := [], hd } c.body
 | [x] => if c.scope.names.lookup x = some .cell then al (.cell (binds x)) >>= fun i => (setLoc fun y => if y = x then none else binds y) >>= fun _ => denSs P Φ { names := c.scope.names, cells := [(x, i)], hd } c.body else failM
 | _ => failM
noncomputable def bodyM (hd : Bool) (c : FnC) (vs : List V) : M V := fun s =>
 if vs.length = c.params.length then
  match bodyR P Φ hd c (fun x => (c.params.zip vs).lookup x) s with
  | .fail => .fail
  | .ok f s' => .ok (backV f) { s' with loc := s.loc }
  | .exc x s' => .exc x { s' with loc := s.loc }
 else .fail
end
noncomputable def phi (P : PI) : Nat → Phi
 | 0 => fun _ _ _ => failM
 | n + 1 => fun hd f vs => match P.code f with
  | some c => bodyM P (phi P n) hd c vs
  | none => failM
end
end
section
open PySem PySem.W PySem.Calls PyProof.Rows
section
set_option genInjectivity false in
inductive Tag where
 | frame | pin
 | own (i : Nat)
 | dic (i : Nat)
 deriving DecidableEq
set_option genInjectivity false in
structure Wd where
 n : Nat
 ρ : Nat → Addr
 δ : Nat → Addr
 lab : Addr → Option Tag
structure Ext (W W' : Wd) : Prop where
 le : W.n ≤ W'.n
 eq : ∀ i, i < W.n → W'.ρ i = W.ρ i
theorem Ext.refl (W : Wd) : Ext W W := ⟨Nat.le_refl _, fun _ _ => rfl⟩
theorem Ext.trans {W₁ W₂ W₃ : Wd} (x : Ext W₁ W₂) (y : Ext W₂ W₃) : Ext W₁ W₃ :=
 ⟨Nat.le_trans x.le y.le, fun i h => (y.eq i (ltl h x.le)).trans (x.eq i h)⟩
noncomputable def VRel (W : Wd) : V → Value → Prop
 | .none, v => v = .none
 | .bool b, v => v = .bool b
 | .int i, v => ∃ t, v = .int i t
 | .str x, v => ∃ t, v = .str x t
 | .bytes b, v => ∃ t, v = .bytes b.toArray t
 | .ref i, v => i < W.n ∧ v = .ref (W.ρ i)
theorem VRel.ext {W W' : Wd} (x : Ext W W') {v : V} {u : Value} (h : VRel W v u) : VRel W' v u := by
 cases v with
 | ref i => exact ⟨ltl h.1 x.le, by rw [x.eq i h.1]; exact h.2⟩
 | _ => exact h
noncomputable def VsRel (W : Wd) : List V → List Value → Prop
 | [], [] => True
 | v :: vs, u :: us => VRel W v u ∧ VsRel W vs us
 | _, _ => False
theorem VsRel.ext {W W' : Wd} (x : Ext W W') : ∀ {vs : List V} {us : List Value}, VsRel W vs us → VsRel W' vs us
 | [], [], _ => trivial
 | _ :: _, _ :: _, h => ⟨h.1.ext x, VsRel.ext x h.2⟩
 | [], _ :: _, h => h.elim
 | _ :: _, [], h => h.elim
theorem VsRel.length {W : Wd} : ∀ {vs : List V} {us : List Value}, VsRel W vs us → vs.length = us.length
 | [], [], _ => rfl
 | _ :: _, _ :: _, h => congrArg (· + 1) (VsRel.length h.2)
 | [], _ :: _, h => h.elim
 | _ :: _, [], h => h.elim
theorem VsRel.get {W : Wd} : ∀ {vs : List V} {us : List Value} {k : Nat} {v : V}, VsRel W vs us → vs[k]? = some v → ∃ u, us[k]? = some u ∧ VRel W v u
 | v :: _, u :: _, 0, _, h, e => by obtain rfl := sj e; exact ⟨u, rfl, h.1⟩
 | _ :: vs, _ :: us, k + 1, _, h, e => VsRel.get (vs := vs) (us := us) (k := k) h.2 e
 | [], [], _, _, _, e => by simp at e
 | [], _ :: _, _, _, h, _ => h.elim
 | _ :: _, [], _, _, h, _ => h.elim
theorem VsRel.none {W : Wd} {vs : List V} {us : List Value} {k : Nat} (h : VsRel W vs us) (e : vs[k]? = none) : us[k]? = none := by
 rw [List.getElem?_eq_none_iff] at e ⊢
 rw [← h.length]; exact e
theorem VsRel.append {W : Wd} : ∀ {vs vs' : List V} {us us' : List Value}, VsRel W vs us → VsRel W vs' us' → VsRel W (vs ++ vs') (us ++ us')
 | [], _, [], _, _, h' => h'
 | _ :: _, _, _ :: _, _, h, h' => ⟨h.1, VsRel.append h.2 h'⟩
 | [], _, _ :: _, _, h, _ => h.elim
 | _ :: _, _, [], _, h, _ => h.elim
theorem VsRel.take {W : Wd} : ∀ {k : Nat} {vs : List V} {us : List Value}, VsRel W vs us → VsRel W (vs.take k) (us.take k)
 | 0, _, _, _ => by dsimp only [List.take_zero]; trivial
 | _ + 1, [], [], _ => trivial
 | k + 1, _ :: vs, _ :: us, h => ⟨h.1, VsRel.take (k := k) (vs := vs) (us := us) h.2⟩
 | _ + 1, [], _ :: _, h => h.elim
 | _ + 1, _ :: _, [], h => h.elim
theorem VsRel.drop {W : Wd} : ∀ {k : Nat} {vs : List V} {us : List Value}, VsRel W vs us → VsRel W (vs.drop k) (us.drop k)
 | 0, _, _, h => h
 | _ + 1, [], [], _ => trivial
 | k + 1, _ :: vs, _ :: us, h => VsRel.drop (k := k) (vs := vs) (us := us) h.2
 | _ + 1, [], _ :: _, h => h.elim
 | _ + 1, _ :: _, [], h => h.elim
theorem VsRel.set {W : Wd} : ∀ {k : Nat} {vs : List V} {us : List Value} {v : V} {u : Value}, VsRel W vs us → VRel W v u → VsRel W (vs.set k v) (us.set k u)
 | _, [], [], _, _, _, _ => trivial
 | 0, _ :: _, _ :: _, _, _, h, h' => ⟨h', h.2⟩
 | k + 1, _ :: vs, _ :: us, _, _, h, h' => ⟨h.1, VsRel.set (k := k) (vs := vs) (us := us) h.2 h'⟩
 | _, [], _ :: _, _, _, h, _ => h.elim
 | _, _ :: _, [], _, _, h, _ => h.elim
theorem VsRel.eraseIdx {W : Wd} : ∀ {k : Nat} {vs : List V} {us : List Value}, VsRel W vs us → VsRel W (vs.eraseIdx k) (us.eraseIdx k)
 | _, [], [], _ => trivial
 | 0, _ :: _, _ :: _, h => h.2
 | k + 1, _ :: vs, _ :: us, h => ⟨h.1, VsRel.eraseIdx (k := k) (vs := vs) (us := us) h.2⟩
 | _, [], _ :: _, h => h.elim
 | _, _ :: _, [], h => h.elim
theorem VsRel.one {W : Wd} {v : V} {u : Value} (h : VRel W v u) : VsRel W [v] [u] := ⟨h, trivial⟩
noncomputable def FRel (W : Wd) : List (Str × V) → List DictEntry → Prop
 | [], [] => True
 | (x, v) :: fs, e :: es => (∃ t, e.key = .str x t) ∧ VRel W v e.val ∧ FRel W fs es
 | _, _ => False
theorem FRel.ext {W W' : Wd} (x : Ext W W') : ∀ {fs : List (Str × V)} {es : List DictEntry}, FRel W fs es → FRel W' fs es
 | [], [], _ => trivial
 | _ :: _, _ :: _, h => ⟨h.1, h.2.1.ext x, FRel.ext x h.2.2⟩
 | [], _ :: _, h => h.elim
 | _ :: _, [], h => h.elim
theorem FRel.length {W : Wd} : ∀ {fs : List (Str × V)} {es : List DictEntry}, FRel W fs es → fs.length = es.length
 | [], [], _ => rfl
 | _ :: _, _ :: _, h => congrArg (· + 1) (FRel.length h.2.2)
 | [], _ :: _, h => h.elim
 | _ :: _, [], h => h.elim
noncomputable abbrev tupOf (vs : Array Value) (n : Nat) : Obj := { cls := .type "tuple", data := .seq vs n }
set_option genInjectivity false in
structure Cx where
 prog : Program
 w : World
 K : Frag
 C : Addr
 base : Heap
 P : PI
noncomputable def PRel {α : Type} (W : Wd) (es : List (α × V)) (kvs : List (α × Value)) : Prop := es.map (·.1) = kvs.map (·.1) ∧ VsRel W (es.map (·.2)) (kvs.map (·.2))
theorem PRel.ext {α : Type} {W W' : Wd} (x : Ext W W') {es : List (α × V)} {kvs : List (α × Value)} (h : PRel W es kvs) : PRel W' es kvs := ⟨h.1, h.2.ext x⟩
theorem PRel.length {α : Type} {W : Wd} {es : List (α × V)} {kvs : List (α × Value)} (h : PRel W es kvs) : es.length = kvs.length := by
 simpa using congrArg List.length h.1
noncomputable def OptRel (W : Wd) : Option V → Option Value → Prop
 | none, none => True
 | some v, some u => VRel W v u
 | _, _ => False
theorem OptRel.ext {W W' : Wd} (x : Ext W W') : ∀ {v : Option V} {u : Option Value}, OptRel W v u → OptRel W' v u
 | none, none, _ => trivial
 | some _, some _, h => VRel.ext x h
 | none, some _, h => h.elim
 | some _, none, h => h.elim
noncomputable def AObj.own : AObj → Prop
 | .ro _ => False
 | _ => True
noncomputable def OAt (c : Cx) (W : Wd) (h : Heap) (i : Nat) : AObj → Prop
 | .list xs => ∃ vs n, h.get? (W.ρ i) = some (listOf vs.toArray n) ∧ VsRel W xs vs
 | .tup xs => ∃ vs n, h.get? (W.ρ i) = some (tupOf vs.toArray n) ∧ VsRel W xs vs
 | .dictI es v => v < W.n ∧ ∃ kvs, h.DictAt (intKind c.prog c.w) (W.ρ i) kvs (W.ρ v) ∧ PRel W es kvs
 | .dictS es => ∃ kvs, h.DictOf (strKind c.prog c.w) (W.ρ i) kvs ∧ PRel W es kvs
 | .inst fs => ∃ ds n, h.get? (W.ρ i) = some (instObj c.C (W.δ i)) ∧ h.get? (W.δ i) = some (dictOf ds n) ∧ FRel W fs ds
 | .cell v => ∃ u, h.IsCell (W.ρ i) u ∧ OptRel W v u
 | .ro xs => ∃ vs, c.base.IsList (W.ρ i) (List.toArray vs) ∧ VsRel W xs vs
theorem dictOf_keeps {prog : Program} {w : World} {α : Type} [DecidableEq α] {knd : KeyKind prog w α} {h h' : Heap} {a : Addr} {kvs : List (α × Value)} (x : h.DictOf knd a kvs)
  (k : ∀ o, h.get? a = some o → h'.get? a = some o) : h'.DictOf knd a kvs :=
 let ⟨o, es, ep, ho, r⟩ := x; ⟨o, es, ep, k o ho, r⟩
theorem OAt.move {c : Cx} {W W' : Wd} {h h' : Heap} {i : Nat} {o : AObj} (x : Ext W W') (hi : W'.ρ i = W.ρ i) (hd : ∀ fs, o = .inst fs → W'.δ i = W.δ i)
  (k1 : o.own → ∀ q, h.get? (W.ρ i) = some q → h'.get? (W.ρ i) = some q) (k2 : ∀ fs, o = .inst fs → ∀ q, h.get? (W.δ i) = some q → h'.get? (W.δ i) = some q) (H : OAt c W h i o) : OAt c W' h' i o := by
 cases o with
 | list xs => obtain ⟨vs, n, a, b⟩ := H; exact ⟨vs, n, by rw [hi]; exact k1 trivial _ a, b.ext x⟩
 | tup xs => obtain ⟨vs, n, a, b⟩ := H; exact ⟨vs, n, by rw [hi]; exact k1 trivial _ a, b.ext x⟩
 | dictI es v => obtain ⟨l, vs, ⟨o, es', ho, r⟩, b⟩ := H; exact ⟨ltl l x.le, vs, by rw [hi, x.eq v l]; exact ⟨o, es', k1 trivial _ ho, r⟩, b.ext x⟩
 | dictS es => obtain ⟨vs, a, b⟩ := H; exact ⟨vs, by rw [hi]; exact dictOf_keeps a (k1 trivial), b.ext x⟩
 | inst fs => obtain ⟨ds, n, a, b, d⟩ := H; exact ⟨ds, n, by rw [hi, hd fs rfl]; exact k1 trivial _ a, by rw [hd fs rfl]; exact k2 fs rfl _ b, d.ext x⟩
 | cell v => obtain ⟨u, ⟨o, ho, hdt⟩, b⟩ := H; exact ⟨u, ⟨o, by rw [hi]; exact k1 trivial _ ho, hdt⟩, b.ext x⟩
 | ro xs => obtain ⟨vs, a, b⟩ := H; exact ⟨vs, by rw [hi]; exact a, b.ext x⟩
noncomputable abbrev Frs := List (Addr × (Str → Option Value))
structure Inv (c : Cx) (fr : Frs) (pins : List (Addr × Obj)) (W : Wd) (σ : Nat → Option AObj) (h : Heap) : Prop where
 stays : c.base.StaysIn h
 frs : ∀ p ∈ fr, h.Ns p.1 p.2
 pin : ∀ p ∈ pins, h.get? p.1 = some p.2
 dom : ∀ i o, σ i = some o → i < W.n
 own : ∀ i o, σ i = some o → OAt c W h i o
 lfr : ∀ p ∈ fr, W.lab p.1 = some .frame
 lpin : ∀ p ∈ pins, W.lab p.1 = some .pin
 lown : ∀ i o, σ i = some o → o.own → W.lab (W.ρ i) = some (.own i)
 ldic : ∀ i fs, σ i = some (.inst fs) → W.lab (W.δ i) = some (.dic i)
 new : ∀ a, W.lab a ≠ none → (c.base.get? a = none ∧ (W.lab a ≠ some .pin → c.base.objs.size ≤ a)) ∧ ∃ o, h.get? a = some o
 nodup : (fr.map (·.1)).Nodup
 sz : c.base.objs.size ≤ h.objs.size
variable {c : Cx} {fr : Frs} {pins : List (Addr × Obj)} {W : Wd} {σ : Nat → Option AObj} {h : Heap}
theorem Inv.fresh (I : Inv c fr pins W σ h) {a : Addr} (ha : W.lab a ≠ none) : c.base.get? a = none := (I.new a ha).1.1
theorem base_none {c : Cx} {a : Addr} (ha : c.base.objs.size ≤ a) : c.base.get? a = none := by
 cases q : c.base.get? a with
 | none => rfl
 | some o => exact absurd (ltl (Heap.lt_size q) ha) (Nat.lt_irrefl _)
theorem nL {t : Tag} {a : Addr} (h : W.lab a = some t) : W.lab a ≠ none := by rw [h]; exact fun x => zS x
theorem ne_of_lab {a b : Addr} {t u : Tag} (ha : W.lab a = some t) (hb : W.lab b = some u) (h : t ≠ u) : a ≠ b := by
 rintro rfl
 rw [ha] at hb
 exact h (sj hb)
theorem Inv.keeps (I : Inv c fr pins W σ h) {h' : Heap} (hk : ∀ a o, W.lab a ≠ none → h.get? a = some o → h'.get? a = some o) (hb : c.base.StaysIn h') (hz : c.base.objs.size ≤ h'.objs.size) : Inv c fr pins W σ h' where
 stays := hb
 frs := fun p hp => let ⟨o, es, ep, ho, r⟩ := I.frs p hp; ⟨o, es, ep, hk _ _ (nL (I.lfr p hp)) ho, r⟩
 pin := fun p hp => hk _ _ (nL (I.lpin p hp)) (I.pin p hp)
 dom := I.dom
 own := fun i o e => (I.own i o e).move (Ext.refl W) rfl (fun _ _ => rfl) (fun n q hq => hk _ _ (nL (I.lown i o e n)) hq) (fun fs e' q hq => hk _ _ (nL (I.ldic i fs (e' ▸ e))) hq)
 lfr := I.lfr
 lpin := I.lpin
 lown := I.lown
 ldic := I.ldic
 new := fun a ha => ⟨(I.new a ha).1, let ⟨o, e⟩ := (I.new a ha).2; ⟨o, hk a o ha e⟩⟩
 nodup := I.nodup
 sz := hz
theorem Inv.keepsAll (I : Inv c fr pins W σ h) {h' : Heap} (hk : ∀ a o, h.get? a = some o → h'.get? a = some o) (hz : h.objs.size ≤ h'.objs.size) : Inv c fr pins W σ h' :=
 I.keeps (fun a o _ => hk a o) (fun a o e => hk a o (I.stays a o e)) (Nat.le_trans I.sz hz)
theorem Inv.other (I : Inv c fr pins W σ h) {h' : Heap} {x : Addr} (hx : W.lab x = none) (hxb : c.base.get? x = none) (hs : Heap.SameBut x h h') : Inv c fr pins W σ h' :=
 I.keeps (fun a o ha e => (hs.2 a (fun q => ha (q ▸ hx))).trans e) (fun a o e => (hs.2 a (fun q => by rw [q, hxb] at e; exact zN e)).trans (I.stays a o e)) (by rw [hs.1]; exact I.sz)
theorem Inv.push (I : Inv c fr pins W σ h) (o : Obj) : Inv c fr pins W σ (h.push o) :=
 I.keepsAll (fun _ _ e => Heap.get?_push_of_some o e) (by rw [Heap.size_push]; exact Nat.le_succ _)
theorem Inv.unlab_size (I : Inv c fr pins W σ h) {a : Addr} (ha : h.objs.size ≤ a) : W.lab a = none := by
 cases q : W.lab a with
 | none => rfl
 | some t => obtain ⟨_, o, e⟩ := I.new a (nL q); exact absurd (ltl (Heap.lt_size e) ha) (Nat.lt_irrefl _)
theorem Inv.unbase_size (I : Inv c fr pins W σ h) {a : Addr} (ha : h.objs.size ≤ a) : c.base.get? a = none := by
 cases q : c.base.get? a with
 | none => rfl
 | some o => exact absurd (ltl (Heap.lt_size (I.stays a o q)) ha) (Nat.lt_irrefl _)
theorem Inv.setFrame {L : Addr} {m m' : Str → Option Value} (I : Inv c ((L, m) :: fr) pins W σ h) {h' : Heap} (hs : Heap.SameBut L h h') (hn : h'.Ns L m') : Inv c ((L, m') :: fr) pins W σ h' := by
 have lL := I.lfr (L, m) (.head _)
 have nd : L ∉ fr.map (·.1) := by have := I.nodup; rw [List.map_cons, List.nodup_cons] at this; exact this.1
 have ne : ∀ a t, W.lab a = some t → t ≠ .frame → a ≠ L := fun a t ha ht => ne_of_lab ha lL ht
 refine ⟨fun a o e => (hs.2 a (fun q => ?_)).trans (I.stays a o e), ?_, fun p hp => (hs.2 _ (ne _ _ (I.lpin p hp) (by decide))).trans (I.pin p hp), I.dom, fun i o e => ?_, ?_, I.lpin, I.lown, I.ldic, fun a ha => ⟨(I.new a ha).1, ?_⟩, I.nodup, by rw [hs.1]; exact I.sz⟩
 ·have := I.fresh (nL lL); rw [q, this] at e; exact zN e
 ·intro p hp
  rcases List.mem_cons.mp hp with rfl | hp
  ·exact hn
  ·exact (I.frs p (.tail _ hp)).sameBut hs (fun q => nd (q ▸ List.mem_map_of_mem hp))
 ·exact (I.own i o e).move (Ext.refl W) rfl (fun _ _ => rfl) (fun n q hq => (hs.2 _ (ne _ _ (I.lown i o e n) (fun h => (by contradiction)))).trans hq) (fun fs e' q hq => (hs.2 _ (ne _ _ (I.ldic i fs (e' ▸ e)) (fun h => (by contradiction)))).trans hq)
 ·intro p hp
  rcases List.mem_cons.mp hp with rfl | hp
  ·exact lL
  ·exact I.lfr p (.tail _ hp)
 ·by_cases q : a = L
  ·obtain ⟨o, _, _, ho, _⟩ := hn
   exact ⟨o, q ▸ ho⟩
  ·obtain ⟨_, o, e⟩ := I.new a ha
   exact ⟨o, (hs.2 a q).trans e⟩
theorem OAt.there {c : Cx} {W : Wd} {h : Heap} {i : Nat} {o : AObj} (hn : o.own) (H : OAt c W h i o) : ∃ q, h.get? (W.ρ i) = some q := by
 cases o with
 | list xs => obtain ⟨_, _, a, _⟩ := H; exact ⟨_, a⟩
 | tup xs => obtain ⟨_, _, a, _⟩ := H; exact ⟨_, a⟩
 | dictI es v => obtain ⟨_, _, ⟨_, _, a, _⟩, _⟩ := H; exact ⟨_, a⟩
 | dictS es => obtain ⟨_, ⟨_, _, _, a, _⟩, _⟩ := H; exact ⟨_, a⟩
 | inst fs => obtain ⟨_, _, a, _, _⟩ := H; exact ⟨_, a⟩
 | cell v => obtain ⟨_, ⟨_, a, _⟩, _⟩ := H; exact ⟨_, a⟩
 | ro xs => exact hn.elim
structure Keep (c : Cx) (W : Wd) (x : Addr) (h h' : Heap) : Prop where
 base : c.base.StaysIn h'
 keep : ∀ a o, W.lab a ≠ none → W.lab a ≠ some .frame → a ≠ x → h.get? a = some o → h'.get? a = some o
 frame : ∀ a o, W.lab a = some .frame → h.get? a = some o → ∃ o', h'.get? a = some o'
 size : c.base.objs.size ≤ h'.objs.size
theorem Keep.of (I : Inv c fr pins W σ h) {h' : Heap} {x : Addr} {t : Tag} (hx : W.lab x = some t) (ht : t ≠ .frame) (hs : Heap.SameBut x h h') : Keep c W x h h' where
 base := fun a o e => (hs.2 a (fun q => by have := I.fresh (nL hx); rw [q, this] at e; exact zN e)).trans (I.stays a o e)
 keep := fun a o _ _ ne e => (hs.2 a ne).trans e
 frame := fun a o ha e => ⟨o, (hs.2 a (ne_of_lab ha hx (Ne.symm ht))).trans e⟩
 size := by rw [hs.1]; exact I.sz
theorem Keep.frs (I : Inv c fr pins W σ h) {h' : Heap} {x : Addr} {t : Tag} (hx : W.lab x = some t) (ht : t ≠ .frame) (hs : Heap.SameBut x h h') : ∀ p ∈ fr, h'.Ns p.1 p.2 :=
 fun p hp => (I.frs p hp).sameBut hs (ne_of_lab (I.lfr p hp) hx (Ne.symm ht))
theorem Inv.setOwn' (I : Inv c fr pins W σ h) {h' : Heap} {i : Nat} {o o' : AObj} (hi : σ i = some o) (k : Keep c W (W.ρ i) h h') (hf : ∀ p ∈ fr, h'.Ns p.1 p.2) (ho : OAt c W h' i o')
  (hinst : (∃ fs, o' = .inst fs) → ∃ fs, o = .inst fs) (hn : o.own := by trivial) (hn' : o'.own := by trivial) : Inv c fr pins W (upd σ i o') h' := by
 have li := I.lown i o hi hn
 have ne : ∀ a t, W.lab a = some t → t ≠ .own i → a ≠ W.ρ i := fun a t ha ht => ne_of_lab ha li ht
 have nf : ∀ a t, W.lab a = some t → t ≠ .frame → W.lab a ≠ some .frame := fun a t ha ht q => ht (sj (ha.symm.trans q))
 refine ⟨k.base, hf, fun p hp => k.keep _ _ (nL (I.lpin p hp)) (nf _ _ (I.lpin p hp) (fun h => (by contradiction))) (ne _ _ (I.lpin p hp) (fun h => (by contradiction))) (I.pin p hp), ?_, ?_, I.lfr, I.lpin, ?_, ?_, fun a ha => ⟨(I.new a ha).1, ?_⟩, I.nodup, k.size⟩
 ·intro j q e
  unfold upd at e
  split at e
  ·rename_i z; subst z; exact I.dom _ _ hi
  ·exact I.dom _ _ e
 ·intro j q e
  unfold upd at e
  split at e
  ·rename_i z; subst z; obtain rfl := sj e; exact ho
  ·rename_i z
   exact (I.own j q e).move (Ext.refl W) rfl (fun _ _ => rfl) (fun n y hy => k.keep _ _ (nL (I.lown j q e n)) (nf _ _ (I.lown j q e n) (fun h => (by contradiction))) (ne _ _ (I.lown j q e n) (fun q => z (by injection q))) hy)
    (fun fs e' y hy => k.keep _ _ (nL (I.ldic j fs (e' ▸ e))) (nf _ _ (I.ldic j fs (e' ▸ e)) (fun h => (by contradiction))) (ne _ _ (I.ldic j fs (e' ▸ e)) (fun h => (by contradiction))) hy)
 ·intro j q e n
  unfold upd at e
  split at e
  ·rename_i z; subst z; exact li
  ·exact I.lown j q e n
 ·intro j fs e
  unfold upd at e
  split at e
  ·rename_i z; subst z; obtain rfl := sj e
   obtain ⟨fs', rfl⟩ := hinst ⟨fs, rfl⟩
   exact I.ldic _ _ hi
  ·exact I.ldic j fs e
 ·obtain ⟨_, q, e⟩ := I.new a ha
  by_cases z : a = W.ρ i
  ·rw [z]; exact ho.there hn'
  ·by_cases zf : W.lab a = some .frame
   ·exact k.frame a q zf e
   ·exact ⟨q, k.keep a q ha zf z e⟩
theorem Inv.setOwn (I : Inv c fr pins W σ h) {h' : Heap} {i : Nat} {o o' : AObj} (hi : σ i = some o) (hs : Heap.SameBut (W.ρ i) h h') (ho : OAt c W h' i o')
  (hinst : (∃ fs, o' = .inst fs) → ∃ fs, o = .inst fs) (hn : o.own := by trivial) (hn' : o'.own := by trivial) : Inv c fr pins W (upd σ i o') h' :=
 I.setOwn' hi (Keep.of I (I.lown i o hi hn) (fun h => (by contradiction)) hs) (Keep.frs I (I.lown i o hi hn) (fun h => (by contradiction)) hs) ho hinst hn hn'
theorem Inv.setDict (I : Inv c fr pins W σ h) {h' : Heap} {i : Nat} {fs fs' : List (Str × V)} (hi : σ i = some (.inst fs)) (k : Keep c W (W.δ i) h h') (hf : ∀ p ∈ fr, h'.Ns p.1 p.2) {ds : List DictEntry} {n : Nat}
  (hd : h'.get? (W.δ i) = some (dictOf ds n)) (hfr : FRel W fs' ds) : Inv c fr pins W (upd σ i (.inst fs')) h' := by
 have li := I.lown i _ hi trivial
 have ld := I.ldic i _ hi
 have ne : ∀ a t, W.lab a = some t → t ≠ .dic i → a ≠ W.δ i := fun a t ha ht => ne_of_lab ha ld ht
 have nf : ∀ a t, W.lab a = some t → t ≠ .frame → W.lab a ≠ some .frame := fun a t ha ht q => ht (sj (ha.symm.trans q))
 refine ⟨k.base, hf, fun p hp => k.keep _ _ (nL (I.lpin p hp)) (nf _ _ (I.lpin p hp) (fun h => (by contradiction))) (ne _ _ (I.lpin p hp) (fun h => (by contradiction))) (I.pin p hp), ?_, ?_, I.lfr, I.lpin, ?_, ?_, fun a ha => ⟨(I.new a ha).1, ?_⟩, I.nodup, k.size⟩
 ·intro j q e
  unfold upd at e
  split at e
  ·rename_i z; subst z; exact I.dom _ _ hi
  ·exact I.dom _ _ e
 ·intro j q e
  unfold upd at e
  split at e
  ·rename_i z; subst z; obtain rfl := sj e
   obtain ⟨_, _, a, _, _⟩ := I.own _ _ hi
   exact ⟨ds, n, k.keep _ _ (nL li) (nf _ _ li (fun h => (by contradiction))) (ne _ _ li (fun h => (by contradiction))) a, hd, hfr⟩
  ·rename_i z
   exact (I.own j q e).move (Ext.refl W) rfl (fun _ _ => rfl) (fun n y hy => k.keep _ _ (nL (I.lown j q e n)) (nf _ _ (I.lown j q e n) (fun h => (by contradiction))) (ne _ _ (I.lown j q e n) (fun h => (by contradiction))) hy)
    (fun fs e' y hy => k.keep _ _ (nL (I.ldic j fs (e' ▸ e))) (nf _ _ (I.ldic j fs (e' ▸ e)) (fun h => (by contradiction))) (ne _ _ (I.ldic j fs (e' ▸ e)) (fun q => z (by injection q))) hy)
 ·intro j q e n
  unfold upd at e
  split at e
  ·rename_i z; subst z; exact li
  ·exact I.lown j q e n
 ·intro j gs e
  unfold upd at e
  split at e
  ·rename_i z; subst z; obtain rfl := AObj.inst.inj (sj e); exact ld
  ·exact I.ldic j gs e
 ·obtain ⟨_, q, e⟩ := I.new a ha
  by_cases z : a = W.δ i
  ·rw [z]; exact ⟨_, hd⟩
  ·by_cases zf : W.lab a = some .frame
   ·exact k.frame a q zf e
   ·exact ⟨q, k.keep a q ha zf z e⟩
noncomputable def Wd.add (W : Wd) (a d : Addr) (two : Bool) : Wd where
 n := W.n + 1
 ρ := fun j => if j = W.n then a else W.ρ j
 δ := fun j => if j = W.n then d else W.δ j
 lab := fun x => if x = a then some (.own W.n) else if two = true ∧ x = d then some (.dic W.n) else W.lab x
theorem Wd.ext_add (W : Wd) (a d : Addr) (two : Bool) : Ext W (W.add a d two) := ⟨Nat.le_succ _, fun i hi => if_neg (Nat.ne_of_lt hi)⟩
theorem Wd.ρ_add (W : Wd) (a d : Addr) (two : Bool) : (W.add a d two).ρ W.n = a := if_pos rfl
theorem Wd.δ_add (W : Wd) (a d : Addr) (two : Bool) : (W.add a d two).δ W.n = d := if_pos rfl
noncomputable def Wd.bump (W : Wd) (e : Nat) : Wd := { W with n := W.n + 1, ρ := fun j => if j = W.n then e else W.ρ j }
theorem Wd.ext_bump (W : Wd) (e : Nat) : Ext W (W.bump e) := ⟨Nat.le_succ _, fun i hi => if_neg (Nat.ne_of_lt hi)⟩
theorem Inv.bump (I : Inv c fr pins W σ h) (e : Nat) : Inv c fr pins (W.bump e) σ h where
 stays := I.stays
 frs := I.frs
 pin := I.pin
 dom := fun i o q => Nat.lt_succ_of_lt (I.dom i o q)
 own := fun i o q => (I.own i o q).move (W.ext_bump e) ((W.ext_bump e).eq i (I.dom i o q)) (fun _ _ => rfl) (fun _ _ x => x) (fun _ _ _ x => x)
 lfr := I.lfr
 lpin := I.lpin
 lown := fun i o q n => by rw [(W.ext_bump e).eq i (I.dom i o q)]; exact I.lown i o q n
 ldic := I.ldic
 new := I.new
 nodup := I.nodup
 sz := I.sz
theorem Inv.add (I : Inv c fr pins W σ h) {a d : Addr} {two : Bool} {o : AObj} (ha : W.lab a = none) (hab : c.base.objs.size ≤ a)
  (hd : two = true → W.lab d = none ∧ d ≠ a ∧ c.base.objs.size ≤ d ∧ ∃ o, h.get? d = some o) (ht : (∃ fs, o = .inst fs) → two = true) (ho : OAt c (W.add a d two) h W.n o) (hn : o.own := by trivial) : Inv c fr pins (W.add a d two) (upd σ W.n o) h := by
 have old : ∀ x t, W.lab x = some t → (W.add a d two).lab x = some t := fun x t hx => by
  unfold Wd.add
  dsimp only
  rw [if_neg (fun q => by rw [q, ha] at hx; exact zN hx), if_neg (fun q => by rw [q.2, (hd q.1).1] at hx; exact zN hx)]
  exact hx
 refine ⟨I.stays, I.frs, I.pin, ?_, ?_, fun p hp => old _ _ (I.lfr p hp), fun p hp => old _ _ (I.lpin p hp), ?_, ?_, ?_, I.nodup, I.sz⟩
 ·intro j q e
  unfold upd at e
  split at e
  ·rename_i z; subst z; exact Nat.lt_succ_self _
  ·exact Nat.lt_succ_of_lt (I.dom j q e)
 ·intro j q e
  unfold upd at e
  split at e
  ·rename_i z; subst z; obtain rfl := sj e; exact ho
  ·rename_i z
   exact (I.own j q e).move (W.ext_add a d two) (if_neg z) (fun _ _ => if_neg z) (fun _ _ x => x) (fun _ _ _ x => x)
 ·intro j q e n
  unfold upd at e
  split at e
  ·rename_i z; subst z; rw [Wd.ρ_add]; unfold Wd.add; exact if_pos rfl
  ·rename_i z
   have : (W.add a d two).ρ j = W.ρ j := if_neg z
   rw [this]; exact old _ _ (I.lown j q e n)
 ·intro j fs e
  unfold upd at e
  split at e
  ·rename_i z; subst z; obtain rfl := sj e
   have t := ht ⟨fs, rfl⟩
   rw [Wd.δ_add]
   unfold Wd.add
   dsimp only
   rw [if_neg (hd t).2.1, if_pos ⟨t, rfl⟩]
  ·rename_i z
   have : (W.add a d two).δ j = W.δ j := if_neg z
   rw [this]; exact old _ _ (I.ldic j fs e)
 ·intro x hx
  by_cases qa : x = a
  ·subst qa
   have := ho.there hn
   rw [Wd.ρ_add] at this
   exact ⟨⟨base_none hab, fun _ => hab⟩, this⟩
  ·by_cases qd : two = true ∧ x = d
   ·obtain ⟨t, rfl⟩ := qd
    exact ⟨⟨base_none (hd t).2.2.1, fun _ => (hd t).2.2.1⟩, (hd t).2.2.2⟩
   ·have e : (W.add a d two).lab x = W.lab x := by
     unfold Wd.add
     dsimp only
     rw [if_neg qa, if_neg qd]
    rw [e] at hx ⊢
    exact I.new x hx
theorem Inv.alloc (I : Inv c fr pins W σ h) {ob : Obj} {o : AObj} (hn : ∀ fs, o ≠ .inst fs) (ho : OAt c (W.add h.objs.size 0 false) (h.push ob) W.n o) (hw : o.own := by trivial) :
  Inv c fr pins (W.add h.objs.size 0 false) (upd σ W.n o) (h.push ob) :=
 (I.push ob).add (I.unlab_size (Nat.le_refl _)) I.sz (fun x => zF x) (fun ⟨fs, e⟩ => absurd e (hn fs)) ho hw
theorem Inv.captureM {L : Addr} {m : Str → Option Value} (I : Inv c ((L, m) :: fr) pins W σ h) (x : Addr) :
  ∃ rest : List (Addr × Obj), News c.base L h rest ∧ (∀ p ∈ rest, p.1 ≠ x) ∧ (∀ p ∈ rest, p.1 < h.objs.size) ∧ ∀ a o, W.lab a ≠ none → a ≠ L → a ≠ x → h.get? a = some o → (a, o) ∈ rest := by
 have out : ∀ p ∈ (List.range h.objs.size).filterMap (fun a => if W.lab a ≠ none ∧ a ≠ L ∧ a ≠ x then (h.get? a).map fun o => (a, o) else none), (W.lab p.1 ≠ none ∧ p.1 ≠ L ∧ p.1 ≠ x) ∧ h.get? p.1 = some p.2 := by
  intro p hp
  obtain ⟨a, _, ha⟩ := List.mem_filterMap.mp hp
  split at ha
  ·rename_i q
   obtain ⟨o, ho, rfl⟩ := Option.map_eq_some_iff.mp ha
   exact ⟨q, ho⟩
  ·exact zN ha
 exact ⟨_, fun p hp => ⟨(out p hp).2, (out p hp).1.2.1, I.fresh (out p hp).1.1⟩, fun p hp => (out p hp).1.2.2, fun p hp => Heap.lt_size (out p hp).2,
  fun a o ha hL hx ho => List.mem_filterMap.mpr ⟨a, List.mem_range.mpr (Heap.lt_size ho), by rw [if_pos ⟨ha, hL, hx⟩, ho]; rfl⟩⟩
theorem Inv.capture {L : Addr} {m : Str → Option Value} (I : Inv c ((L, m) :: fr) pins W σ h) (x : Addr) :
  ∃ rest : List (Addr × Obj), News c.base L h rest ∧ (∀ p ∈ rest, p.1 ≠ x) ∧ (∀ p ∈ rest, p.1 < h.objs.size) ∧
   ∀ h' L', News c.base L' h' rest → ∀ a o, W.lab a ≠ none → a ≠ L → a ≠ x → h.get? a = some o → h'.get? a = some o :=
 let ⟨rest, N, h1, h2, h3⟩ := I.captureM x
 ⟨rest, N, h1, h2, fun _ _ N' a o ha hL hx ho => (N' (a, o) (h3 a o ha hL hx ho)).1⟩
theorem Inv.toFr {L : Addr} {m : Str → Option Value} (I : Inv c ((L, m) :: fr) pins W σ h) : Fr c.base L h m := ⟨I.frs _ (.head _), I.stays, (I.new L (nL (I.lfr _ (.head _)))).1.2 (by rw [I.lfr _ (.head _)]; simp)⟩
theorem Inv.keepOf {L : Addr} {m m' : Str → Option Value} (I : Inv c ((L, m) :: fr) pins W σ h) {h' : Heap} {x : Addr} (F : Fr c.base L h' m')
  (hk : ∀ a o, W.lab a ≠ none → a ≠ L → a ≠ x → h.get? a = some o → h'.get? a = some o) (hx : ∀ t, W.lab x = some t → t ≠ .frame) : Keep c W x h h' ∧ ∀ p ∈ ((L, m') :: fr : Frs), h'.Ns p.1 p.2 := by
 have lL := I.lfr _ (.head _)
 have nd : L ∉ fr.map (·.1) := by have := I.nodup; rw [List.map_cons, List.nodup_cons] at this; exact this.1
 refine ⟨⟨F.keep, fun a o ha hf ne e => hk a o ha (fun q => hf (q ▸ lL)) ne e, fun a o ha e => ?_, ?_⟩, fun p hp => ?_⟩
 ·by_cases q : a = L
  ·obtain ⟨o, _, _, ho, _⟩ := F.ns
   exact ⟨o, q ▸ ho⟩
  ·exact ⟨o, hk a o (nL ha) q (fun z => hx _ (z ▸ ha) rfl) e⟩
 ·obtain ⟨o, _, _, ho, _⟩ := F.ns
  exact Nat.le_of_lt (Nat.lt_of_le_of_lt F.above (Heap.lt_size ho))
 ·rcases List.mem_cons.mp hp with rfl | hp
  ·exact F.ns
  ·obtain ⟨o, es, ep, ho, r⟩ := I.frs p (.tail _ hp)
   have lp := I.lfr p (.tail _ hp)
   exact ⟨o, es, ep, hk _ _ (nL lp) (fun q => nd (q ▸ List.mem_map_of_mem hp)) (fun z => hx _ (z ▸ lp) rfl) ho, r⟩
theorem Inv.ofKeep (I : Inv c fr pins W σ h) {h' : Heap} {x : Addr} {fr' : Frs} (hx : W.lab x = none) (k : Keep c W x h h') (hfs : fr'.map (·.1) = fr.map (·.1)) (hf : ∀ p ∈ fr', h'.Ns p.1 p.2) : Inv c fr' pins W σ h' where
 stays := k.base
 frs := hf
 pin := fun p hp => k.keep _ _ (nL (I.lpin p hp)) (fun q => by rw [I.lpin p hp] at q; contradiction) (fun q => by rw [← q, I.lpin p hp] at hx; exact zS hx) (I.pin p hp)
 dom := I.dom
 own := fun i o e => (I.own i o e).move (Ext.refl W) rfl (fun _ _ => rfl)
  (fun n q hq => k.keep _ _ (nL (I.lown i o e n)) (fun z => by rw [I.lown i o e n] at z; nomatch z) (fun z => by rw [← z, I.lown i o e n] at hx; exact zS hx) hq)
  (fun fs e' q hq => k.keep _ _ (nL (I.ldic i fs (e' ▸ e))) (fun z => by rw [I.ldic i fs (e' ▸ e)] at z; nomatch z) (fun z => by rw [← z, I.ldic i fs (e' ▸ e)] at hx; exact zS hx) hq)
 lfr := fun p hp => by
  have : p.1 ∈ fr.map (·.1) := hfs ▸ List.mem_map_of_mem hp
  obtain ⟨q, hq, e⟩ := List.mem_map.mp this
  rw [← e]; exact I.lfr q hq
 lpin := I.lpin
 lown := I.lown
 ldic := I.ldic
 new := fun a ha => by
  obtain ⟨b, o, e⟩ := I.new a ha
  refine ⟨b, ?_⟩
  by_cases zf : W.lab a = some .frame
  ·exact k.frame a o zf e
  ·exact ⟨o, k.keep a o ha zf (fun q => ha (q ▸ hx)) e⟩
 nodup := hfs ▸ I.nodup
 sz := k.size
theorem Inv.allocOf {L : Addr} {m : Str → Option Value} (I : Inv c ((L, m) :: fr) pins W σ h) {h' : Heap} {q : Addr} {ob : Obj} {o : AObj} {rest : List (Addr × Obj)} (hq : h.objs.size ≤ q)
  (F : Fr c.base L h' m) (N : News c.base L h' ((q, ob) :: rest)) (hback : ∀ h' L', News c.base L' h' rest → ∀ a o, W.lab a ≠ none → a ≠ L → a ≠ h.objs.size → h.get? a = some o → h'.get? a = some o)
  (hn : ∀ fs, o ≠ .inst fs) (ho : h'.get? q = some ob → OAt c (W.add q 0 false) h' W.n o) (hw : o.own := by trivial) : Inv c ((L, m) :: fr) pins (W.add q 0 false) (upd σ W.n o) h' := by
 have hx := I.unlab_size (Nat.le_refl h.objs.size)
 have hk : ∀ a o, W.lab a ≠ none → a ≠ L → a ≠ h.objs.size → h.get? a = some o → h'.get? a = some o := hback h' L fun p hp => N p (.tail _ hp)
 obtain ⟨k, hf⟩ := I.keepOf F hk (fun t ht => by rw [hx] at ht; exact zN ht)
 have I' := I.ofKeep hx k rfl hf
 have hb : c.base.objs.size ≤ q := Nat.le_trans I.sz hq
 exact I'.add (I.unlab_size hq) hb (fun x => zF x) (fun ⟨fs, e⟩ => absurd e (hn fs)) (ho (N _ (.head _)).1) hw
end
section
set_option genInjectivity false in
structure G where
 c : Cx
 d : Nat
 k : Nat
 hd : Bool
 pins : List (Addr × Obj)
 fenvs : List Env
 L : Addr
 fr : Frs
noncomputable def HOk (hd : Bool) (pins : List (Addr × Obj)) (A : Around) : Prop :=
 A.handled = none ∨ (hd = true ∧ ∃ e oe vs, A.handled = some (.ref e) ∧ (e, oe) ∈ pins ∧ oe.data = .fields vs ∧ vs[2]? = some .none ∧ 2 < vs.size)
noncomputable def FOk (g : G) : Prop := ∀ e ∈ g.fenvs, e.scope.kind ≠ .module ∧ ∃ L, e.frame = some L ∧ L ∈ g.L :: g.fr.map (·.1)
structure AOk (g : G) (A : Around) : Prop where
 fo : FOk g
 frames : A.frames = some g.fenvs
 hd : HOk g.hd g.pins A
 k : g.k ≤ 6
 depth : A.depth + 8 * g.d ≤ 980 + g.k
 units : A.units + 60 * g.d ≤ 9800 + g.k
noncomputable def LRel (W : Wd) (loc : Str → Option V) (m : Str → Option Value) : Prop := ∀ x v, loc x = some v → ∃ u, m x = some u ∧ VRel W v u
theorem LRel.ext {W W' : Wd} (x : Ext W W') {loc : Str → Option V} {m : Str → Option Value} (h : LRel W loc m) : LRel W' loc m :=
 fun y v e => let ⟨u, a, b⟩ := h y v e; ⟨u, a, b.ext x⟩
structure St (g : G) (W : Wd) (m : Str → Option Value) (st : S) (s : Shared) : Prop where
 inv : Inv g.c ((g.L, m) :: g.fr) g.pins W st.heap s.heap
 next : st.next = W.n
 loc : LRel W st.loc m
noncomputable def Same (s s' : Shared) : Prop := ∃ h' tk, s' = { s with heap := h', toks := tk }
theorem Same.refl (s : Shared) : Same s s := ⟨s.heap, s.toks, rfl⟩
theorem Same.trans {s₁ s₂ s₃ : Shared} (x : Same s₁ s₂) (y : Same s₂ s₃) : Same s₁ s₃ := by
 obtain ⟨h, t, rfl⟩ := x
 obtain ⟨h', t', rfl⟩ := y
 exact ⟨h', t', rfl⟩
theorem Same.mk' {s : Shared} {h : Heap} {t : Nat} : Same s { s with heap := h, toks := t } := ⟨h, t, rfl⟩
theorem Same.heap {s : Shared} {h : Heap} : Same s { s with heap := h } := ⟨h, s.toks, rfl⟩
theorem Same.toks {s : Shared} {t : Nat} : Same s { s with toks := t } := ⟨s.heap, t, rfl⟩
noncomputable def xT : X → String
 | .index => "IndexError"
 | .value => "ValueError"
 | .assertion => "AssertionError"
 | .weight => ""
noncomputable def clsIs (c : Cx) (x : X) (v : Value) : Prop := if x = .weight then ∃ a, v = .ref a ∧ nsIn c.K mainGlobals "BadWeightError" = some (some (.ref a)) else v = .type (xT x)
noncomputable def Thrown (c : Cx) (W : Wd) (h : Heap) (x : X) (e : Value) : Prop :=
 ∃ a oe vs, e = .ref a ∧ W.lab a = none ∧ c.base.get? a = none ∧ h.get? a = some oe ∧ clsIs c x oe.cls ∧ oe.data = .fields vs ∧ vs[2]? = some .none ∧
  (vs[1]? = some .none ∨ ∃ T oT ts, vs[1]? = some (.ref T) ∧ T ≠ a ∧ W.lab T = none ∧ c.base.get? T = none ∧ h.get? T = some oT ∧ oT.data = .fields ts ∧ 3 < ts.size)
noncomputable def Post {α β : Type} (g : G) (W : Wd) (s : Shared) (Rel : Wd → β → α → Prop) (Q : α → Shared → Prop) (E : Value → Shared → Prop) (r : R β) : Prop := match r with
 | .fail => False
 | .ok b st' => ∀ W' mm' s' a, Ext W W' → St g W' mm' st' s' → Same s s' → Rel W' b a → Q a s'
 | .exc x st' => ∀ W' mm' s' e, Ext W W' → St g W' mm' st' s' → Same s s' → Thrown g.c W' s'.heap x e → E e s'
noncomputable def Sim {α β : Type} (g : G) (W₀ : Wd) (t : Sem α) (m : M β) (R : Wd → β → α → Prop) : Prop :=
 ∀ (A : Around) (W : Wd) (mm : Str → Option Value) (st : S) (s : Shared) (Q : α → Shared → Prop) (E : Value → Shared → Prop),
  AOk g A → Ext W₀ W → St g W mm st s → Post g W s R Q E (m st) → wpAny (model g.c.prog g.c.w) A t Q E s
noncomputable abbrev VR : Wd → V → Value → Prop := VRel
section
variable {α β γ δ : Type} {g : G} {W : Wd}
theorem Post.move {s s' : Shared} {W' : Wd} {R : Wd → β → α → Prop} {Q : α → Shared → Prop} {E : Value → Shared → Prop} {r : Mine.R β} (h : Post g W s R Q E r) (hx : Ext W W') (hs : Same s s') : Post g W' s' R Q E r := by
 cases r with
 | fail => exact h
 | ok b st' => exact fun W₂ mm s₂ a hx' hS hs' hr => h W₂ mm s₂ a (hx.trans hx') hS (hs.trans hs') hr
 | exc x st' => exact fun W₂ mm s₂ a hx' hS hs' ht => h W₂ mm s₂ a (hx.trans hx') hS (hs.trans hs') ht
theorem Post.bind {s : Shared} {st : S} {m : M β} {k : β → M δ} {R : Wd → β → α → Prop} {R' : Wd → δ → γ → Prop} {Q : α → Shared → Prop} {Q' : γ → Shared → Prop} {E : Value → Shared → Prop} (hP : Post g W s R' Q' E ((m >>= k) st))
  (h : ∀ b st' W' mm' s' a, Ext W W' → St g W' mm' st' s' → Same s s' → R W' b a → Post g W' s' R' Q' E (k b st') → Q a s') : Post g W s R Q E (m st) := by
 revert hP
 show Post g W s R' Q' E (match m st with | .fail => .fail | .ok a s' => k a s' | .exc x s' => .exc x s') → _
 cases m st with
 | fail => exact id
 | ok b st' => exact fun hP W' mm' s' a hx hS hs hr => h b st' W' mm' s' a hx hS hs hr (hP.move hx hs)
 | exc x st' => exact id
theorem Post.imp {α' : Type} {s : Shared} {R : Wd → β → α → Prop} {Q : α → Shared → Prop} {R' : Wd → β → α' → Prop} {Q' : α' → Shared → Prop} {E : Value → Shared → Prop} {r : Mine.R β} {f : α' → α} (h : Post g W s R Q E r) (k : ∀ W' b a s', R' W' b a → (R W' b (f a) → Q (f a) s') → Q' a s') : Post g W s R' Q' E r := by
 cases r with
 | fail => exact h
 | ok b st' => exact fun W₂ mm s₂ a hx' hS hs' hr => k W₂ b a s₂ hr fun hr' => h W₂ mm s₂ (f a) hx' hS hs' hr'
 | exc x st' => exact h
theorem Sim.fail {t : Sem α} {R : Wd → β → α → Prop} : Sim g W t (failM : M β) R := fun _ _ _ _ _ _ _ _ _ _ h => h.elim
theorem Sim.never {t : Sem α} {m : M β} {R : Wd → β → α → Prop} (e : ∀ st, m st = .fail) : Sim g W t m R := fun _ _ _ st _ _ _ _ _ _ h => by
 rw [e st] at h; exact h.elim
theorem Sim.start {t : Sem α} {m : M β} {R : Wd → β → α → Prop} {W' : Wd} (x : Ext W W') (h : Sim g W t m R) : Sim g W' t m R :=
 fun A W₁ mm st s Q E hA hx => h A W₁ mm st s Q E hA (x.trans hx)
theorem Sim.pure {a : α} {b : β} {R : Wd → β → α → Prop} (h : ∀ W', Ext W W' → R W' b a) : Sim g W (Pure.pure a) (Pure.pure b : M β) R :=
 fun _ W₁ mm st s _ _ _ hx hS hP => wpAny_pure (hP W₁ mm s a (Ext.refl _) hS (Same.refl _) (h _ hx))
theorem Sim.bind {t : Sem α} {f : α → Sem γ} {m : M β} {k : β → M δ} {R : Wd → β → α → Prop} {R' : Wd → δ → γ → Prop}
  (h : Sim g W t m R) (h' : ∀ W₁ b a, Ext W W₁ → R W₁ b a → Sim g W₁ (f a) (k b) R') : Sim g W (t >>= f) (m >>= k) R' :=
 fun A W₁ mm st s Q E hA hx hS hP => wpAny_bind (h A W₁ mm st s _ E hA hx hS (hP.bind fun b st' W' mm' s' a hx' hS' _ hr hP' => h' W' b a (hx.trans hx') hr A W' mm' st' s' Q E hA (Ext.refl _) hS' hP'))
theorem Sim.via {t t' : Sem α} {m : M β} {R : Wd → β → α → Prop} (hw : ∀ A Q E s, wpAny (model g.c.prog g.c.w) A t' Q E s → wpAny (model g.c.prog g.c.w) A t Q E s) (h : Sim g W t' m R) : Sim g W t m R :=
 fun A W₁ mm st s Q E hA hx hS hP => hw _ _ _ _ (h A W₁ mm st s Q E hA hx hS hP)
theorem Sim.eqM {t : Sem α} {m m' : M β} {R : Wd → β → α → Prop} (e : m' = m) (h : Sim g W t m R) : Sim g W t m' R := e ▸ h
theorem Sim.holding {vs : List Value} {t : Sem α} {m : M β} {R : Wd → β → α → Prop} (h : Sim g W t m R) : Sim g W (holding vs t) m R := h.via fun _ _ _ _ => wpAny_holding
theorem Sim.standAt {p : Pos} {f : Unit → Sem α} {m : M β} {R : Wd → β → α → Prop} (h : Sim g W (f ()) m R) : Sim g W (PySem.standAt p >>= f) m R := h.via fun _ _ _ _ x => wpAny_bind (wpAny_standAt x)
theorem Sim.rule {p : String} {f : Unit → Sem α} {m : M β} {R : Wd → β → α → Prop} (h : Sim g W (f ()) m R) : Sim g W (PySem.rule p >>= f) m R := h.via fun _ _ _ _ x => wpAny_bind (wpAny_rule x)
theorem Sim.skip {f : Unit → Sem α} {m : M β} {R : Wd → β → α → Prop} (h : Sim g W (f ()) m R) : Sim g W (Pure.pure () >>= f) m R := h.via fun _ _ _ _ x => wpAny_bind (wpAny_pure x)
theorem Sim.operate {vs : List Value} {t : Sem Value} {m : M β} {R : Wd → β → Value → Prop} (h : Sim g W t m R) : Sim g W (operate vs t) m R :=
 h.via fun _ _ _ _ x Γ p hΓ => by rw [Sem.wp_operate]; exact x Γ p hΓ
theorem Sim.tail {t : Sem α} {m : M β} {k : β → δ} {f : α → γ} {R : Wd → β → α → Prop} {R' : Wd → δ → γ → Prop} (h : Sim g W t m R) (hr : ∀ W' b a, Ext W W' → R W' b a → ∀ W'', Ext W' W'' → R' W'' (k b) (f a)) :
  Sim g W (t >>= fun a => Pure.pure (f a)) (m >>= fun b => (Pure.pure (k b) : M δ)) R' :=
 h.bind fun W₁ b a hx hR => Sim.pure (hr W₁ b a hx hR)
theorem Sim.tailT {t : Sem α} {m : M β} {f : α → Sem γ} {R : Wd → β → α → Prop} {R' : Wd → β → γ → Prop} (h : Sim g W t m R)
  (hr : ∀ W' b a, Ext W W' → R W' b a → Sim g W' (f a) (Pure.pure b : M β) R') : Sim g W (t >>= f) m R' := by
 have e : m = (m >>= fun b => (Pure.pure b : M β)) := by
  funext st
  show m st = (match m st with | .fail => .fail | .ok a s' => .ok a s' | .exc x s' => .exc x s')
  cases m st <;> rfl
 rw [e]
 exact h.bind hr
end
theorem St.toks {g : G} {W : Wd} {m : Str → Option Value} {st : S} {s : Shared} (h : St g W m st s) (t : Nat) : St g W m st { s with toks := t } := ⟨h.inv, h.next, h.loc⟩
structure EnvOk (g : G) (W : Wd) (ev : AEnv) (env : Env) : Prop where
 kind : env.scope.kind = .function
 names : ∀ x, env.scope.names.lookup x = ev.names.lookup x
 globals : env.globals = mainGlobals
 builtins : env.builtins = builtinsNs
 locals : env.locals = g.L
 cells : ∀ x i, ev.names.lookup x = some .cell → ev.cells.lookup x = some i → i < W.n ∧ env.cells.lookup x = some (W.ρ i)
 hd : ev.hd = g.hd
theorem EnvOk.ext {g : G} {W W' : Wd} {ev : AEnv} {env : Env} (x : Ext W W') (h : EnvOk g W ev env) : EnvOk g W' ev env :=
 ⟨h.kind, h.names, h.globals, h.builtins, h.locals, fun y i e' e => ⟨ltl (h.cells y i e' e).1 x.le, by rw [x.eq i (h.cells y i e' e).1]; exact (h.cells y i e' e).2⟩, h.hd⟩
section
variable {g : G} {W : Wd} {ev : AEnv} {env : Env}
theorem sim_int {i : Int} : Sim g W (mkInt i) (pure (.int i) : M V) VR := fun A W₁ mm st s Q E hA hx hS hP =>
 wpAny_mkInt (hP W₁ mm _ _ (Ext.refl _) (hS.toks _) Same.toks ⟨_, rfl⟩)
theorem sim_text {x : Str} : Sim g W (mkText x) (pure (.str x) : M V) VR := fun A W₁ mm st s Q E hA hx hS hP =>
 wpAny_mkText (hP W₁ mm _ _ (Ext.refl _) (hS.toks _) Same.toks ⟨_, rfl⟩)
theorem sim_bytes {b : List UInt8} : Sim g W (mkTextBytes b.toArray) (pure (.bytes b) : M V) VR := fun A W₁ mm st s Q E hA hx hS hP =>
 wpAny_mkTextBytes (hP W₁ mm _ _ (Ext.refl _) (hS.toks _) Same.toks ⟨_, rfl⟩)
theorem kindOf_eq (O : EnvOk g W ev env) (x : Str) : env.kindOf x = ev.names.lookup x := O.names x
theorem Post.ite {α β : Type} {p : Prop} [Decidable p] {s : Shared} {st : S} {m : M β} {R : Wd → β → α → Prop} {Q : α → Shared → Prop} {E : Value → Shared → Prop} (h : Post g W s R Q E ((if p then m else failM) st)) : p ∧ Post g W s R Q E (m st) := by
 by_cases q : p
 ·rw [if_pos q] at h; exact ⟨q, h⟩
 ·rw [if_neg q] at h; exact h.elim
theorem Post.itn {α β : Type} {p : Prop} [Decidable p] {s : Shared} {st : S} {m : M β} {R : Wd → β → α → Prop} {Q : α → Shared → Prop} {E : Value → Shared → Prop} (h : Post g W s R Q E ((if p then failM else m) st)) : ¬ p ∧ Post g W s R Q E (m st) := by
 by_cases q : p
 ·rw [if_pos q] at h; exact h.elim
 ·rw [if_neg q] at h; exact ⟨q, h⟩
theorem Post.get {α β γ : Type} {s : Shared} {st : S} {f : S → Option γ} {k : γ → M β} {R : Wd → β → α → Prop} {Q : α → Shared → Prop} {E : Value → Shared → Prop} (h : Post g W s R Q E ((getM f >>= k) st)) : ∃ a, f st = some a ∧ Post g W s R Q E (k a st) := by
 have e : (getM f >>= k) st = (match f st with | some a => k a st | none => Mine.R.fail) := by
  show (match (match f st with | some a => Mine.R.ok a st | none => Mine.R.fail) with | .fail => Mine.R.fail | .ok a s' => k a s' | .exc x s' => .exc x s') = _
  cases f st <;> rfl
 rw [e] at h
 cases q : f st with
 | none => rw [q] at h; exact h.elim
 | some a => rw [q] at h; exact ⟨a, rfl, h⟩
theorem Post.get0 {α β : Type} {s : Shared} {st : S} {f : S → Option β} {R : Wd → β → α → Prop} {Q : α → Shared → Prop} {E : Value → Shared → Prop} (h : Post g W s R Q E (getM f st)) : ∃ a, f st = some a ∧ Post g W s R Q E (.ok a st) := by
 unfold getM at h
 cases q : f st with
 | none => rw [q] at h; exact h.elim
 | some a => rw [q] at h; exact ⟨a, rfl, h⟩
theorem cellAt_some {h : Nat → Option AObj} {i : Nat} {v : Option V} (e : cellAt h i = some v) : h i = some (.cell v) := by
 unfold cellAt at e
 split at e
 ·obtain rfl := sj e; assumption
 ·exact zN e
theorem cellV_some {x : Str} {st : S} {v : V} (e : cellV ev x st = some v) : ∃ i, ev.cells.lookup x = some i ∧ st.heap i = some (.cell (some v)) := by
 unfold cellV at e
 cases hi : ev.cells.lookup x with
 | none => rw [hi] at e; exact zN e
 | some i =>
  rw [hi] at e
  dsimp only at e
  cases hc : cellAt st.heap i with
  | none => rw [hc] at e; exact zN e
  | some w => rw [hc] at e; cases e; exact ⟨i, rfl, cellAt_some hc⟩
theorem Post.or {α β : Type} {p : Prop} [Decidable p] {s : Shared} {st : S} {m m' : M β} {R : Wd → β → α → Prop} {Q : α → Shared → Prop} {E : Value → Shared → Prop} (h : Post g W s R Q E ((if p then m else m') st)) : (p ∧ Post g W s R Q E (m st)) ∨ (¬ p ∧ Post g W s R Q E (m' st)) := by
 by_cases q : p
 ·rw [if_pos q] at h; exact .inl ⟨q, h⟩
 ·rw [if_neg q] at h; exact .inr ⟨q, h⟩
theorem sim_loadName (O : EnvOk g W ev env) {x : Str} : Sim g W (loadName env x) (loadV ev x) VR := by
 intro A W₁ mm st s Q E hA hx hS hP
 obtain ⟨hdb, hP⟩ := Post.itn hP
 rcases Post.or hP with ⟨hk, hP⟩ | ⟨_, hP⟩
 ·obtain ⟨v, hl, hP⟩ := Post.get0 hP
  obtain ⟨u, hu, hr⟩ := hS.loc x v hl
  refine wpAny_loadName_local (m := mm) O.kind ((kindOf_eq O x).trans hk) ?_ hu (hP W₁ mm s u (Ext.refl _) hS (Same.refl _) hr)
  rw [O.locals]; exact hS.inv.frs _ (.head _)
 ·obtain ⟨hk, hP⟩ := Post.ite hP
  obtain ⟨v, hl, hP⟩ := Post.get0 hP
  obtain ⟨i, hi, ho⟩ := cellV_some hl
  obtain ⟨hin, hci⟩ := (O.ext hx).cells x i hk hi
  obtain ⟨u, hc, hr⟩ := hS.inv.own i _ ho
  cases u with
  | none => exact hr.elim
  | some u => exact wpAny_loadName_cell O.kind ((kindOf_eq O x).trans hk) hci hc (hP W₁ mm s u (Ext.refl _) hS (Same.refl _) hr)
theorem sim_load (O : EnvOk g W ev env) {x : Str} {pos : Pos} : Sim g W (eval (.Name x pos) env) (loadV ev x) VR := fun A W₁ mm st s Q E hA hx hS hP =>
 wpAny_Name (sim_loadName O A W₁ mm st s Q E hA hx hS hP) (beq_eq_false_iff_ne.mpr (Post.itn hP).1)
theorem sim_store (O : EnvOk g W ev env) {x : Str} {v : V} {u : Value} (hv : VRel W v u) : Sim g W (storeName env x u) (storeV ev x v) (fun _ _ _ => True) := by
 intro A W₁ mm st s Q E hA hx hS hP
 have hp : (env.scope.kind == .class || (env.scope.kind == .module && env.locals != env.globals)) = false := by rw [O.kind]; rfl
 rcases Post.or hP with ⟨hk, hP⟩ | ⟨_, hP⟩
 ·have hn := hS.inv.frs _ (.head _)
  dsimp only at hn
  rw [← O.locals] at hn
  refine wpAny_storeName_local (m := mm) ((kindOf_eq O x).trans hk) hn (fun h' hn' hs => ?_) hp
  rw [O.locals] at hn' hs
  refine hP W₁ _ _ () (Ext.refl _) ⟨hS.inv.setFrame hs hn', hS.next, fun y w hy => ?_⟩ Same.mk' trivial
  dsimp only [updL] at hy
  by_cases hyx : y = x
  ·rw [if_pos hyx] at hy; obtain rfl := sj hy
   exact ⟨u, if_pos hyx, hv.ext hx⟩
  ·rw [if_neg hyx] at hy
   obtain ⟨z, hz, hr⟩ := hS.loc y w hy
   exact ⟨z, (if_neg hyx).trans hz, hr⟩
 ·obtain ⟨hk, hP⟩ := Post.ite hP
  obtain ⟨i, hi, hP⟩ := Post.get hP
  obtain ⟨w, ho, hP⟩ := Post.get hP
  obtain ⟨hin, hci⟩ := (O.ext hx).cells x i hk hi
  have ho := cellAt_some ho
  obtain ⟨u', hc, _⟩ := hS.inv.own i _ ho
  refine wpAny_storeName_cell O.kind ((kindOf_eq O x).trans hk) hci hc fun h' hc' hs => ?_
  exact hP W₁ mm _ () (Ext.refl _) ⟨hS.inv.setOwn ho hs ⟨some u, hc', hv.ext hx⟩ (fun ⟨_, e⟩ => (by contradiction)), hS.next, hS.loc⟩ Same.heap trivial
theorem sim_bindName (O : EnvOk g W ev env) {x : Str} {v : V} {u : Value} (hv : VRel W v u) : Sim g W (bindName env x u) (storeV ev x v) (fun _ _ _ => True) :=
 (sim_store O hv).via fun _ _ _ _ => wpAny_bindName
end
end
section
theorem listAt_some {h : Nat → Option AObj} {i : Nat} {xs : List V} (e : listAt h i = some xs) : h i = some (.list xs) := by
 unfold listAt at e
 split at e
 ·rename_i q; rw [q]; obtain rfl := sj e; rfl
 ·exact zN e
theorem instAt_some {h : Nat → Option AObj} {i : Nat} {xs : List (Str × V)} (e : instAt h i = some xs) : h i = some (.inst xs) := by
 unfold instAt at e
 split at e
 ·rename_i q; rw [q]; obtain rfl := sj e; rfl
 ·exact zN e
theorem seqAt_some {h : Nat → Option AObj} {i : Nat} {xs : List V} (e : seqAt h i = some xs) : h i = some (.list xs) ∨ h i = some (.ro xs) := by
 unfold seqAt at e
 split at e
 ·rename_i q; obtain rfl := sj e; exact .inl q
 ·rename_i q; obtain rfl := sj e; exact .inr q
 ·exact zN e
theorem rO {v : V} {i : Nat} (e : refOf v = some i) : v = .ref i := by
 cases v with
 | ref j => obtain rfl := sj e; rfl
 | _ => nomatch e
theorem iO {v : V} {i : Int} (e : intOf v = some i) : v = .int i := by
 cases v with
 | int j => obtain rfl := sj e; rfl
 | _ => nomatch e
theorem intPair_some {a b : V} {x y : Int} (e : intPair a b = some (x, y)) : a = .int x ∧ b = .int y := by
 unfold intPair at e
 split at e
 ·rename_i q
  split at e
  ·rename_i q'; obtain ⟨rfl, rfl⟩ := Prod.mk.inj (sj e); exact ⟨iO q, iO q'⟩
  ·exact zN e
 ·exact zN e
theorem tupAt_some {h : Nat → Option AObj} {i : Nat} {xs : List V} (e : tupAt h i = some xs) : h i = some (.tup xs) := by
 unfold tupAt at e
 split at e
 ·rename_i q; rw [q]; obtain rfl := sj e; rfl
 ·exact zN e
theorem dctI_some {h : Nat → Option AObj} {i : Nat} {xs : List (Int × V) × Nat} (e : dctI h i = some xs) : h i = some (.dictI xs.1 xs.2) := by
 unfold dctI at e
 split at e
 ·rename_i q; rw [q]; obtain rfl := sj e; rfl
 ·exact zN e
theorem strOf_some {v : V} {i : Str} (e : strOf v = some i) : v = .str i := by
 cases v with
 | str j => obtain rfl := sj e; rfl
 | _ => nomatch e
theorem natB_some {v : V} {k : Nat} (e : natB v = some k) : k < 1000 ∧ v = .int (k : Int) := by
 unfold natB at e
 cases q : intOf v with
 | none => rw [q] at e; exact zN e
 | some i =>
  rw [q] at e
  obtain rfl := iO q
  by_cases h : 0 ≤ i ∧ i < 1000
  ·obtain rfl := sj ((if_pos h).symm.trans e)
   exact ⟨by lia, by rw [Int.toNat_of_nonneg h.1]⟩
  ·exact zN ((if_neg h).symm.trans e)
theorem St.alloc {g : G} {W : Wd} {m : Str → Option Value} {st : S} {s : Shared} (hS : St g W m st s) {ob : Obj} {o : AObj} (hn : ∀ fs, o ≠ .inst fs)
  (ho : OAt g.c (W.add s.heap.objs.size 0 false) (s.heap.push ob) W.n o) (hw : o.own := by trivial) :
  St g (W.add s.heap.objs.size 0 false) m { st with heap := upd st.heap st.next o, next := st.next + 1 } { s with heap := s.heap.push ob } := by
 refine ⟨?_, congrArg (· + 1) hS.next, hS.loc.ext (W.ext_add _ _ _)⟩
 have := hS.inv.alloc hn ho hw
 rw [hS.next]; exact this
theorem St.ref {g : G} {W : Wd} {m : Str → Option Value} {st : S} {s : Shared} (hS : St g W m st s) : VRel (W.add s.heap.objs.size 0 false) (.ref st.next) (.ref s.heap.objs.size) := by
 rw [hS.next]
 exact ⟨Nat.lt_succ_self _, by rw [Wd.ρ_add]⟩
theorem St.wrD {g : G} {W : Wd} {m : Str → Option Value} {st : S} {s : Shared} (hS : St g W m st s) {i v tk : Nat} {es es' : List (Int × V)} {h' : Heap} {kvs : List (Int × Value)} (ho : st.heap i = some (.dictI es v))
  (hs : Heap.SameBut (W.ρ i) s.heap h') (hD : h'.DictOf (intKind g.c.prog g.c.w) (W.ρ i) kvs) (hr : PRel W es' kvs) :
  ∃ W', Ext W W' ∧ St g W' m { st with heap := upd st.heap i (.dictI es' st.next), next := st.next + 1 } { s with heap := h', toks := tk } := by
 obtain ⟨ep, hD⟩ := hD.dictAt
 have hi := (W.ext_bump ep).eq i (hS.inv.dom i _ ho)
 refine ⟨W.bump ep, W.ext_bump ep, (hS.inv.bump ep).setOwn ho (by rw [hi]; exact hs) ⟨?_, kvs, ?_, hr.ext (W.ext_bump ep)⟩ (fun ⟨_, e⟩ => (by contradiction)), congrArg (· + 1) hS.next, hS.loc.ext (W.ext_bump ep)⟩
 ·rw [hS.next]; exact Nat.lt_succ_self _
 ·rw [hi, hS.next, show (W.bump ep).ρ W.n = ep from if_pos rfl]; exact hD
theorem OAt.isList {c : Cx} {W : Wd} {h : Heap} {i : Nat} {xs : List V} (H : OAt c W h i (.list xs)) : ∃ vs, h.IsList (W.ρ i) (List.toArray vs) ∧ VsRel W xs vs := by
 obtain ⟨vs, n, a, b⟩ := H
 exact ⟨vs, ⟨_, a, rfl, n, rfl⟩, b⟩
theorem OAt.isTup {c : Cx} {W : Wd} {h : Heap} {i : Nat} {xs : List V} (H : OAt c W h i (.tup xs)) : ∃ vs, h.IsTuple (W.ρ i) (List.toArray vs) ∧ VsRel W xs vs := by
 obtain ⟨vs, n, a, b⟩ := H
 exact ⟨vs, ⟨_, a, rfl, n, rfl⟩, b⟩
theorem OAt.isRo {c : Cx} {W : Wd} {h : Heap} {i : Nat} {xs : List V} (H : OAt c W h i (.ro xs)) (k : c.base.StaysIn h) : ∃ vs, h.IsList (W.ρ i) (List.toArray vs) ∧ VsRel W xs vs := by
 obtain ⟨vs, ⟨o, ho, r⟩, b⟩ := H
 exact ⟨vs, ⟨o, k _ _ ho, r⟩, b⟩
section
variable {g : G} {W : Wd}
theorem St.list {m : Str → Option Value} {st : S} {s : Shared} (hS : St g W m st s) {i : Nat} {xs : List V} (e : listAt st.heap i = some xs) : ∃ vs, s.heap.IsList (W.ρ i) (List.toArray vs) ∧ VsRel W xs vs := (hS.inv.own i _ (listAt_some e)).isList
theorem St.seq {m : Str → Option Value} {st : S} {s : Shared} (hS : St g W m st s) {i : Nat} {xs : List V} (e : seqAt st.heap i = some xs) : ∃ vs, s.heap.IsList (W.ρ i) (List.toArray vs) ∧ VsRel W xs vs := by
 rcases seqAt_some e with q | q
 ·exact (hS.inv.own i _ q).isList
 ·exact (hS.inv.own i _ q).isRo hS.inv.stays
theorem sim_newList {vs : List V} {us : List Value} (h : VsRel W vs us) (hz : us.length ≤ sizeLine) : Sim g W (newList us) (alRef (.list vs)) VR := by
 intro A W₁ mm st s Q E hA hx hS hP
 refine wpAny_newList ?_ (hz)
 exact hP _ mm _ _ (W₁.ext_add _ _ _) (hS.alloc (fun _ e => (by contradiction)) ⟨us, 0, by rw [Wd.ρ_add]; exact Heap.get?_push_size _ rfl, (h.ext hx).ext (W₁.ext_add _ _ _)⟩) Same.heap hS.ref
theorem sim_newTuple {vs : List V} {us : List Value} (h : VsRel W vs us) (hz : us.length ≤ sizeLine) : Sim g W (newTuple us) (alRef (.tup vs)) VR := by
 intro A W₁ mm st s Q E hA hx hS hP
 refine wpAny_newTuple ?_ (hz)
 exact hP _ mm _ _ (W₁.ext_add _ _ _) (hS.alloc (fun _ e => (by contradiction)) ⟨us, 0, by rw [Wd.ρ_add]; exact Heap.get?_push_size _ rfl, (h.ext hx).ext (W₁.ext_add _ _ _)⟩) Same.heap hS.ref
theorem VsRel.empty : ∀ {xs : List V} {vs : List Value}, VsRel W xs vs → xs.isEmpty = vs.isEmpty
 | [], [], _ => rfl
 | _ :: _, _ :: _, _ => rfl
 | [], _ :: _, h => h.elim
 | _ :: _, [], h => h.elim
theorem sim_truthy {v : V} {u : Value} (hv : VRel W v u) : Sim g W (truthy u) (truthyV v) (fun _ b b' => b' = b) := by
 intro A W₁ mm st s Q E hA hx hS hP
 cases v with
 | bool b =>
  obtain rfl : u = .bool b := hv
  exact wpAny_truthy_bool (hP W₁ mm s b (Ext.refl _) hS (Same.refl _) rfl)
 | ref i =>
  obtain ⟨hi, rfl⟩ := hv.ext hx
  obtain ⟨xs, hxs, hP⟩ := Post.get hP
  obtain ⟨hl, hP⟩ := Post.ite hP
  obtain ⟨vs, hL, hr⟩ := hS.seq hxs
  refine wpAny_truthy_list hL (by rw [List.size_toArray, ← hr.length]; lia) ?_
  refine hP W₁ mm _ _ (Ext.refl _) (hS.toks _) Same.toks ?_
  rw [hr.empty]
  cases vs <;> rfl
 | _ => exact hP.elim
theorem sim_binI {op : Operator} {x y : Int} {t t' : Tok} : Sim g W (binaryOp op (.int x t) (.int y t')) (binI op x y) VR := by
 intro A W₁ mm st s Q E hA hx hS hP
 cases op with
 | Add => exact add_int (hP W₁ mm _ _ (Ext.refl _) (hS.toks _) Same.toks ⟨_, rfl⟩)
 | Sub => exact sub_int (hP W₁ mm _ _ (Ext.refl _) (hS.toks _) Same.toks ⟨_, rfl⟩)
 | Mod =>
  obtain ⟨h0, hP⟩ := Post.itn hP
  exact mod_int' h0 (hP W₁ mm _ _ (Ext.refl _) (hS.toks _) Same.toks ⟨_, rfl⟩)
 | FloorDiv =>
  obtain ⟨⟨h0, h1⟩, hP⟩ := Post.ite hP
  refine floordiv_int (Int.ne_of_gt h0) (hP W₁ mm _ _ (Ext.refl _) (hS.toks _) Same.toks ⟨_, rfl⟩) (.inl ?_)
  have h0' : y.natAbs ≠ 0 := by lia
  have hlog : y.natAbs.log2 ≤ 9 := Nat.le_of_lt_succ ((Nat.log2_lt h0' (k := 10)).mpr (by lia))
  unfold Builtin.divisionGoesByPylong
  have hb : (y == 0) = false := beq_eq_false_iff_ne.mpr (Int.ne_of_gt h0)
  simp only [hb, Bool.false_eq_true, if_false]
  have : decide (y.natAbs.log2 / 30 + 1 > 300) = false := decide_eq_false (by lia)
  rw [this]; rfl
 | Pow =>
  obtain ⟨⟨h1, h2, rfl⟩, hP⟩ := Post.ite hP
  refine pow_int h1 ?_ (hP W₁ mm _ _ (Ext.refl _) (hS.toks _) Same.toks ⟨_, rfl⟩)
  have : Builtin.Int.intBits 10 = 4 := by decide +kernel
  rw [this]; lia
 | _ => exact hP.elim
theorem isAdd_eq {op : Operator} (h : isAdd op = true) : op = .Add := by
 cases op <;> first | rfl | nomatch h
theorem sim_cat {i j : Nat} (hi : i < W.n) (hj : j < W.n) : Sim g W (binaryOp .Add (.ref (W.ρ i)) (.ref (W.ρ j))) (rdL i >>= fun xs => rdL j >>= fun ys => if xs.length + ys.length < 100000 then alRef (.list (xs ++ ys)) else failM) VR := by
 intro A W₁ mm st s Q E hA hx hS hP
 obtain ⟨xs, hxs, hP⟩ := Post.get hP
 obtain ⟨ys, hys, hP⟩ := Post.get hP
 obtain ⟨hl, hP⟩ := Post.ite hP
 obtain ⟨vs, hL, hr⟩ := hS.list hxs
 obtain ⟨vs', hL', hr'⟩ := hS.list hys
 rw [hx.eq i hi] at hL
 rw [hx.eq j hj] at hL'
 have h1 := hr.length
 have h2 := hr'.length
 obtain ⟨rest, N, hne, hlt, hback⟩ := hS.inv.capture s.heap.objs.size
 refine add_arrays hS.inv.toFr N hL hL' (fun h' F' N' => ?_) (by rw [List.size_toArray, List.size_toArray, sizeLine_eq]; lia)
 have hI := hS.inv.allocOf (o := .list (xs ++ ys)) (Nat.le_refl _) F' N' hback (fun _ e => (by contradiction)) fun e => ⟨vs ++ vs', 0, by rw [Wd.ρ_add]; exact e, (hr.append hr').ext (W₁.ext_add _ _ _)⟩
 refine hP _ mm _ _ (W₁.ext_add _ _ _) ⟨?_, congrArg (· + 1) hS.next, hS.loc.ext (W₁.ext_add _ _ _)⟩ Same.heap hS.ref
 rw [← hS.next] at hI; exact hI
theorem sim_bin {op : Operator} {v w : V} {u z : Value} (hv : VRel W v u) (hw : VRel W w z) : Sim g W (binaryOp op u z) (binV op v w) VR := by
 unfold binV
 cases hp : intPair v w with
 | some p =>
  obtain ⟨rfl, rfl⟩ := intPair_some hp
  obtain ⟨t, rfl⟩ := hv
  obtain ⟨t', rfl⟩ := hw
  exact sim_binI
 | none =>
  intro A W₁ mm st s Q E hA hx hS hP
  obtain ⟨ha, hP⟩ := Post.ite hP
  obtain rfl := isAdd_eq ha
  obtain ⟨i, hi, hP⟩ := Post.get hP
  obtain ⟨j, hj, hP⟩ := Post.get hP
  obtain rfl := rO hi
  obtain rfl := rO hj
  obtain ⟨hi, rfl⟩ := hv
  obtain ⟨hj, rfl⟩ := hw
  exact sim_cat hi hj A W₁ mm st s Q E hA hx hS hP
end
end
section
noncomputable def FAddr (c : Cx) : FId → Addr → Prop
 | .glob n, fa => nsIn c.K mainGlobals n = some (some (.ref fa))
 | .meth n, fa => findIn c.K (.ref c.C) n = some (some (.ref fa)) ∧ isFn c.K (.ref fa) = true
 | .getW, fa => ∃ p rest, findIn c.K (.ref c.C) wName = some (some (.ref p)) ∧ recIn c.K p "property" = some (.ref fa :: rest)
 | .setW, fa => ∃ p a rest, findIn c.K (.ref c.C) wName = some (some (.ref p)) ∧ recIn c.K p "property" = some (a :: .ref fa :: rest)
noncomputable def bindR (kwOk : Bool) (params : List Str) (dvs pos : List Value) (kw : List (Str × Value)) : Option (List Value) := match kw with
 | [] => if pos.length ≤ params.length ∧ params.length ≤ pos.length + dvs.length then some (pos ++ dvs.drop (pos.length + dvs.length - params.length)) else none
 | [p] => if kwOk = true ∧ params.length = pos.length + 1 ∧ params[pos.length]? = some p.1 then some (pos ++ [p.2]) else none
 | _ => none
noncomputable def KRel (W : Wd) : List (Str × V) → List (Str × Value) → Prop
 | [], [] => True
 | p :: r, q :: t => p.1 = q.1 ∧ VRel W p.2 q.2 ∧ KRel W r t
 | _, _ => False
theorem KRel.ext {W W' : Wd} (x : Ext W W') : ∀ {vs : List (Str × V)} {us : List (Str × Value)}, KRel W vs us → KRel W' vs us
 | [], [], _ => trivial
 | _ :: _, _ :: _, h => ⟨h.1, h.2.1.ext x, KRel.ext x h.2.2⟩
 | [], _ :: _, h => h.elim
 | _ :: _, [], h => h.elim
theorem bind_rel {W : Wd} {code : FnC} {dvs : List Value} (hd : VsRel W code.defaults dvs) {pos : List V} {pos' : List Value} {kw : List (Str × V)} {kw' : List (Str × Value)} (hp : VsRel W pos pos') (hk : KRel W kw kw')
  {vs : List V} (e : bindV code pos kw = some vs) : ∃ us, bindR code.kw code.params dvs pos' kw' = some us ∧ VsRel W vs us := by
 have l1 := hp.length
 have l2 := hd.length
 match kw, kw', hk with
 | [], [], _ =>
  by_cases q : pos.length ≤ code.params.length ∧ code.params.length ≤ pos.length + code.defaults.length
  ·have e' : vs = pos ++ code.defaults.drop (pos.length + code.defaults.length - code.params.length) := sj (e.symm.trans (if_pos q))
   rw [e', l1, l2]
   exact ⟨_, if_pos (by rw [← l1, ← l2]; exact q), hp.append hd.drop⟩
  ·exact zS (e.symm.trans (if_neg q))
 | [p], [q], hk =>
  by_cases c : code.kw = true ∧ code.params.length = pos.length + 1 ∧ code.params[pos.length]? = some p.1
  ·have e' : vs = pos ++ [p.2] := sj (e.symm.trans (if_pos c))
   rw [e']
   exact ⟨_, if_pos (by rw [← l1, ← hk.1]; exact c), hp.append (VsRel.one hk.2.1)⟩
  ·exact zS (e.symm.trans (if_neg c))
 | _ :: _ :: _, _, _ => exact zN e
 | [_], _ :: _ :: _, h => exact h.2.2.elim
 | [], _ :: _, h => exact h.elim
 | [_], [], h => exact h.elim
set_option genInjectivity false in
structure FnAt (c : Cx) (code : FnC) (fa : Addr) where
 (oc : Value) (od : Option Addr) (osl : Array (Option Value)) (name qual : Str) (params : Arguments) (dV kV doc pm : Value) (an : Option Addr) (cdv ct : Value) (dvs : List Value)
 hK : c.K.lookup fa = some ⟨oc, od, .func (fnOf name qual params code.body code.scope dV kV doc pm an cdv ct), osl⟩
 hcd : codeIn c.K cdv qual = true
 hdef : ∀ W, VsRel W code.defaults dvs
 hbind : ∀ (s : Shared) (pos : List Value) (kw : List (Str × Value)) (us : List Value), c.K.In s.heap → bindR code.kw code.params dvs pos kw = some us → BindsTo s (fnOf name qual params code.body code.scope dV kV doc pm an cdv ct) ⟨pos, kw⟩ (code.params.zip us)
 hbindc : cellNs code.scope.names ≠ [] → ∀ (pos : List Value) (kw : List (Str × Value)) (us : List Value), bindR code.kw code.params dvs pos kw = some us → kw = [] ∧ bindArgs (fnOf name qual params code.body code.scope dV kV doc pm an cdv ct) ⟨pos, []⟩ = pure (code.params.zip us)
structure FnOk (c : Cx) (code : FnC) (fa : Addr) : Prop where
 fn : Nonempty (FnAt c code fa)
 co : code.scope.isCoroutine = false
 gen : code.scope.isGenerator = false
 kind : code.scope.kind = .function
 nodup : code.params.Nodup
 par : ∀ x ∈ code.params, code.scope.names.lookup x = some .local ∨ code.scope.names.lookup x = some .cell
structure CxOk (c : Cx) : Prop where
 X : c.K.In c.base
 g : ∃ mg mb, c.base.Ns mainGlobals mg ∧ c.base.Ns builtinsNs mb ∧ ∀ x : Str, x ≠ "__name__" → mb x = bootBuiltins x
 lim : c.base.NoLimit
 get : ∀ n, plainGet c.K c.C n = true
 hasDict : hasDictIn c.K c.C = true
 setattr : findIn c.K (.ref c.C) "__setattr__" = some (some (.builtin "object.__setattr__"))
 over : plainOver c.K c.C = true
 makes : makesIn c.K c.C = true
 keep : keepIn c.K (.ref c.C) = true
 stream : nsIn c.K mainGlobals "Stream" = some (some (.ref c.C))
 fields : ∀ x ∈ c.P.fields, findIn c.K (.ref c.C) x = some none ∧ takerIn c.K c.C x = some none
 weight : ∃ mg, c.base.Ns mainGlobals mg ∧ ∃ a Bn newE inN bmN B nid ini bmB, nsIn c.K mainGlobals "BadWeightError" = some (some (.ref a)) ∧ ExcBaseFacts Bn newE inN bmN ∧ bmB.contains (.type Bn) = true ∧ ExcBaseFacts B nid ini bmB ∧ OwnCls "BadWeightError" a bmB newE mg c.base
 dbg : c.P.code (.glob "__debug__") = none
 fn : ∀ f code, c.P.code f = some code → ∃ fa, FAddr c f fa ∧ FnOk c code fa
 prop : ∃ p, findIn c.K (.ref c.C) wName = some (some (.ref p)) ∧ specialIn c.K (.ref p) "__get__" = some (some (.builtin "property.__get__")) ∧ takesIn c.K (.ref p) = some true ∧
  takerIn c.K c.C wName = some (some (.ref p)) ∧ typeIn c.K (.ref p) = some (.type "property")
 frees : ∀ n ∈ (["len", "abs", "isinstance", "int", "sorted", "range", "IndexError", "ValueError", "AssertionError"] : List Str), nsIn c.K mainGlobals n = some none
 isiN : ∀ T ∈ (["NoneType", "str", "bytes", "tuple"] : List String), kitOne c.K (.type T) (.type "int") = some false
 isi : kitOne c.K (.type "int") (.type "int") = some true ∧ kitOne c.K (.type "int") (.ref c.C) = some false ∧ kitOne c.K (.ref c.C) (.ref c.C) = some true
 isiC : findIn c.K (.ref c.C) "__class__" = some (some (.builtin "object.__class__")) ∧ specialIn c.K (.builtin "object.__class__") "__get__" = some (some (.builtin "getset_descriptor.__get__")) ∧
  takesIn c.K (.builtin "object.__class__") = some true ∧ mroIn c.K c.C (.type "object") = some true
 subInt : subIn c.K (.type "int") (.ref c.C) = some false
noncomputable def SimC (g : G) (W₀ : Wd) (code : Code) (m : M V) : Prop :=
 ∀ (A : Around) (W : Wd) (mm : Str → Option Value) (st : S) (s : Shared) (Rr : Result → Shared → Prop),
  AOk g A → Ext W₀ W → St g W mm st s → Post g W s VRel (fun a s' => Rr (.ok (.ret a)) s') (fun e s' => Rr (.error e) s') (m st) → codeAny (model g.c.prog g.c.w) A code Rr s
noncomputable def FnSim (c : Cx) (d : Nat) : Prop :=
 ∀ (f : FId) (code : FnC) (fa : Addr) (g : G) (W : Wd) (vs : List V) (us : List Value) (kw : List (Str × V)) (kw' : List (Str × Value)),
  c.P.code f = some code → FnOk c code fa → g.c = c → g.d = d → VsRel W vs us → KRel W kw kw' → SimC g W (.call (.ref fa) ⟨us, kw'⟩) (callF c.P (phi c.P d) g.hd f vs kw)
theorem SimC.sim {g : G} {W : Wd} {f : Value} {us : List Value} {kw : List (Str × Value)} {m : M V} (h : SimC g W (.call f ⟨us, kw⟩) m) : Sim g W (call f us kw) m VR :=
 fun A W₁ mm st s Q E hA hx hS hP => wpAny_call (h A W₁ mm st s _ hA hx hS hP)
noncomputable def G.up (g : G) : G := { g with k := g.k + 1 }
theorem AOk.up {g : G} {A : Around} (h : AOk g A) (hk : g.k + 1 ≤ 6) : AOk g.up A.in1 where
 fo := h.fo
 frames := h.frames
 hd := h.hd
 k := hk
 depth := Nat.le_succ_of_le h.depth
 units := by have := h.units; show A.units + 1 + 60 * g.d ≤ 9800 + (g.k + 1); lia
theorem St.up {g : G} {W : Wd} {m : Str → Option Value} {st : S} {s : Shared} (h : St g W m st s) : St g.up W m st s := ⟨h.inv, h.next, h.loc⟩
theorem St.down {g : G} {W : Wd} {m : Str → Option Value} {st : S} {s : Shared} (h : St g.up W m st s) : St g W m st s := ⟨h.inv, h.next, h.loc⟩
theorem AOk.room {g : G} {A : Around} (h : AOk g A) : A.units + 64 < cLine := by
 have h1 := h.units
 have h2 := h.k
 have : cLine = 9900 := by decide
 lia
theorem AOk.depthLt {g : G} {A : Around} (h : AOk g A) : A.depth < recursionLimit := by
 have h1 := h.depth
 have h2 := h.k
 have : recursionLimit = 1000 := by decide
 lia
section
variable {g : G} {W : Wd} {ev : AEnv} {env : Env}
theorem glob_kind (O : EnvOk g W ev env) {f : Str} (hf : isGlobal ev f = true) : env.kindOf f = some .globalImplicit := by
 unfold isGlobal at hf
 rw [kindOf_eq O]
 split at hf
 ·assumption
 ·exact zF hf
theorem sim_glob (C : CxOk g.c) (O : EnvOk g W ev env) {f : Str} {pos : Pos} {v : Value} (hf : isGlobal ev f = true) (hv : nsIn g.c.K mainGlobals f = some (some v)) (hd : (f == ("__debug__" : Str)) = false) :
  Sim g W (eval (.Name f pos) env) (pure () : M Unit) (fun _ _ u => u = v) := by
 intro A W₁ mm st s Q E hA hx hS hP
 obtain ⟨mg, mb, hg, hb, hbt⟩ := C.g
 have := mg_of C.X hg hv
 refine Name_function_global O.kind (glob_kind O hf) (loadGlobal_global (mg := mg) ?_ this ?_) hd
 ·rw [O.globals]; exact hg.keeps hS.inv.stays
 ·exact hP W₁ mm s v (Ext.refl _) hS (Same.refl _) rfl
theorem sim_boot (C : CxOk g.c) (O : EnvOk g W ev env) {f : Str} {pos : Pos} {v : Value} (hf : isGlobal ev f = true) (hn : nsIn g.c.K mainGlobals f = some none) (hv : bootBuiltins f = some v) (hnm : f ≠ "__name__") (hd : (f == ("__debug__" : Str)) = false) :
  Sim g W (eval (.Name f pos) env) (pure () : M Unit) (fun _ _ u => u = v) := by
 intro A W₁ mm st s Q E hA hx hS hP
 obtain ⟨mg, mb, hg, hb, hbt⟩ := C.g
 have := mg_none_of C.X hg hn
 refine Name_function_global O.kind (glob_kind O hf) (loadGlobal_builtin (mg := mg) (mb := mb) ?_ this ?_ ((hbt f hnm).trans hv) ?_) hd
 ·rw [O.globals]; exact hg.keeps hS.inv.stays
 ·rw [O.builtins]; exact hb.keeps hS.inv.stays
 ·exact hP W₁ mm s v (Ext.refl _) hS (Same.refl _) rfl
theorem readsAll_of {h : Heap} {σ : Nat → Option AObj} {W : Wd} {n : Nat} (ih : ∀ (v : V) (u : Value) (d : PyData), pyOf n σ v = some d → VRel W v u → ∃ as, Reads h u d as) : ∀ (vs : List V) (us : List Value) (ds : List PyData), optAll (vs.map (pyOf n σ)) = some ds → VsRel W vs us → ∃ as, ReadsAll h us ds as
 | [], [], ds, e, _ => by obtain rfl := sj e; exact ⟨_, .nil⟩
 | v :: vs, u :: us, ds, e, hv => by
  cases e1 : pyOf n σ v with
  | none => rw [List.map_cons, e1] at e; exact zN e
  | some d =>
   rw [List.map_cons, e1] at e
   obtain ⟨dr, e2, rfl⟩ := Option.map_eq_some_iff.mp e
   obtain ⟨as, r⟩ := ih v u d e1 hv.1
   obtain ⟨bs, r'⟩ := readsAll_of ih vs us dr e2 hv.2
   exact ⟨_, .cons r r'⟩
 | [], _ :: _, _, _, h => h.elim
 | _ :: _, [], _, _, h => h.elim
theorem reads_of {c : Cx} {fr : Frs} {pins : List (Addr × Obj)} {W : Wd} {σ : Nat → Option AObj} {h : Heap} (I : Inv c fr pins W σ h) : ∀ (n : Nat) (v : V) (u : Value) (d : PyData), pyOf n σ v = some d → VRel W v u → ∃ as, Reads h u d as
 | 0, _, _, _, e, _ => zN e
 | n + 1, v, u, d, e, hv => by
  cases v with
  | none => obtain rfl := sj e; obtain rfl : u = .none := hv; exact ⟨_, .none⟩
  | bool b => obtain rfl := sj e; obtain rfl : u = .bool b := hv; exact ⟨_, .bool _⟩
  | int i => obtain rfl := sj e; obtain ⟨t, rfl⟩ := hv; exact ⟨_, .int _ _⟩
  | str x => obtain rfl := sj e; obtain ⟨t, rfl⟩ := hv; exact ⟨_, .str _ _⟩
  | bytes _ => exact zN e
  | ref i =>
   obtain ⟨hi, rfl⟩ := hv
   have e' : pyObj (pyOf n σ) (σ i) = some d := e
   cases ho : σ i with
   | none => rw [ho] at e'; exact zN e'
   | some o =>
    rw [ho] at e'
    cases o with
    | list xs =>
     obtain ⟨ds, e1, rfl⟩ := Option.map_eq_some_iff.mp e'
     obtain ⟨vs, k, a, b⟩ := I.own i _ ho
     obtain ⟨as, r⟩ := readsAll_of (reads_of I n) xs vs ds e1 b
     exact ⟨_, .list a rfl rfl r⟩
    | tup xs =>
     obtain ⟨ds, e1, rfl⟩ := Option.map_eq_some_iff.mp e'
     obtain ⟨vs, k, a, b⟩ := I.own i _ ho
     obtain ⟨as, r⟩ := readsAll_of (reads_of I n) xs vs ds e1 b
     exact ⟨_, .tuple a rfl rfl r⟩
    | _ => exact zN e'
end
end
section
section
variable {g : G} {W : Wd}
theorem none_rel {v : V} {u : Value} (hv : VRel W v u) : plainIs u .none = true ∧ (u == Value.none) = isNone v := by
 cases v with
 | none => obtain rfl : u = .none := hv; exact ⟨rfl, rfl⟩
 | bool b => obtain rfl : u = .bool b := hv; exact ⟨rfl, rfl⟩
 | int i => obtain ⟨t, rfl⟩ := hv; exact ⟨rfl, rfl⟩
 | str i => obtain ⟨t, rfl⟩ := hv; exact ⟨rfl, rfl⟩
 | bytes i => obtain ⟨t, rfl⟩ := hv; exact ⟨rfl, rfl⟩
 | ref i => obtain ⟨t, rfl⟩ := hv; exact ⟨rfl, rfl⟩
theorem isNone_eq {v : V} (h : isNone v = true) : v = .none := by
 cases v <;> first | rfl | nomatch h
theorem compare_is {op : CmpOp} {v w o : V} {u z : Value} (e : isV op v w = some o) (hv : VRel W v u) (hw : VRel W w z) : Sim g W (compareOp op u z) (pure o : M V) VR := by
 intro A W₁ mm st s Q E hA hx hS hP
 obtain ⟨pl, eq⟩ := none_rel hv
 have fin : ∀ b, o = .bool b → Q (.bool b) s := fun b e => by subst e; exact hP W₁ mm s _ (Ext.refl _) hS (Same.refl _) rfl
 cases op <;> first | exact zN e | (cases w <;> first | exact zN e | skip)
 ·obtain rfl : z = .none := hw
  exact wpAny_is_plain pl (fin _ (by rw [eq]; exact (sj e).symm))
 ·obtain rfl : z = .none := hw
  exact wpAny_isNot_plain pl (fin _ (by rw [eq]; exact (sj e).symm))
theorem callF_code {P : PI} {Φ : Phi} {hd : Bool} {f : FId} {vs : List V} {kw : List (Str × V)} {st : S} {α : Type} {s : Shared} {Rel : Wd → V → α → Prop} {Q : α → Shared → Prop} {E : Value → Shared → Prop} (h : Post g W s Rel Q E (callF P Φ hd f vs kw st)) : ∃ code, P.code f = some code := by
 unfold callF at h
 cases q : P.code f with
 | none => rw [q] at h; exact h.elim
 | some c => exact ⟨c, rfl⟩
theorem inst_at {c : Cx} {fr : Frs} {pins : List (Addr × Obj)} {W : Wd} {σ : Nat → Option AObj} {h : Heap} (I : Inv c fr pins W σ h) {i : Nat} {fs : List (Str × V)} (hi : σ i = some (.inst fs)) :
  ∃ ds n, PySem.W.InstAt h (W.ρ i) (instObj c.C (W.δ i)) c.C (some (dictOf ds n)) ∧ FRel W fs ds := by
 obtain ⟨ds, n, a, b, d⟩ := I.own i _ hi
 exact ⟨ds, n, ⟨a, rfl, rfl, b⟩, d⟩
theorem isInst_some {h : Nat → Option AObj} {v : V} (e : isInst h v = true) : ∃ i fs, v = .ref i ∧ h i = some (.inst fs) := by
 unfold isInst at e
 split at e
 ·rename_i i q
  obtain ⟨fs, e⟩ := Option.isSome_iff_exists.mp e
  exact ⟨i, fs, rO q, instAt_some e⟩
 ·exact zF e
theorem right_at (C : CxOk g.c) {m : Str → Option Value} {st : S} {s : Shared} (hS : St g W m st s) {w : V} {z : Value} (hw : VRel W w z) (hb : (isInst st.heap w || isIntV w) = true) : ∃ tb, Looks (model g.c.prog g.c.w) s.heap (typeOf z) tb ∧ notFirst g.c.K g.c.C tb = true := by
 cases hi : isIntV w with
 | true =>
  obtain ⟨x, hx⟩ := Option.isSome_iff_exists.mp hi
  obtain rfl := iO hx
  obtain ⟨t, rfl⟩ := hw
  refine ⟨.type "int", Looks.of_pure rfl, ?_⟩
  unfold notFirst
  rw [C.subInt]; rfl
 | false =>
  rw [hi, Bool.or_false] at hb
  obtain ⟨j, fs, rfl, hj⟩ := isInst_some hb
  obtain ⟨_, rfl⟩ := hw
  obtain ⟨ds', k', I', _⟩ := inst_at hS.inv hj
  exact ⟨.ref g.c.C, I'.type, by unfold notFirst; simp⟩
theorem handed_rel {v : V} {u : Value} (h : VRel W v u) : handedIn u = true := by
 cases v with
 | none => obtain rfl : u = .none := h; rfl
 | bool b => obtain rfl : u = .bool b := h; rfl
 | int i => obtain ⟨t, rfl⟩ := h; rfl
 | str i => obtain ⟨t, rfl⟩ := h; rfl
 | bytes i => obtain ⟨t, rfl⟩ := h; rfl
 | ref i => obtain ⟨t, rfl⟩ := h; rfl
theorem cmp_back {v : V} {u : Value} {Q : Value → Shared → Prop} {s : Shared} (h : VRel W v u) (q : Q u s) : PySem.W.CmpBack Q u s := by
 cases v with
 | none => obtain rfl : u = .none := h; exact q
 | bool b => obtain rfl : u = .bool b := h; exact q
 | int i => obtain ⟨t, rfl⟩ := h; exact q
 | str i => obtain ⟨t, rfl⟩ := h; exact q
 | bytes i => obtain ⟨t, rfl⟩ := h; exact q
 | ref i => obtain ⟨t, rfl⟩ := h; exact q
theorem rich_of {op : CmpOp} {n : Str} (h : cmpName op = some n) : (cmpInfo op).2.1 = n ∧ ∀ u z, compareOp op u z = richCompare op u z := by
 cases op <;> first | (cases h; exact ⟨rfl, fun _ _ => rfl⟩) | nomatch h
theorem sim_cmpObj (C : CxOk g.c) (F : FnSim g.c g.d) {op : CmpOp} {n : Str} {w : V} {i : Nat} {z : Value} (hn : cmpName op = some n) (hi : i < W.n) (hw : VRel W w z) {A : Around} {W₁ : Wd} {mm : Str → Option Value} {st : S} {s : Shared} {Q : Value → Shared → Prop} {E : Value → Shared → Prop}
  (hA : AOk g A) (hx : Ext W W₁) (hS : St g W₁ mm st s) {fs : List (Str × V)} (ho : st.heap i = some (.inst fs)) (hb : (isInst st.heap w || isIntV w) = true)
  (hP : Post g W₁ s VR Q E (callF g.c.P (phi g.c.P g.d) g.hd (.meth n) [.ref i, w] [] st)) : wpAny (model g.c.prog g.c.w) A (compareOp op (.ref (W₁.ρ i)) z) Q E s := by
 obtain ⟨code, hc⟩ := callF_code hP
 obtain ⟨fa, hfa, hfn⟩ := C.fn _ _ hc
 obtain ⟨ds, k, I, _⟩ := inst_at hS.inv ho
 obtain ⟨tb, hL, hnf⟩ := right_at C hS (hw.ext hx) hb
 obtain ⟨hop, hcmp⟩ := rich_of hn
 rw [hcmp]
 refine cmp_K (Nat.lt_of_le_of_lt (Nat.le_add_right _ _) hA.room) hS.inv.toFr C.X I hL hnf (f := fa) (by rw [hop]; exact hfa.1) hfa.2 ?_
 exact (F _ _ fa g W₁ [.ref i, w] [.ref (W₁.ρ i), z] [] [] hc hfn rfl rfl ⟨⟨ltl hi hx.le, rfl⟩, hw.ext hx, trivial⟩ trivial).sim A W₁ mm st s _ E hA (Ext.refl _) hS (hP.imp (f := id) fun _ _ _ _ hr q => cmp_back hr (q hr))
theorem sim_cmpI {op : CmpOp} {x y : Int} {t t' : Tok} {r : Bool} (h : cmpI op x y = some r) {A : Around} {s : Shared} {Q : Value → Shared → Prop} {E : Value → Shared → Prop} (hA : AOk g A) (hq : Q (.bool r) s) : wpAny (model g.c.prog g.c.w) A (compareOp op (.int x t) (.int y t')) Q E s := by
 cases op with
 | Lt => obtain rfl := sj h; exact lt_int hq
 | LtE => obtain rfl := sj h; exact le_int hq
 | Gt => obtain rfl := sj h; exact gt_int hq
 | GtE => obtain rfl := sj h; exact ge_int hq
 | Eq => obtain rfl := sj h; exact PyProof.Rows.eq_dataH (.int _ _) (.int _ _) rfl rfl hA.room hq
 | NotEq => obtain rfl := sj h; exact PyProof.Rows.ne_dataH (.int _ _) (.int _ _) rfl rfl hA.room hq
 | _ => nomatch h
theorem eqD_some {m : Str → Option Value} {st : S} {s : Shared} (hS : St g W m st s) {v w : V} {u z : Value} (hv : VRel W v u) (hw : VRel W w z) {r : Bool} (h : eqD st.heap v w = some r) : ∃ da db as bs, Reads s.heap u da as ∧ Reads s.heap z db bs ∧ SeqAt.shaped da = true ∧ SeqAt.shaped db = true ∧ PyData.eqv da db = r := by
 unfold eqD at h
 cases h1 : pyOf depthLim st.heap v with
 | none => rw [h1] at h; exact zN h
 | some da =>
  cases h2 : pyOf depthLim st.heap w with
  | none => rw [h1, h2] at h; exact zN h
  | some db =>
   rw [h1, h2] at h
   by_cases hs : (SeqAt.shaped da && SeqAt.shaped db) = true
   ·have e := sj ((if_pos hs).symm.trans h)
    obtain ⟨as, r1⟩ := reads_of hS.inv _ v u da h1 hv
    obtain ⟨bs, r2⟩ := reads_of hS.inv _ w z db h2 hw
    rw [Bool.and_eq_true] at hs
    exact ⟨da, db, as, bs, r1, r2, hs.1, hs.2, e⟩
   ·exact zN ((if_neg hs).symm.trans h)
theorem okB_some {α : Type} {s : Shared} {st : S} {o : Option Bool} {Rel : Wd → V → α → Prop} {Q : α → Shared → Prop} {E : Value → Shared → Prop} (h : Post g W s Rel Q E (okB o st)) : ∃ r, o = some r ∧ Post g W s Rel Q E (.ok (.bool r) st) := by
 obtain ⟨v, e, h⟩ := Post.get0 h
 obtain ⟨r, hr, rfl⟩ := Option.map_eq_some_iff.mp e
 exact ⟨r, hr, h⟩
theorem ints_rel {W : Wd} : ∀ {xs : List V} {us : List Value} {ns : List Int}, intsV xs = some ns → VsRel W xs us → IntsAre us ns
 | [], [], _, e, _ => by obtain rfl := sj e; exact .nil
 | v :: xs, u :: us, ns, e, h => by
  unfold intsV at e
  cases q : intOf v with
  | none => rw [q] at e; exact zN e
  | some x =>
   rw [q] at e
   obtain rfl := iO q
   obtain ⟨ms, e1, rfl⟩ := Option.map_eq_some_iff.mp e
   obtain ⟨t, rfl⟩ := h.1
   exact .cons _ _ (ints_rel e1 h.2)
 | [], _ :: _, _, _, h => h.elim
 | _ :: _, [], _, _, h => h.elim
theorem ints_kf {us : List Value} {ns : List Int} (h : IntsAre us ns) : kf_ints us = true := by
 induction h with
 | nil => rfl
 | cons _ _ _ ih => exact ih
theorem memI_some {h : Nat → Option AObj} {v w : V} {r : Bool} (e : memI h v w = some r) : ∃ x i xs ns, v = .int x ∧ w = .ref i ∧ listAt h i = some xs ∧ intsV xs = some ns ∧ r = ns.any (· == x) := by
 unfold memI at e
 cases q : intOf v with
 | none => rw [q] at e; exact zN e
 | some x =>
  rw [q] at e
  dsimp only at e
  cases q2 : refOf w with
  | none => rw [q2] at e; exact zN e
  | some i =>
   rw [q2] at e
   dsimp only at e
   cases q3 : listAt h i with
   | none => rw [q3] at e; exact zN e
   | some xs =>
    rw [q3] at e
    obtain ⟨ns, e1, rfl⟩ := Option.map_eq_some_iff.mp e
    exact ⟨x, i, xs, ns, iO q, rO q2, q3, e1, rfl⟩
theorem sim_compare (C : CxOk g.c) (F : FnSim g.c g.d) {op : CmpOp} {v w : V} {u z : Value} (hv : VRel W v u) (hw : VRel W w z) : Sim g W (compareOp op u z) (compareV g.c.P (phi g.c.P g.d) g.hd op v w) VR := by
 unfold compareV
 cases he : isV op v w with
 | some o => exact compare_is he hv hw
 | none =>
  intro A W₁ mm st s Q E hA hx hS hP
  have hP : Post g W₁ s VR Q E (cmpV g.c.P (phi g.c.P g.d) g.hd op v w st) := hP
  unfold cmpV at hP
  by_cases hi : isInst st.heap v = true
  ·rw [if_pos hi] at hP
   by_cases hb : (isInst st.heap w || isIntV w) = true
   ·rw [if_pos hb] at hP
    cases hn : cmpName op with
    | none => rw [hn] at hP; exact hP.elim
    | some n =>
     rw [hn] at hP
     obtain ⟨i, fs, rfl, ho⟩ := isInst_some hi
     obtain ⟨hil, rfl⟩ := hv
     rw [← hx.eq i hil]
     exact sim_cmpObj C F hn hil hw hA hx hS ho hb hP
   ·rw [if_neg hb] at hP; exact hP.elim
  ·rw [if_neg hi] at hP
   cases hp : intPair v w with
   | some p =>
    rw [hp] at hP
    obtain ⟨rfl, rfl⟩ := intPair_some hp
    obtain ⟨t, rfl⟩ := hv
    obtain ⟨t', rfl⟩ := hw
    obtain ⟨r, hr, hP⟩ := okB_some hP
    exact sim_cmpI hr hA (hP W₁ mm s _ (Ext.refl _) hS (Same.refl _) rfl)
   | none =>
    rw [hp] at hP
    cases op with
    | Eq =>
     obtain ⟨r, hr, hP⟩ := okB_some hP
     obtain ⟨da, db, as, bs, r1, r2, s1, s2, rfl⟩ := eqD_some hS (hv.ext hx) (hw.ext hx) hr
     exact PyProof.Rows.eq_dataH r1 r2 s1 s2 hA.room (hP W₁ mm s _ (Ext.refl _) hS (Same.refl _) rfl)
    | NotEq =>
     obtain ⟨r, hr, hP⟩ := okB_some hP
     obtain ⟨r', hr', rfl⟩ := Option.map_eq_some_iff.mp hr
     obtain ⟨da, db, as, bs, r1, r2, s1, s2, rfl⟩ := eqD_some hS (hv.ext hx) (hw.ext hx) hr'
     exact PyProof.Rows.ne_dataH r1 r2 s1 s2 hA.room (hP W₁ mm s _ (Ext.refl _) hS (Same.refl _) rfl)
    | In =>
     obtain ⟨r, hr, hP⟩ := okB_some hP
     obtain ⟨x, i, xs, ns, rfl, rfl, h1, h2, rfl⟩ := memI_some hr
     obtain ⟨t, rfl⟩ := hv
     obtain ⟨_, rfl⟩ := hw.ext hx
     obtain ⟨vs, hL, hr⟩ := hS.list h1
     have hints := ints_rel h2 hr
     refine SeqInW.in_listW (isInt x) (fun y hy => kf_eq (ints_kf hints) y (by simpa using hy)) hL (hP W₁ mm s _ (Ext.refl _) hS (Same.refl _) ?_)
     rw [← Array.any_toList, any_isInt x hints]
     rfl
    | NotIn =>
     obtain ⟨r, hr, hP⟩ := okB_some hP
     obtain ⟨r', hr', rfl⟩ := Option.map_eq_some_iff.mp hr
     obtain ⟨x, i, xs, ns, rfl, rfl, h1, h2, rfl⟩ := memI_some hr'
     obtain ⟨t, rfl⟩ := hv
     obtain ⟨_, rfl⟩ := hw.ext hx
     obtain ⟨vs, hL, hr⟩ := hS.list h1
     have hints := ints_rel h2 hr
     refine SeqInW.notIn_listW (isInt x) (fun y hy => kf_eq (ints_kf hints) y (by simpa using hy)) hL (hP W₁ mm s _ (Ext.refl _) hS (Same.refl _) ?_)
     rw [← Array.any_toList, any_isInt x hints]
     rfl
    | _ => exact hP.elim
end
end
section
theorem frel_get {W : Wd} {x : Str} : ∀ {fs : List (Str × V)} {ds : List DictEntry} {v : V}, FRel W fs ds → getR x fs = some v → ∃ u, getL x ds = some (some u) ∧ VRel W v u
 | [], _, _, _, e => by simp [getR] at e
 | (y, w) :: fs, e :: ds, v, h, q => by
  obtain ⟨⟨t, hk⟩, hv, hr⟩ := h
  dsimp only [getR] at q
  by_cases hy : y = x
  ·rw [if_pos hy] at q; obtain rfl := sj q
   refine ⟨e.val, ?_, hv⟩
   unfold getL
   rw [List.find?_cons, hk]
   simp [Value.isStr, hy]
  ·rw [if_neg hy] at q
   obtain ⟨u, a, b⟩ := frel_get hr q
   refine ⟨u, ?_, b⟩
   have hne : e.key.isStr x = false := by rw [hk]; simp [Value.isStr, hy]
   unfold getL at a ⊢
   rw [List.find?_cons, hne]
   have hr' : e.refKey = false := by simp [DictEntry.refKey, hk]
   rw [List.any_cons, hr', Bool.false_or]
   exact a
 | _ :: _, [], _, h, _ => h.elim
theorem frel_none {W : Wd} {x : Str} : ∀ {fs : List (Str × V)} {ds : List DictEntry}, FRel W fs ds → getR x fs = none → getL x ds = some none
 | [], [], _, _ => rfl
 | (y, w) :: fs, e :: ds, h, q => by
  obtain ⟨⟨t, hk⟩, hv, hr⟩ := h
  dsimp only [getR] at q
  by_cases hy : y = x
  ·rw [if_pos hy] at q; exact zS q
  ·rw [if_neg hy] at q
   have a := frel_none hr q
   have hne : e.key.isStr x = false := by rw [hk]; simp [Value.isStr, hy]
   unfold getL at a ⊢
   rw [List.find?_cons, hne]
   have hr' : e.refKey = false := by simp [DictEntry.refKey, hk]
   rw [List.any_cons, hr', Bool.false_or]
   exact a
 | _ :: _, [], h, _ => h.elim
 | [], _ :: _, h, _ => h.elim
theorem frel_some {W : Wd} {x : Str} {fs : List (Str × V)} {ds : List DictEntry} (h : FRel W fs ds) : (getL x ds).isSome = true := by
 cases q : getR x fs with
 | none => rw [frel_none h q]; rfl
 | some v => obtain ⟨u, a, _⟩ := frel_get h q; rw [a]; rfl
theorem frel_put {W : Wd} {x : Str} {v : V} {u : Value} {hs : Int} {t : Tok} (hv : VRel W v u) : ∀ {fs : List (Str × V)} {ds : List DictEntry}, FRel W fs ds → FRel W (putR x v fs) (putL x hs (.str x t) u ds)
 | [], [], _ => ⟨⟨t, rfl⟩, hv, trivial⟩
 | (y, w) :: fs, e :: ds, h => by
  obtain ⟨⟨t', hk⟩, hv', hr⟩ := h
  by_cases hy : y = x
  ·have hne : e.key.isStr x = true := by rw [hk]; simp [Value.isStr, hy]
   simp only [putR, putL, if_pos hy, hne, if_true]
   exact ⟨⟨t', hk⟩, hv, hr⟩
  ·have hne : e.key.isStr x = false := by rw [hk]; simp [Value.isStr, hy]
   simp only [putR, putL, if_neg hy, hne, Bool.false_eq_true, if_false]
   exact ⟨⟨t', hk⟩, hv', frel_put hv hr⟩
 | _ :: _, [], h => h.elim
 | [], _ :: _, h => h.elim
theorem putR_len (x : Str) (v : V) : ∀ fs : List (Str × V), (putR x v fs).length ≤ fs.length + 1
 | [] => Nat.le_refl _
 | (y, w) :: r => by
  unfold putR
  split
  ·exact Nat.le_succ _
  ·have := putR_len x v r; dsimp only [List.length_cons]; lia
section
variable {g : G} {W : Wd}
theorem Post.noExc {α β : Type} {s : Shared} {st : S} {m : M β} {R : Wd → β → α → Prop} {Q : α → Shared → Prop} {E : Value → Shared → Prop} (h : Post g W s R Q E (noExc m st)) {E' : Value → Shared → Prop} : Post g W s R Q E' (m st) := by
 unfold Mine.noExc at h
 cases q : m st with
 | ok b st' => rw [q] at h; exact h
 | _ => rw [q] at h; exact h.elim
theorem Post.up {β α : Type} {s : Shared} {R : Wd → β → α → Prop} {Q : α → Shared → Prop} {E : Value → Shared → Prop} {r : Mine.R β} (h : Post g W s R Q E r) : Post g.up W s R Q E r := by
 cases r with
 | fail => exact h
 | ok b st' => exact fun W' mm s' a hx hS hs hr => h W' mm s' a hx hS.down hs hr
 | exc x st' => exact fun W' mm s' a hx hS hs hr => h W' mm s' a hx hS.down hs hr
theorem sim_attr (C : CxOk g.c) (F : FnSim g.c g.d) (hk : g.k ≤ 4) {v : V} {u : Value} {x : Str} {b : Bool} (hv : VRel W v u) : Sim g W (getAttr u x b) (attrV g.c.P (phi g.c.P g.d) g.hd v x) VR := by
 intro A W₁ mm st s Q E hA hx hS hP
 replace hP := Post.get hP; obtain ⟨i, hi, hP⟩ := hP
 obtain rfl := rO hi
 obtain ⟨hi, rfl⟩ := hv.ext hx
 replace hP := Post.get hP; obtain ⟨fs, ho, hP⟩ := hP
 have ho := instAt_some ho
 obtain ⟨ds, n, I, hf⟩ := inst_at hS.inv ho
 by_cases hw : x = wName
 ·subst hw
  rw [if_pos rfl] at hP
  obtain ⟨code, hc⟩ := callF_code (Post.noExc hP (E' := E))
  obtain ⟨fa, ⟨p, rest, hp1, hp2⟩, hfn⟩ := C.fn _ _ hc
  obtain ⟨p', hp3, hp4, hp5, _⟩ := C.prop
  obtain rfl : p = p' := by rw [hp1] at hp3; cases hp3; rfl
  refine get_prop hS.inv.toFr C.X I (C.get _) C.hasDict hp1 hp4 hp5 hp2 ?_
  refine F .getW code fa g.up W₁ [.ref i] [.ref (W₁.ρ i)] [] [] hc hfn rfl rfl ⟨⟨hi, rfl⟩, trivial⟩ trivial A.in1 W₁ mm st { s with toks := s.toks + 1 } _ (hA.up (Nat.le_succ_of_le (Nat.succ_le_succ hk))) (Ext.refl _) (hS.toks _).up ?_
  exact (((Post.noExc hP).move (Ext.refl _) Same.toks).up).imp (f := id) fun _ _ _ _ hr q => handed_on (handed_rel hr) (q hr)
 ·rw [if_neg hw] at hP
  replace hP := Post.ite hP; obtain ⟨hm, hP⟩ := hP
  replace hP := Post.get0 hP; obtain ⟨w, hw', hP⟩ := hP
  obtain ⟨u, hu, hr⟩ := frel_get hf hw'
  have hfx := C.fields x (by simpa using hm)
  refine get_own (attr := none) hS.inv.toFr C.X I (C.get _) C.hasDict hfx.1 rfl hu (handed_rel hr) ?_
  exact hP W₁ mm _ _ (Ext.refl _) (hS.toks _) Same.toks hr
theorem sim_setAttr (C : CxOk g.c) (F : FnSim g.c g.d) (hk : g.k ≤ 4) {v w : V} {u z : Value} {x : Str} (hv : VRel W v u) (hw : VRel W w z) :
  Sim g W (setAttr u x z) (setAttrV g.c.P (phi g.c.P g.d) g.hd v x w) (fun _ _ _ => True) := by
 intro A W₁ mm st s Q E hA hx hS hP
 replace hP := Post.get hP; obtain ⟨i, hi, hP⟩ := hP
 obtain rfl := rO hi
 obtain ⟨hi, rfl⟩ := hv.ext hx
 replace hP := Post.get hP; obtain ⟨fs, ho, hP⟩ := hP
 have ho := instAt_some ho
 obtain ⟨ds, n, I, hf⟩ := inst_at hS.inv ho
 by_cases hwn : x = wName
 ·subst hwn
  rw [if_pos rfl] at hP
  have hP : Post g W₁ s VR (fun _ s' => Q () s') E (callF g.c.P (phi g.c.P g.d) g.hd .setW [.ref i, w] [] st) := hP.bind fun b st' W' mm' s' a _ hS' _ _ hP' => hP' W' mm' s' () (Ext.refl _) hS' (Same.refl _) trivial
  obtain ⟨code, hc⟩ := callF_code hP
  obtain ⟨fa, ⟨p, a, rest, hp1, hp2⟩, hfn⟩ := C.fn _ _ hc
  obtain ⟨p', hp3, hp4, hp5, hp6, hp7⟩ := C.prop
  obtain rfl : p = p' := by rw [hp1] at hp3; cases hp3; rfl
  refine set_prop hS.inv.toFr C.X I C.setattr C.over hp6 hp7 hp2 ?_
  have hk1 : g.k + 1 ≤ 5 := Nat.succ_le_succ hk
  exact F .setW code fa g.up.up W₁ [.ref i, w] [.ref (W₁.ρ i), z] [] [] hc hfn rfl rfl ⟨⟨hi, rfl⟩, hw.ext hx, trivial⟩ trivial A.in1.in1 W₁ mm st { s with toks := s.toks + 1 } _ ((hA.up (Nat.le_succ_of_le hk1)).up (Nat.succ_le_succ hk1)) (Ext.refl _) (hS.toks _).up.up (hP.move (Ext.refl _) Same.toks).up.up
 ·rw [if_neg hwn] at hP
  replace hP := Post.ite hP; obtain ⟨⟨hm, hlen⟩, hP⟩ := hP
  have hfx := C.fields x (by simpa using hm)
  obtain ⟨rest, N, hne, hlt, hback⟩ := hS.inv.capture (W₁.δ i)
  have ld := hS.inv.ldic i _ ho
  have hpf := frel_put (hs := PyData.keyHash g.c.w.params x) (t := s.toks + 1) (x := x) (hw.ext hx) hf
  have hpl' := hpf.length
  have hpl := putR_len x w fs
  refine set_dict (news := (W₁.δ i, dictOf ds n) :: rest) hS.inv.toFr C.X ?_ I rfl C.setattr C.over hfx.2 C.hasDict (frel_some hf) rfl (Upd.head hne) (by lia) ?_
  ·intro p hp
   rcases List.mem_cons.mp hp with rfl | hp
   ·exact ⟨I.dict, ne_of_lab ld (hS.inv.lfr _ (.head _)) (fun h => (by contradiction)), hS.inv.fresh (nL ld)⟩
   ·exact N p hp
  ·intro h' F' N'
   obtain ⟨k', hfrs⟩ := hS.inv.keepOf F' (hback h' g.L fun p hp => N' p (.tail _ hp)) (fun t ht => by rw [ld] at ht; obtain rfl := sj ht; simp)
   exact hP W₁ mm _ () (Ext.refl _) ⟨hS.inv.setDict ho k' hfrs (N' _ (.head _)).1 hpf, hS.next, hS.loc⟩ Same.mk' trivial
end
end
section
theorem prel_get {α : Type} [DecidableEq α] {W : Wd} {k : α} : ∀ {es : List (α × V)} {kvs : List (α × Value)} {v : V}, PRel W es kvs → getF k es = some v → ∃ u, valueAt kvs k = some u ∧ VRel W v u
 | [], _, _, _, e => by simp [getF] at e
 | (a, w) :: es, [], _, h, _ => by have := h.1; simp at this
 | (a, w) :: es, (b, u) :: kvs, v, h, e => by
  obtain ⟨h1, h2⟩ := h
  simp only [List.map_cons, List.cons.injEq] at h1
  obtain ⟨rfl, h1⟩ := h1
  dsimp only [getF, List.find?_cons] at e
  by_cases hk : a = k
  ·subst hk
   simp only [decide_true, Option.map_some, Option.some.injEq] at e
   subst e
   exact ⟨u, by simp [valueAt], h2.1⟩
  ·simp only [hk, decide_false] at e
   obtain ⟨u', a1, b1⟩ := prel_get (es := es) (kvs := kvs) ⟨h1, h2.2⟩ e
   refine ⟨u', ?_, b1⟩
   unfold valueAt at a1 ⊢
   rw [List.find?_cons]
   simp only [hk, decide_false]
   exact a1
theorem prel_put {α : Type} [DecidableEq α] {W : Wd} {k : α} {v : V} {u : Value} (hv : VRel W v u) {es : List (α × V)} {kvs : List (α × Value)} (h : PRel W es kvs) : PRel W (putF k v es) (stored kvs k u) := by
 have hany : es.any (fun p => decide (p.1 = k)) = kvs.any (fun p => decide (p.1 = k)) := by
  have e1 : ∀ l : List (α × V), l.any (fun p => decide (p.1 = k)) = (l.map (·.1)).any (fun a => decide (a = k)) := fun l => by rw [List.any_map]; rfl
  have e2 : ∀ l : List (α × Value), l.any (fun p => decide (p.1 = k)) = (l.map (·.1)).any (fun a => decide (a = k)) := fun l => by rw [List.any_map]; rfl
  rw [e1, e2, h.1]
 unfold putF stored
 by_cases q : kvs.any (fun p => decide (p.1 = k)) = true
 ·rw [if_pos q, if_pos (hany.trans q)]
  clear hany q
  have go : ∀ (es : List (α × V)) (kvs : List (α × Value)), PRel W es kvs → PRel W (es.map (fun p => if p.1 = k then (p.1, v) else p)) (kvs.map (fun kv => if kv.1 = k then (kv.1, u) else kv)) := by
   intro es
   induction es with
   | nil => intro kvs h; cases kvs with
    | nil => exact h
    | cons _ _ => have := h.1; simp at this
   | cons p es ih =>
    intro kvs h
    cases kvs with
    | nil => have := h.1; simp at this
    | cons q kvs =>
     obtain ⟨h1, h2⟩ := h
     simp only [List.map_cons, List.cons.injEq] at h1
     obtain ⟨i1, i2⟩ := ih kvs ⟨h1.2, h2.2⟩
     by_cases hp : p.1 = k
     ·have hq : q.1 = k := h1.1 ▸ hp
      simp only [List.map_cons, if_pos hp, if_pos hq]
      exact ⟨by simp only [List.map_cons, h1.1, i1], hv, i2⟩
     ·have hq : ¬ q.1 = k := h1.1 ▸ hp
      simp only [List.map_cons, if_neg hp, if_neg hq]
      exact ⟨by simp only [List.map_cons, h1.1, i1], h2.1, i2⟩
  exact go es kvs h
 ·rw [if_neg q, if_neg (by rw [hany]; exact q)]
  exact ⟨by simp [h.1], by simpa using h.2.append (VsRel.one hv)⟩
theorem prel_del {α : Type} [DecidableEq α] {W : Wd} {k : α} : ∀ {es : List (α × V)} {kvs : List (α × Value)}, PRel W es kvs → PRel W (delF k es) (without kvs k)
 | [], [], _ => ⟨rfl, trivial⟩
 | (a, w) :: es, (b, u) :: kvs, h => by
  obtain ⟨h1, h2⟩ := h
  simp only [List.map_cons, List.cons.injEq] at h1
  obtain ⟨rfl, h1⟩ := h1
  obtain ⟨i1, i2⟩ := prel_del (k := k) (es := es) (kvs := kvs) ⟨h1, h2.2⟩
  unfold delF without at *
  by_cases hk : a = k
  ·have hd : decide (a ≠ k) = false := decide_eq_false fun q => q hk
   rw [List.filter_cons, List.filter_cons]
   simp only [hd, Bool.false_eq_true, if_false]
   exact ⟨i1, i2⟩
  ·have hd : decide (a ≠ k) = true := decide_eq_true hk
   rw [List.filter_cons, List.filter_cons]
   simp only [hd, if_true]
   exact ⟨by rw [List.map_cons, List.map_cons, i1], h2.1, i2⟩
 | [], _ :: _, h => by have := h.1; simp at this
 | _ :: _, [], h => by have := h.1; simp at this
section
variable {g : G} {W : Wd}
theorem sim_sub {v k : V} {u z : Value} {value slice : Expr} (hv : VRel W v u) (hk : VRel W k z) (hs : ∀ o i, subscripted slice false o i = operate [o, i] (getItem o i)) : Sim g W (subscriptTail value slice u z) (subV v k) VR := by
 intro A W₁ mm st s Q E hA hx hS hP
 replace hP := Post.get hP; obtain ⟨i, hi, hP⟩ := hP
 obtain rfl := rO hi
 obtain ⟨hi, rfl⟩ := hv.ext hx
 replace hP := Post.get hP; obtain ⟨o, ho, hP⟩ := hP
 cases o with
 | list xs =>
  replace hP := Post.get hP; obtain ⟨n, hn, hP⟩ := hP
  obtain ⟨h1, rfl⟩ := natB_some hn
  obtain ⟨t, rfl⟩ := hk
  replace hP := Post.get0 hP; obtain ⟨w, hw, hP⟩ := hP
  obtain ⟨vs, hL, hr⟩ := (hS.inv.own i _ ho).isList
  obtain ⟨u, hu, hru⟩ := hr.get hw
  exact tail_any hL.typeIs slot_list_getitem.lookup (wpAny_getItem_list hL (Int.natCast_nonneg n) (by lia) (by simpa using hu) (hP W₁ mm s u (Ext.refl _) hS (Same.refl _) hru)) (hs _ _)
 | tup xs =>
  replace hP := Post.get hP; obtain ⟨n, hn, hP⟩ := hP
  obtain ⟨h1, rfl⟩ := natB_some hn
  obtain ⟨t, rfl⟩ := hk
  replace hP := Post.get0 hP; obtain ⟨w, hw, hP⟩ := hP
  obtain ⟨vs, hL, hr⟩ := (hS.inv.own i _ ho).isTup
  obtain ⟨u, hu, hru⟩ := hr.get hw
  have hlt : n < vs.length := (List.getElem?_eq_some_iff.mp hu).1
  refine tail_any hL.typeIs slot_tuple_getitem.lookup (getItem_tuple (j := n) hL (by lia) (by lia) ?_ (by simpa using hu) (hP W₁ mm s u (Ext.refl _) hS (Same.refl _) hru)) (hs _ _)
  unfold seqIndex?
  dsimp only [List.size_toArray]
  have h9 : ¬ (n : Int) < 0 := by lia
  have h8 : (n : Int) < (vs.length : Int) := by lia
  simp only [h9, if_false]
  rw [if_pos (by simp [h8])]
  rfl
 | dictI es ver =>
  replace hP := Post.get hP; obtain ⟨n, hn, hP⟩ := hP
  obtain rfl := iO hn
  obtain ⟨t, rfl⟩ := hk
  replace hP := Post.get0 hP; obtain ⟨w, hw, hP⟩ := hP
  obtain ⟨_, kvs, hD, hr⟩ := hS.inv.own i _ ho
  obtain ⟨u, hu, hru⟩ := prel_get hr hw
  exact tail_any hD.dictOf.mapOf.typeIs slot_dict_getitem.lookup (wpAny_getItem_of (knd := intKind g.c.prog g.c.w) (k := n) (by simp [intKind, Value.isInt]) hD.dictOf.mapOf hu (hP W₁ mm _ u (Ext.refl _) (hS.toks _) Same.toks hru)) (hs _ _)
 | dictS es =>
  replace hP := Post.get hP; obtain ⟨n, hn, hP⟩ := hP
  obtain rfl := strOf_some hn
  obtain ⟨t, rfl⟩ := hk
  replace hP := Post.get0 hP; obtain ⟨w, hw, hP⟩ := hP
  obtain ⟨kvs, hD, hr⟩ := hS.inv.own i _ ho
  obtain ⟨u, hu, hru⟩ := prel_get hr hw
  exact tail_any hD.mapOf.typeIs slot_dict_getitem.lookup (wpAny_getItem_of (strKind_is g.c.prog g.c.w n t) hD.mapOf hu (hP W₁ mm _ u (Ext.refl _) (hS.toks _) Same.toks hru)) (hs _ _)
 | _ => exact hP.elim
theorem sim_setSub {v k x : V} {u z y : Value} (hv : VRel W v u) (hk : VRel W k z) (hy : VRel W x y) : Sim g W (setItem u z y) (setSubV v k x) (fun _ _ _ => True) := by
 intro A W₁ mm st s Q E hA hx hS hP
 replace hP := Post.get hP; obtain ⟨i, hi, hP⟩ := hP
 obtain rfl := rO hi
 obtain ⟨hi, rfl⟩ := hv.ext hx
 replace hP := Post.get hP; obtain ⟨o, ho, hP⟩ := hP
 cases o with
 | list xs =>
  replace hP := Post.get hP; obtain ⟨n, hn, hP⟩ := hP
  obtain ⟨h1, rfl⟩ := natB_some hn
  obtain ⟨t, rfl⟩ := hk
  replace hP := Post.ite hP; obtain ⟨h2, hP⟩ := hP
  obtain ⟨vs, n0, hat, hr⟩ := hS.inv.own i _ ho
  have hlen := hr.length
  refine ki_setAt hat (Int.natCast_nonneg n) (by lia) (by rw [List.size_toArray]; lia) ?_
  refine hP W₁ mm _ () (Ext.refl _) ⟨hS.inv.setOwn ho (Heap.SameBut.update ..) ⟨_, n0, ?_, hr.set (k := n) (hy.ext hx)⟩ (fun ⟨_, e⟩ => (by contradiction)), hS.next, hS.loc⟩ Same.heap trivial
  rw [Heap.get?_update_self _ hat rfl]
  simp [Obj.mapSeq]
 | dictI es ver =>
  replace hP := Post.get hP; obtain ⟨n, hn, hP⟩ := hP
  obtain rfl := iO hn
  obtain ⟨t, rfl⟩ := hk
  replace hP := Post.ite hP; obtain ⟨h2, hP⟩ := hP
  obtain ⟨_, kvs, hD, hr⟩ := hS.inv.own i _ ho
  have hlen := hr.length
  refine wpAny_setItem_pairs (knd := intKind g.c.prog g.c.w) (k := n) (by simp [intKind, Value.isInt]) hD.dictOf (fun h' hD' hs => ?_) (by rw [sizeLine_eq]; lia)
  obtain ⟨W', hx', hS'⟩ := hS.wrD ho hs hD' (prel_put (hy.ext hx) hr)
  exact hP W' mm _ () hx' hS' Same.mk' trivial
 | dictS es =>
  replace hP := Post.get hP; obtain ⟨n, hn, hP⟩ := hP
  obtain rfl := strOf_some hn
  obtain ⟨t, rfl⟩ := hk
  replace hP := Post.ite hP; obtain ⟨h2, hP⟩ := hP
  obtain ⟨kvs, hD, hr⟩ := hS.inv.own i _ ho
  have hlen := hr.length
  refine wpAny_setItem_pairs (strKind_is g.c.prog g.c.w n t) hD (fun h' hD' hs => ?_) (by rw [sizeLine_eq]; lia)
  exact hP W₁ mm _ () (Ext.refl _) ⟨hS.inv.setOwn ho hs ⟨_, hD', prel_put (hy.ext hx) hr⟩ (fun ⟨_, e⟩ => (by contradiction)), hS.next, hS.loc⟩ Same.mk' trivial
 | _ => exact hP.elim
theorem Inv.grow {c : Cx} {L : Addr} {m : Str → Option Value} {fr : Frs} {pins : List (Addr × Obj)} {W : Wd} {σ : Nat → Option AObj} {h h' : Heap} (I : Inv c ((L, m) :: fr) pins W σ h) (hk : ∀ a o, h.get? a = some o → h'.get? a = some o) :
  Inv c ((L, m) :: fr) pins W σ h' := by
 refine I.keeps (fun a o _ => hk a o) (fun a o e => hk a o (I.stays a o e)) ?_
 have lL := I.lfr _ (.head _)
 obtain ⟨hb, o, e⟩ := I.new _ (nL lL)
 exact Nat.le_of_lt (Nat.lt_of_le_of_lt (hb.2 (by rw [lL]; simp)) (Heap.lt_size (hk _ _ e)))
theorem Inv.unlab_none {c : Cx} {fr : Frs} {pins : List (Addr × Obj)} {W : Wd} {σ : Nat → Option AObj} {h : Heap} (I : Inv c fr pins W σ h) {a : Addr} (ha : h.get? a = none) : W.lab a = none ∧ c.base.get? a = none := by
 constructor
 ·cases q : W.lab a with
  | none => rfl
  | some t => obtain ⟨_, o, e⟩ := I.new a (nL q); rw [ha] at e; exact zN e
 ·cases q : c.base.get? a with
  | none => rfl
  | some o => have := I.stays a o q; rw [ha] at this; exact zN this
theorem clsIs_of {c : Cx} {x : X} (h : x ≠ .weight) : clsIs c x (.type (xT x)) := by
 unfold clsIs
 rw [if_neg h]
theorem thrown_new {x : X} {T : String} {W : Wd} {m : Str → Option Value} {st : S} {s : Shared} (hS : St g W m st s) {h' : Heap} {tk : Nat} {e : Addr} (hT : clsIs g.c x (.type T)) (hx : Heap.NewExc s.heap h' e T) :
  St g W m st { s with heap := h', toks := tk } ∧ Thrown g.c W h' x (.ref e) := by
 refine ⟨⟨hS.inv.grow hx.keeps, hS.next, hS.loc⟩, ?_⟩
 obtain ⟨ob, t, a, b, d⟩ := hx.there
 obtain ⟨u1, u2⟩ := hS.inv.unlab_none hx.new
 exact ⟨e, ob, _, rfl, u1, u2, a, by rw [b]; exact hT, d, rfl, .inl rfl⟩
theorem sim_len {v : V} {u : Value} (hv : VRel W v u) : Sim g W (call (.builtin "len") [u]) (lenV v) VR := by
 intro A W₁ mm st s Q E hA hx hS hP
 replace hP := Post.get hP; obtain ⟨i, hi, hP⟩ := hP
 replace hP := Post.get hP; obtain ⟨xs, ho, hP⟩ := hP
 replace hP := Post.ite hP; obtain ⟨h0, hP⟩ := hP
 obtain rfl := rO hi
 obtain ⟨hi, rfl⟩ := hv.ext hx
 obtain ⟨vs, hL, hr⟩ := hS.list ho
 have hlen := hr.length
 refine call_len_list hL (by rw [List.size_toArray]; lia) (hP W₁ mm _ _ (Ext.refl _) (hS.toks _) Same.toks ⟨s.toks + 1, ?_⟩)
 rw [List.size_toArray, hlen]
theorem sim_abs {v : V} {u : Value} (hv : VRel W v u) : Sim g W (call (.builtin "abs") [u]) (absV v) VR := by
 intro A W₁ mm st s Q E hA hx hS hP
 replace hP := Post.get hP; obtain ⟨i, hi, hP⟩ := hP
 obtain rfl := iO hi
 obtain ⟨t, rfl⟩ := hv
 refine call_abs_int fun u tk => hP W₁ mm _ _ (Ext.refl _) (hS.toks _) Same.toks ⟨u, ?_⟩
 congr 1
 split <;> lia
theorem in_base (C : CxOk g.c) {W : Wd} {m : Str → Option Value} {st : S} {s : Shared} (hS : St g W m st s) : g.c.K.In s.heap := fun a o e => hS.inv.stays a o (C.X a o e)
theorem sim_isint (C : CxOk g.c) {v : V} {u : Value} (hv : VRel W v u) : Sim g W (call (.builtin "isinstance") [u, .type "int"]) (isinstV v "int") VR := by
 intro A W₁ mm st s Q E hA hx hS hP
 unfold isinstV at hP
 rw [if_pos rfl] at hP
 have K := in_base C hS
 by_cases hi : isIntV v = true
 ·rw [if_pos hi] at hP
  obtain ⟨x, hx'⟩ := Option.isSome_iff_exists.mp hi
  obtain rfl := iO hx'
  obtain ⟨t, rfl⟩ := hv
  exact kia_one kitx_int K trivial C.isi.1 (fun q => (by contradiction)) fun tk => hP W₁ mm _ _ (Ext.refl _) (hS.toks _) Same.toks rfl
 ·rw [if_neg hi] at hP
  by_cases hn : notIntV st.heap v = true
  ·rw [if_pos hn] at hP
   cases v with
   | none =>
    obtain rfl : u = .none := hv
    exact kia_one kitx_none K trivial (C.isiN "NoneType" (by decide)) (fun q => (by contradiction)) fun tk => hP W₁ mm _ _ (Ext.refl _) (hS.toks _) Same.toks rfl
   | str i =>
    obtain ⟨t, rfl⟩ := hv
    exact kia_one kitx_str K trivial (C.isiN "str" (by decide)) (fun q => (by contradiction)) fun tk => hP W₁ mm _ _ (Ext.refl _) (hS.toks _) Same.toks rfl
   | bytes i =>
    obtain ⟨t, rfl⟩ := hv
    exact kia_one kitx_bytes K trivial (C.isiN "bytes" (by decide)) (fun q => (by contradiction)) fun tk => hP W₁ mm _ _ (Ext.refl _) (hS.toks _) Same.toks rfl
   | ref i =>
    obtain ⟨hi, rfl⟩ := hv.ext hx
    obtain ⟨xs, ho⟩ := Option.isSome_iff_exists.mp (show (tupAt st.heap i).isSome = true from hn)
    obtain ⟨vs, n, a, _⟩ := hS.inv.own i _ (tupAt_some ho)
    exact kia_one kitx_tuple K ⟨_, a, rfl⟩ (C.isiN "tuple" (by decide)) (fun q => (by contradiction)) fun tk => hP W₁ mm _ _ (Ext.refl _) (hS.toks _) Same.toks rfl
   | _ => nomatch hn
  ·rw [if_neg hn] at hP; exact hP.elim
theorem stream_ne_int : ("Stream" : Str) ≠ ("int" : Str) := by decide
theorem sim_isstream (C : CxOk g.c) {v : V} {u : Value} (hv : VRel W v u) : Sim g W (call (.builtin "isinstance") [u, .ref g.c.C]) (isinstV v "Stream") VR := by
 intro A W₁ mm st s Q E hA hx hS hP
 obtain ⟨i1, i3, i4⟩ := C.isi
 have K := in_base C hS
 unfold isinstV at hP
 rw [if_neg stream_ne_int, if_pos rfl] at hP
 by_cases hi : isIntV v = true
 ·rw [if_pos hi] at hP
  obtain ⟨x, hx'⟩ := Option.isSome_iff_exists.mp hi
  obtain rfl := iO hx'
  obtain ⟨t, rfl⟩ := hv
  exact kia_one kitx_int K trivial i3 (fun q => (by contradiction)) fun tk => hP W₁ mm _ _ (Ext.refl _) (hS.toks _) Same.toks rfl
 ·rw [if_neg hi] at hP
  by_cases hin : isInst st.heap v = true
  ·rw [if_pos hin] at hP
   obtain ⟨i, fs, rfl, ho⟩ := isInst_some hin
   obtain ⟨_, rfl⟩ := hv.ext hx
   obtain ⟨ds, n, I, _⟩ := inst_at hS.inv ho
   obtain ⟨c1, c2, c3, c4⟩ := C.isiC
   exact kia_one (kitx_own (C.get _) C.hasDict c1 c2 c3 c4) K I i4 (fun q => (by contradiction)) fun tk => hP W₁ mm _ _ (Ext.refl _) (hS.toks _) Same.toks rfl
  ·rw [if_neg hin] at hP; exact hP.elim
theorem cut_at {b : Int} (hb : 0 ≤ b) (n : Nat) : max 0 (min b (n : Int)) = ((min b.toNat n : Nat) : Int) := by
 obtain ⟨k, rfl⟩ := Int.eq_ofNat_of_zero_le hb
 rw [Int.toNat_natCast, ← Lean.Omega.Int.ofNat_min]
 exact Int.max_eq_right (Int.natCast_nonneg _)
theorem vs_pick {W : Wd} {xs : List V} {us : List Value} (h : VsRel W xs us) {b : Int} (hb : 0 ≤ b) : VsRel W (xs.take b.toNat) (slicePick us.toArray none (some b) none).toList := by
 have e : sliceBounds none (some b) none us.toArray.size = (((0 : Nat) : Int), ((min b.toNat us.toArray.size : Nat) : Int), 1) := by
  unfold sliceBounds
  dsimp only [Option.getD_none]
  rw [if_pos (by decide), if_neg (Int.not_lt.mpr hb)]
  exact Prod.ext rfl (Prod.ext (cut_at hb _) rfl)
 rw [kmk_pick_nat _ e, List.drop_zero, Nat.sub_zero, List.size_toArray, kmk_take_min]
 exact h.take
theorem vs_pick2 {W : Wd} {xs : List V} {us : List Value} (h : VsRel W xs us) {a b : Int} (ha : 0 ≤ a) (hb : 0 ≤ b) : VsRel W ((xs.take b.toNat).drop a.toNat) (slicePick us.toArray (some a) (some b) none).toList := by
 have e : sliceBounds (some a) (some b) none us.toArray.size = (((min a.toNat us.toArray.size : Nat) : Int), ((min b.toNat us.toArray.size : Nat) : Int), 1) := by
  unfold sliceBounds
  dsimp only [Option.getD_none]
  rw [if_pos (by decide), if_neg (Int.not_lt.mpr ha), if_neg (Int.not_lt.mpr hb)]
  exact Prod.ext (cut_at ha _) (Prod.ext (cut_at hb _) rfl)
 rw [kmk_pick_nat _ e, List.size_toArray]
 have q : (us.drop (min a.toNat us.length)).take (min b.toNat us.length - min a.toNat us.length) = (us.take b.toNat).drop a.toNat := by
  rw [kmk_drop_min, List.drop_take]
  rcases Nat.le_total us.length a.toNat with h1 | h1
  ·rw [List.drop_of_length_le h1, List.take_nil, List.take_nil]
  ·rw [Nat.min_eq_left h1]
   rcases Nat.le_total us.length b.toNat with h2 | h2
   ·rw [Nat.min_eq_right h2, List.take_of_length_le (Nat.le_of_eq List.length_drop), List.take_of_length_le (Nat.le_trans (Nat.le_of_eq List.length_drop) (Nat.sub_le_sub_right h2 _))]
   ·rw [Nat.min_eq_left h2]
 rw [q]
 exact h.take.drop
theorem sim_append {i : Nat} {v : V} {u : Value} (hi : i < W.n) (hv : VRel W v u) : Sim g W (call (.builtin "list.append") [.ref (W.ρ i), u]) (appendM i v) VR := by
 intro A W₁ mm st s Q E hA hx hS hP
 replace hP := Post.get hP; obtain ⟨xs, ho, hP⟩ := hP
 replace hP := Post.ite hP; obtain ⟨h0, hP⟩ := hP
 rw [← hx.eq i hi]
 have ho := listAt_some ho
 obtain ⟨vs, n, hat, hr⟩ := hS.inv.own i _ ho
 have hlen := hr.length
 refine append_at (n := n) hat (fun h' hs ho' => ?_) (by rw [List.size_toArray, sizeLine_eq]; lia)
 refine hP W₁ mm _ _ (Ext.refl _) ⟨hS.inv.setOwn ho hs ⟨vs ++ [u], n + 1, ?_, hr.append (VsRel.one (hv.ext hx))⟩ (fun ⟨_, e⟩ => (by contradiction)), hS.next, hS.loc⟩ Same.heap rfl
 rw [ho']; simp
theorem sim_pop {i : Nat} {v : V} {u : Value} (hi : i < W.n) (hv : VRel W v u) :
  Sim g W (call (.builtin "list.pop") [.ref (W.ρ i), u]) (intM v >>= fun z => if z = 0 then popM g.hd i else failM) VR := by
 intro A W₁ mm st s Q E hA hx hS hP
 rw [← hx.eq i hi]
 replace hP := Post.get hP; obtain ⟨k, hk, hP⟩ := hP
 obtain rfl := iO hk
 obtain ⟨t, rfl⟩ := hv
 replace hP := Post.ite hP; obtain ⟨rfl, hP⟩ := hP
 replace hP := Post.get hP; obtain ⟨xs, ho, hP⟩ := hP
 have ho := listAt_some ho
 obtain ⟨vs, n, hat, hr⟩ := hS.inv.own i _ ho
 cases xs with
 | nil =>
  cases vs with
  | cons _ _ => exact hr.elim
  | nil =>
   replace hP := Post.itn hP; obtain ⟨hd, hP⟩ := hP
   have hh : A.handled = none := by
    rcases hA.hd with q | q
    ·exact q
    ·exact absurd q.1 hd
   refine call_meets PySem.F.slot_list_pop ⟨_, hat, rfl⟩ PySem.F.entry_list_pop (PySem.F.args_list_pop_2 _ _) (AutoListH.list_pop_list_int_1 (W₁.ρ i) #[] n 0 t (by decide +kernel) rfl) ⟨hat, hh, ?_⟩
   intro h' tk e hx'
   obtain ⟨hS', hT⟩ := thrown_new (x := .index) (tk := tk) hS (clsIs_of (by decide)) hx'
   exact hP W₁ mm _ _ (Ext.refl _) hS' Same.mk' hT
 | cons x xs =>
  replace hP := Post.ite hP; obtain ⟨h0, hP⟩ := hP
  cases vs with
  | nil => exact hr.elim
  | cons y ys =>
   have hlen := hr.length
   refine call_meets PySem.F.slot_list_pop ⟨_, hat, rfl⟩ PySem.F.entry_list_pop (PySem.F.args_list_pop_2 _ _) (MeetsSeq.list_pop_at (W₁.ρ i) (y :: ys).toArray n 0 t 0 y (by decide +kernel) ?_ rfl ?_) ⟨hat, ?_⟩
   ·unfold seqIndex?
    simp
   ·simp only [List.size_toArray, List.length_cons] at *; rw [sizeLine_eq]; lia
   ·refine hP W₁ mm _ _ (Ext.refl _) ⟨hS.inv.setOwn ho (Heap.SameBut.update ..) ⟨ys, n + 1, ?_, hr.2⟩ (fun ⟨_, e⟩ => (by contradiction)), hS.next, hS.loc⟩ Same.heap hr.1
    rw [Heap.get?_update_self _ hat rfl]
    simp [Obj.mapSeq]
end
end
section
section
variable {g : G} {W : Wd}
theorem sim_dpop {i : Nat} {v : V} {u : Value} (hi : i < W.n) (hv : VRel W v u) :
  Sim g W (call (.builtin "dict.pop") [.ref (W.ρ i), u]) (intM v >>= fun z => dpopM i z) VR := by
 intro A W₁ mm st s Q E hA hx hS hP
 rw [← hx.eq i hi]
 replace hP := Post.get hP; obtain ⟨k, hk, hP⟩ := hP
 obtain rfl := iO hk
 obtain ⟨t, rfl⟩ := hv
 replace hP := Post.get hP; obtain ⟨⟨es, ver⟩, ho, hP⟩ := hP
 have ho := dctI_some ho
 obtain ⟨_, kvs, hD, hr⟩ := hS.inv.own i _ ho
 cases hg : getF k es with
 | none => rw [hg] at hP; exact hP.elim
 | some w =>
  rw [hg] at hP
  replace hP := Post.ite hP; obtain ⟨h1, hP⟩ := hP
  obtain ⟨z, hz, hrz⟩ := prel_get hr hg
  have hlen := hr.length
  refine call_meetsIn PySem.F.slot_dict_pop hD.dictOf.mapOf.typeIs PySem.F.entry_dict_pop (PySem.F.args_dict_pop_2 _ _) (meets_dict_pop_there (intKind g.c.prog g.c.w) (k := k) _ (by simp [intKind, Value.isInt]) [] (.inl rfl) rfl) ⟨kvs, z, hD.dictOf, by rw [sizeLine_eq]; lia, hz, fun h' hD' hs => ?_⟩
  obtain ⟨W', hx', hS'⟩ := hS.wrD ho hs hD' (prel_del hr)
  exact hP W' mm _ _ hx' hS' Same.mk' (hrz.ext hx')
theorem ρ_apart {m : Str → Option Value} {st : S} {s : Shared} (hS : St g W m st s) {i j : Nat} {fs fs' : List (Str × V)} (hi : st.heap i = some (.inst fs)) (hj : st.heap j = some (.inst fs')) (h : i ≠ j) : W.ρ i ≠ W.ρ j := fun e => by
 have h1 := hS.inv.lown i _ hi trivial
 rw [e, hS.inv.lown j _ hj trivial] at h1
 exact h (by injection h1 with h1; injection h1 with h1; exact h1.symm)
theorem hit_bool {A : Around} {b : Bool} {Q : Bool → Shared → Prop} {E : Value → Shared → Prop} {s : Shared} {M : Model} (h : Q b s) : wpAny M A (truthOfDropped (.bool b)) Q E s := wpAny_truthy_bool h
theorem boolOf_some {v : V} {b : Bool} (e : boolOf v = some b) : v = .bool b := by
 cases v with
 | bool j => obtain rfl := sj e; rfl
 | _ => nomatch e
theorem sim_hit (C : CxOk g.c) (F : FnSim g.c g.d) {x v : V} {u z : Value} (hx : VRel W x u) (hv : VRel W v z) : Sim g W (eqBool u z) (hitM g.c.P (phi g.c.P g.d) g.hd x v) (fun _ b b' => b' = b) := by
 intro A W₁ mm st s Q E hA hxt hS hP
 replace hP := Post.get hP; obtain ⟨_, hc, hP⟩ := hP
 have hc : (isInst st.heap x && isInst st.heap v) = true := by
  by_cases q : (isInst st.heap x && isInst st.heap v) = true
  ·exact q
  ·rw [if_neg q] at hc; exact zN hc
 obtain ⟨h1, h2⟩ := Bool.and_eq_true_iff.mp hc
 obtain ⟨i, fs, rfl, hi⟩ := isInst_some h1
 obtain ⟨j, fs', rfl, hj⟩ := isInst_some h2
 obtain ⟨il, rfl⟩ := hx.ext hxt
 obtain ⟨jl, rfl⟩ := hv.ext hxt
 unfold eqBool
 refine wpAny_holding ?_
 by_cases hij : i = j
 ·subst hij
  rw [if_pos rfl] at hP
  show wpAny _ _ (if (Value.ref (W₁.ρ i) == Value.ref (W₁.ρ i)) = true then _ else _) Q E s
  rw [if_pos (by simp)]
  exact wpAny_bind (wpAny_rule (wpAny_pure (hP W₁ mm s _ (Ext.refl _) hS (Same.refl _) rfl)))
 ·rw [if_neg (fun q => hij (V.ref.inj q))] at hP
  have hne := ρ_apart hS hi hj hij
  show wpAny _ _ (if (Value.ref (W₁.ρ i) == Value.ref (W₁.ρ j)) = true then _ else _) Q E s
  rw [if_neg (by simp [hne])]
  refine wpAny_bind (sim_cmpObj C F (op := .Eq) (n := "__eq__") rfl il (show VRel W₁ (.ref j) (.ref (W₁.ρ j)) from ⟨jl, rfl⟩) hA (Ext.refl _) hS hi (by rw [h2]; rfl) (hP.bind fun b st' W' mm' s' a hx' hS' hs' hr hP' => ?_))
  replace hP' := Post.get0 hP'; obtain ⟨c, hc, hP'⟩ := hP'
  obtain rfl := boolOf_some hc
  obtain rfl : a = .bool c := hr
  exact hit_bool (hP' W' mm' s' c (Ext.refl _) hS' (Same.refl _) rfl)
theorem handled_up {A : Around} : A.in1.handled = A.handled := rfl
theorem remove_turns (C : CxOk g.c) (F : FnSim g.c g.d) (hk : g.k + 1 ≤ 6) {i : Nat} {v : V} {u : Value} (hi : i < W.n) (hv : VRel W v u) {A : Around} (hA : AOk g A) (hhd : A.handled = none) {Q : Value → Shared → Prop} {E : Value → Shared → Prop} : ∀ (n k : Nat) {W₁ : Wd} {mm : Str → Option Value} {st : S} {s : Shared}, Ext W W₁ → St g W₁ mm st s →
  Post g W₁ s VR Q E (removeN g.c.P (phi g.c.P g.d) g.hd i v n k st) →
  wpAny (model g.c.prog g.c.w) A.in1 (Builtin.«list.remove.loop» ⟨[.ref (W.ρ i), u, rawInt (k : Int)], []⟩) (fun fin s' => match fin with | .done f => wants Q E (.ok f) s' | .again c' => c'.quiet = true ∧ codeAny (model g.c.prog g.c.w) A c' (wants Q E) s') (fun e s' => wants Q E (.error e) s') s
 | 0, _, _, _, _, _, _, _, hP => hP.elim
 | n + 1, k, W₁, mm, st, s, hx, hS, hP => by
  replace hP := Post.get hP; obtain ⟨ys, ho, hP⟩ := hP
  have ho' := listAt_some ho
  obtain ⟨vs, m, hat, hr⟩ := hS.inv.own i _ ho'
  rw [hx.eq i hi] at hat
  cases hyk : ys[k]? with
  | none =>
   rw [hyk] at hP
   have hnone : vs.toArray[((k : Nat) : Int).toNat]? = none := by simpa using hr.none hyk
   have hP : Post g W₁ s VR Q E (.exc .value st) := hP
   obtain ⟨hp, gg, dd, tk, os⟩ := s
   wp_walk using wpAny_loadPart' hat
   rw [hnone]
   wp_walk
   exact_raiseError PySem.plainExc_ValueError hhd (fun h' tk' e hx' => (thrown_new (x := .value) (tk := tk') hS (clsIs_of (by decide)) hx').elim fun hS' hT => hP W₁ mm _ _ (Ext.refl _) hS' Same.mk' hT)
  | some x =>
   rw [hyk] at hP
   obtain ⟨z, hz, hvz⟩ := hr.get hyk
   have hsome : vs.toArray[((k : Nat) : Int).toNat]? = some z := by simpa using hz
   have hit := sim_hit (g := g.up) C F hvz (hv.ext hx) A.in1 W₁ mm st s
   obtain ⟨hp, gg, dd, tk, os⟩ := s
   wp_walk using wpAny_loadPart' hat
   rw [hsome]
   refine wpAny_bind (hit _ _ (hA.up hk) (Ext.refl _) hS.up (Post.up (hP.bind fun c st' W' mm' s' c' hx' hS' hs' hc hP' => ?_)))
   obtain rfl : c' = c := hc
   cases c' with
   | true =>
    replace hP' := Post.get hP'; obtain ⟨zs, hzs, hP'⟩ := hP'
    replace hP' := Post.ite hP'; obtain ⟨hlt, hP'⟩ := hP'
    have hzs' := listAt_some hzs
    obtain ⟨ws, m', hat', hr'⟩ := hS'.inv.own i _ hzs'
    rw [(hx.trans hx').eq i hi] at hat'
    obtain ⟨hlt, hsz⟩ := hlt
    have hlen := hr'.length
    have hs1 : ws.toArray.size ≤ sizeLine := by rw [List.size_toArray, sizeLine_eq]; lia
    have hz' : (ws.toArray.eraseIdxIfInBounds k).size ≤ sizeLine + 1 := Nat.le_trans (MeetsSeq.size_erased ws.toArray _) (Nat.le_succ_of_le hs1)
    have hI := hS'.inv.setOwn hzs' (h' := s'.heap.update (W.ρ i) (Obj.mapSeq fun xs => xs.eraseIdxIfInBounds k)) (by rw [(hx.trans hx').eq i hi]; exact Heap.SameBut.update ..) (o' := .list (zs.eraseIdx k)) ⟨ws.eraseIdx k, m' + 1, by
     rw [(hx.trans hx').eq i hi, Heap.get?_update_self _ hat' rfl]
     have hw : k < ws.length := hlen ▸ hlt
     simp [Obj.mapSeq, Array.eraseIdxIfInBounds, hw]
     rw [List.length_eraseIdx_of_lt hw]; lia, hr'.eraseIdx⟩ (fun ⟨_, e⟩ => (by contradiction))
    have fin := hP' W' mm' { s' with heap := s'.heap.update (W.ρ i) (Obj.mapSeq fun xs => xs.eraseIdxIfInBounds k) } .none (Ext.refl _) ⟨hI, hS'.next, hS'.loc⟩ Same.heap rfl
    obtain ⟨hp', gg', dd', tk', os'⟩ := s'
    rw [if_pos rfl]
    wp_walk using (wpAny_updateSeq hat' rfl (hz := hs1) (_hz' := hz')), wpAny_loadPart' hat'
    exact fin
   | false =>
    have hc : ((k : Int) + 1) = ((k + 1 : Nat) : Int) := rfl
    rw [if_neg Bool.false_ne_true]
    rw [hc]
    exact wpAny_pure ⟨plainId_quiet MeetsSeq.plain_remove_loop _, codeAny_builtin MeetsSeq.entry_remove_loop (by
     rw [Around.under_plainId MeetsSeq.plain_remove_loop _]
     exact remove_turns C F hk hi hv hA hhd n (k + 1) (hx.trans hx') hS' hP')⟩
theorem sim_remove (C : CxOk g.c) (F : FnSim g.c g.d) (hk : g.k + 1 ≤ 6) (hhd : g.hd = false) {i : Nat} {v : V} {u : Value} (hi : i < W.n) (hv : VRel W v u) :
  Sim g W (call (.builtin "list.remove") [.ref (W.ρ i), u]) (removeN g.c.P (phi g.c.P g.d) g.hd i v wlim 0) VR := by
 intro A W₁ mm st s Q E hA hx hS hP
 have hh : A.handled = none := by
  rcases hA.hd with q | q
  ·exact q
  ·rw [hhd] at q; exact zF q.1
 have hT : s.TypeIs (.ref (W.ρ i)) "list" := by
  have hP' : Post g W₁ s VR Q E ((rdL i >>= fun ys => match ys[0]? with
   | none => throwM .value
   | some x => hitM g.c.P (phi g.c.P g.d) g.hd x v >>= fun c => if c then cutM i 0 else removeN g.c.P (phi g.c.P g.d) g.hd i v 99 1) st) := hP
  replace hP' := Post.get hP'; obtain ⟨ys, ho, _⟩ := hP'
  obtain ⟨vs, m, hat, _⟩ := hS.inv.own i _ (listAt_some ho)
  rw [hx.eq i hi] at hat
  exact ⟨_, hat, rfl⟩
 refine call_meetsIn PySem.F.slot_list_remove hT PySem.F.entry_list_remove (PySem.F.args_list_remove_2 _ _) (S := fun A' R s' => A' = A ∧ R = wants Q E ∧ s' = s) ?_ ⟨rfl, rfl, rfl⟩
 rintro A' R s' ⟨rfl, rfl, rfl⟩
 have key := remove_turns C F hk hi hv hA hh wlim 0 hx hS hP
 obtain ⟨hp, gg, dd, tk, os⟩ := s'
 wp_walk
 exact ⟨plainId_quiet MeetsSeq.plain_remove_loop _, codeAny_builtin MeetsSeq.entry_remove_loop (by
  rw [Around.under_plainId MeetsSeq.plain_remove_loop _]
  exact key)⟩
end
end
section
section
variable {g : G} {W : Wd} {ev : AEnv} {env : Env} {P : PI} {Φ : Phi}
theorem bR {α β : Type} (m : M α) (f : α → M β) (st : S) : (m >>= f) st = (match m st with | .fail => .fail | .ok a s' => f a s' | .exc x s' => .exc x s') := rfl
theorem bind_assoc' {α β γ : Type} (m : M α) (f : α → M β) (k : β → M γ) : (m >>= f) >>= k = m >>= fun a => f a >>= k := by
 funext st
 rw [bR, bR, bR]
 cases m st <;> rfl
theorem starEach_cons {e : Expr} {r : List Expr} (h : starred e = false) : starEach (e :: r) env = (false, eval e env) :: starEach r env := by
 cases e <;> first | rfl | nomatch h
theorem starEach_plain {pos : Pos} : ∀ (es : List Expr), (es.all fun e => !starred e) = true → backTo pos (starEach es env) = (evalEach es env).map fun t => (false, t)
 | [], _ => rfl
 | e :: r, h => by
  rw [List.all_cons, Bool.and_eq_true] at h
  rw [starEach_cons (by simpa using h.1)]
  show (false, eval _ env) :: backTo pos (starEach r env) = _
  rw [starEach_plain (pos := pos) r h.2]
  rfl
noncomputable def SimEach (g : G) (W : Wd) : List (Sem Value) → List (M V) → Prop
 | [], [] => True
 | t :: ts, m :: ms => Sim g W t m VR ∧ SimEach g W ts ms
 | _, _ => False
theorem SimEach.start {W W' : Wd} (x : Ext W W') : ∀ {ts : List (Sem Value)} {ms : List (M V)}, SimEach g W ts ms → SimEach g W' ts ms
 | [], [], _ => trivial
 | _ :: _, _ :: _, h => ⟨h.1.start x, SimEach.start x h.2⟩
 | [], _ :: _, h => h.elim
 | _ :: _, [], h => h.elim
noncomputable def allM : List (M V) → M (List V)
 | [] => pure []
 | m :: ms => m >>= fun v => allM ms >>= fun vs => pure (v :: vs)
theorem denEs_all : ∀ es : List Expr, denEs P Φ ev es = allM (denEach P Φ ev es)
 | [] => rfl
 | e :: r => by
  show (denE P Φ ev e >>= fun v => denEs P Φ ev r >>= fun vs => pure (v :: vs)) = (denE P Φ ev e >>= fun v => allM (denEach P Φ ev r) >>= fun vs => pure (v :: vs))
  rw [denEs_all r]
theorem sim_spliced : ∀ {W : Wd} {ts : List (Sem Value)} {ms : List (M V)}, SimEach g W ts ms → Sim g W (spliced (ts.map fun t => (false, t))) (allM ms) (fun W vs us => VsRel W vs us ∧ us.length = ts.length)
 | W, [], [], _ => Sim.pure fun _ _ => ⟨trivial, rfl⟩
 | W, t :: ts, m :: ms, h => by
  show Sim g W (t >>= fun v => (pure [v] : Sem (List Value)) >>= fun here => holding here (spliced (ts.map fun t => (false, t))) >>= fun r => pure (here ++ r)) _ _
  refine h.1.bind fun W₁ v u hx hv => ?_
  show Sim g W₁ (holding [u] (spliced (ts.map fun t => (false, t))) >>= fun r => pure ([u] ++ r)) (allM ms >>= fun vs => pure (v :: vs)) _
  refine Sim.tail (k := fun vs => v :: vs) (f := fun r => [u] ++ r) (Sim.holding (sim_spliced (h.2.start hx))) fun W' b a hx' hr W'' hx'' => ⟨⟨(hv.ext hx').ext hx'', hr.1.ext hx''⟩, congrArg (· + 1) hr.2⟩
 | _, [], _ :: _, h => h.elim
 | _, _ :: _, [], h => h.elim
noncomputable def SimT {α β : Type} (g : G) (W₀ : Wd) (T : Around → (α → Shared → Prop) → (Value → Shared → Prop) → Shared → Prop) (m : M β) (R : Wd → β → α → Prop) : Prop :=
 ∀ (A : Around) (W : Wd) (mm : Str → Option Value) (st : S) (s : Shared) (Q : α → Shared → Prop) (E : Value → Shared → Prop),
  AOk g A → Ext W₀ W → St g W mm st s → Post g W s R Q E (m st) → T A Q E s
section
variable {α β γ δ : Type}
theorem Sim.toT {t : Sem α} {m : M β} {R : Wd → β → α → Prop} (h : Sim g W t m R) : SimT g W (fun A Q E s => wpAny (model g.c.prog g.c.w) A t Q E s) m R := h
theorem SimT.via {t : Sem α} {T : Around → (α → Shared → Prop) → (Value → Shared → Prop) → Shared → Prop} {m : M β} {R : Wd → β → α → Prop} (hw : ∀ A Q E s, AOk g A → T A Q E s → wpAny (model g.c.prog g.c.w) A t Q E s) (h : SimT g W T m R) : Sim g W t m R :=
 fun A W₁ mm st s Q E hA hx hS hP => hw _ _ _ _ hA (h A W₁ mm st s Q E hA hx hS hP)
theorem SimT.ret {a : α} {b : β} {R : Wd → β → α → Prop} (h : ∀ W', Ext W W' → R W' b a) : SimT g W (fun _ Q _ s => Q a s) (pure b : M β) R :=
 fun _ W₁ mm st s _ _ _ hx hS hP => hP W₁ mm s a (Ext.refl _) hS (Same.refl _) (h _ hx)
theorem SimT.seq {T : Around → (α → Shared → Prop) → (Value → Shared → Prop) → Shared → Prop} {T' : α → Around → (γ → Shared → Prop) → (Value → Shared → Prop) → Shared → Prop} {m : M β} {k : β → M δ} {R : Wd → β → α → Prop} {R' : Wd → δ → γ → Prop}
  (h : SimT g W T m R) (h' : ∀ W₁ b a, Ext W W₁ → R W₁ b a → SimT g W₁ (T' a) (k b) R') : SimT g W (fun A Q E s => T A (fun a s' => T' a A Q E s') E s) (m >>= k) R' :=
 fun A W₁ mm st s Q E hA hx hS hP => h A W₁ mm st s _ E hA hx hS (hP.bind fun b st' W' mm' s' a hx' hS' _ hr hP' => h' W' b a (hx.trans hx') hr A W' mm' st' s' Q E hA (Ext.refl _) hS' hP')
end
noncomputable def kwM : List (Option Str) → List (M V) → M (List (Str × V))
 | [], [] => pure []
 | n :: ns, m :: ms => m >>= fun v => kwM ns ms >>= fun vs => pure ((n.getD "", v) :: vs)
 | _, _ => failM
theorem denKws_kwM : ∀ ks : List Keyword, denKws P Φ ev ks = kwM (ks.map (·.arg)) (denEach P Φ ev (ks.map (·.value)))
 | [] => rfl
 | ⟨n, e, p⟩ :: r => by
  show (denE P Φ ev e >>= fun v => denKws P Φ ev r >>= fun vs => pure ((n.getD "", v) :: vs)) = (denE P Φ ev e >>= fun v => kwM (r.map (·.arg)) (denEach P Φ ev (r.map (·.value))) >>= fun vs => pure ((n.getD "", v) :: vs))
  rw [denKws_kwM r]
theorem sim_kws : ∀ {W : Wd} {ns : List (Option Str)} {ts : List (Sem Value)} {ms : List (M V)}, SimEach g W ts ms → Sim g W (evalAll ts) (kwM ns ms) (fun W kv us => VsRel W (kv.map (·.2)) us ∧ kv.map (·.1) = ns.map (·.getD ""))
 | W, [], [], [], _ => Sim.pure fun _ _ => ⟨trivial, rfl⟩
 | W, n :: ns, t :: ts, m :: ms, h => by
  show Sim g W (t >>= fun v => holding [v] (evalAll ts) >>= fun r => pure (v :: r)) _ _
  refine h.1.bind fun W₁ v u hx hv => ?_
  exact Sim.tail (k := fun vs => (n.getD "", v) :: vs) (f := fun r => u :: r) (Sim.holding (sim_kws (ns := ns) (h.2.start hx))) fun W' b a hx' hr W'' hx'' => ⟨⟨(hv.ext hx').ext hx'', hr.1.ext hx''⟩, congrArg (n.getD "" :: ·) hr.2⟩
 | _, [], _ :: _, _ :: _, _ => Sim.fail
 | _, _ :: _, [], [], _ => Sim.fail
 | _, _, [], _ :: _, h => h.elim
 | _, _, _ :: _, [], h => h.elim
theorem krel_of : ∀ {W : Wd} {kv : List (Str × V)} {us : List Value}, VsRel W (kv.map (·.2)) us → KRel W kv ((kv.map (·.1)).zip us)
 | _, [], [], _ => trivial
 | _, (x, v) :: kv, u :: us, h => ⟨rfl, h.1, krel_of h.2⟩
 | _, [], _ :: _, h => h.elim
 | _, _ :: _, [], h => h.elim
theorem names_of {α : Type} : ∀ {kws : List (Option Str × α)}, kws.all (·.1.isSome) = true → kws.filterMap (·.1) = (kws.map (·.1)).map (·.getD "")
 | [], _ => rfl
 | (some n, a) :: r, h => congrArg (n :: ·) (names_of h)
 | (none, _) :: _, h => zF h
noncomputable def ARel (W : Wd) (p : List V × List (Str × V)) (a : Args) : Prop := VsRel W p.1 a.pos ∧ KRel W p.2 a.kw
theorem sim_evalArgs {f : Value} {ts : List (Sem Value)} {ms : List (M V)} {kws : List (Option Str × Sem Value)} {ns : List (Option Str)} {ks : List (M V)} (hn : kws.map (·.1) = ns) (hall : kws.all (·.1.isSome) = true)
  (hs : SimEach g W ts ms) (hk : ∀ W', Ext W W' → SimEach g W' (kws.map (·.2)) ks) :
  Sim g W (evalArgs f true (ts.map fun t => (false, t)) kws) (allM ms >>= fun vs => kwM ns ks >>= fun kv => pure (vs, kv)) ARel := by
 have tail : ∀ W₁ vs us, Ext W W₁ → VsRel W₁ vs us → SimT g W₁ (fun A (Q : Args → Shared → Prop) E s => wpAny (model g.c.prog g.c.w) A (evalAll (kws.map (·.2))) (fun ks s₂ => Q ⟨us, (kws.filterMap (·.1)).zip ks⟩ s₂) E s) (kwM ns ks >>= fun kv => pure (vs, kv)) ARel := by
  intro W₁ vs us hx hv
  refine SimT.seq (sim_kws (ns := ns) (hk W₁ hx)).toT fun W₂ kv zs hx₂ hz => SimT.ret fun W₃ hx₃ => ⟨(hv.ext hx₂).ext hx₃, ?_⟩
  rw [names_of hall, hn, ← hz.2]
  exact krel_of (hz.1.ext hx₃)
 cases ts with
 | nil =>
  cases ms with
  | nil => exact SimT.via (fun A Q E s _ h => evalArgs_kw_nil hall h) (tail W [] [] (Ext.refl _) trivial)
  | cons _ _ => exact hs.elim
 | cons t ts => exact SimT.via (fun A Q E s _ h => evalArgs_kw hall h) (SimT.seq (sim_spliced hs).toT fun W₁ vs us hx hv => tail W₁ vs us hx hv.1)
theorem sim_callT {γ δ : Type} (C : CxOk g.c) {f : Value} {first : List Value} {pos : Pos} {ts : List (Sem Value)} {ms : List (M V)} {kws : List (Option Str × Sem Value)} {ns : List (Option Str)} {ks : List (M V)} {k : List V → List (Str × V) → M δ} {R : Wd → δ → γ → Prop}
  {T : Value → Around → (γ → Shared → Prop) → (Value → Shared → Prop) → Shared → Prop} (hn : kws.map (·.1) = ns) (hall : kws.all (·.1.isSome) = true)
  (hkeep : ∀ h, g.c.K.In h → ∃ k, (k = Keeper.frame ∨ k = Keeper.machine ∨ k = Keeper.boundFrame) ∧ Looks (model g.c.prog g.c.w) h (keeperOf f) k)
  (hs : SimEach g W ts ms) (hk : ∀ W', Ext W W' → SimEach g W' (kws.map (·.2)) ks)
  (hc : ∀ W₁ vs us kv kw, Ext W W₁ → VsRel W₁ vs us → KRel W₁ kv kw → SimT g W₁ (fun A Q E s => wpAny (model g.c.prog g.c.w) A (call f (first ++ us) kw) (fun v s' => T v A Q E s') E s) (k vs kv) R) :
  SimT g W (fun A Q E s => wpAny (model g.c.prog g.c.w) A (callWith pos f first (ts.map fun t => (false, t)) kws) (fun v s' => T v A Q E s') E s) (allM ms >>= fun vs => kwM ns ks >>= fun kv => k vs kv) R := by
 have hplain : ((ts.map fun t => (false, t)).any (·.1) || kws.any (·.1.isNone)) = false := by
  have h1 : ((ts.map fun t => ((false, t) : Bool × Sem Value)).any (·.1)) = false := by
   rw [List.any_map, List.any_eq_false]
   exact fun _ _ h => zF h
  have h2 : kws.any (·.1.isNone) = false := by
   rw [List.any_eq_false]
   intro p hp
   have := List.all_eq_true.mp hall p hp
   cases q : p.1 with
   | none => rw [q] at this; exact zF this
   | some _ => exact Bool.false_ne_true
  rw [h1, h2]; rfl
 have main := SimT.seq (R' := R) (k := fun p => k p.1 p.2) (T' := fun a A Q E s => g.c.K.In s.heap ∧ wpAny (model g.c.prog g.c.w) A (call f (first ++ a.pos) a.kw) (fun v s' => T v A Q E s') E s) (sim_evalArgs (f := f) hn hall hs hk).toT fun W₁ p a hx hr => by
  intro A W₂ mm st s Q E hA hx₂ hS hP
  exact ⟨in_base C hS, hc W₁ p.1 a.pos p.2 a.kw hx hr.1 hr.2 A W₂ mm st s Q E hA hx₂ hS hP⟩
 have e : ((allM ms >>= fun vs => kwM ns ks >>= fun kv => pure (vs, kv)) >>= fun p => k p.1 p.2 : M δ) = (allM ms >>= fun vs => kwM ns ks >>= fun kv => k vs kv) := by
  rw [bind_assoc']
  refine congrArg (allM ms >>= ·) (funext fun vs => ?_)
  rw [bind_assoc']
  rfl
 rw [← e]
 exact fun A W₁ mm st s Q E hA hx hS hP => callWith_of hplain hkeep (main A W₁ mm st s Q E hA hx hS hP)
theorem sim_callWith (C : CxOk g.c) {f : Value} {first : List Value} {pos : Pos} {ts : List (Sem Value)} {ms : List (M V)} {kws : List (Option Str × Sem Value)} {ns : List (Option Str)} {ks : List (M V)} {k : List V → List (Str × V) → M V}
  (hn : kws.map (·.1) = ns) (hall : kws.all (·.1.isSome) = true)
  (hkeep : ∀ h, g.c.K.In h → ∃ k, (k = Keeper.frame ∨ k = Keeper.machine ∨ k = Keeper.boundFrame) ∧ Looks (model g.c.prog g.c.w) h (keeperOf f) k)
  (hs : SimEach g W ts ms) (hk : ∀ W', Ext W W' → SimEach g W' (kws.map (·.2)) ks)
  (hc : ∀ W₁ vs us kv kw, Ext W W₁ → VsRel W₁ vs us → KRel W₁ kv kw → Sim g W₁ (call f (first ++ us) kw) (k vs kv) VR) :
  Sim g W (callWith pos f first (ts.map fun t => (false, t)) kws) (allM ms >>= fun vs => kwM ns ks >>= fun kv => k vs kv) VR :=
 sim_callT (T := fun v _ Q _ s => Q v s) C hn hall hkeep hs hk hc
end
end
section
structure Gd (g : G) : Prop where
 C : CxOk g.c
 F : FnSim g.c g.d
 k : g.k ≤ 2
section
variable {g : G} {W : Wd} {ev : AEnv} {env : Env}
theorem Sim.ite {α β : Type} {p : Prop} [Decidable p] {t : Sem α} {m : M β} {R : Wd → β → α → Prop} (h : p → Sim g W t m R) : Sim g W t (if p then m else failM) R := by
 by_cases q : p
 ·rw [if_pos q]; exact h q
 ·rw [if_neg q]; exact Sim.fail
theorem testV_nil {P : PI} {Φ : Phi} {hd : Bool} {a : V} {ms : List (M V)} : testV P Φ hd a [] ms = failM := by cases ms <;> rfl
theorem testV_cons {P : PI} {Φ : Phi} {hd : Bool} {a : V} {op : CmpOp} {ops : List CmpOp} {m : M V} {ms : List (M V)} (h : ¬ (ops = [] ∧ ms = [])) : testV P Φ hd a (op :: ops) (m :: ms) = (do
  let b ← m
  match ← compareV P Φ hd op a b with
  | .bool true => testV P Φ hd b ops ms
  | .bool false => pure false
  | _ => failM) := by
 cases ops <;> cases ms <;> first | (exact absurd ⟨rfl, rfl⟩ h) | rfl
theorem testChain_cons {pos : Pos} {a : Value} {op : CmpOp} {ops : List CmpOp} {m : Sem Value} {ms : List (Sem Value)} (h : ¬ (ops = [] ∧ ms = [])) : testChain pos a (op :: ops) (m :: ms) = (do
  let rv ← holding [a] m
  standAt pos
  let c ← holding [a, rv] (compareOp op a rv)
  release [a, rv] [c]
  if ← holding [c, rv] (truthy c) then testChain pos rv ops ms else pure false) := by
 cases ops <;> cases ms <;> first | (exact absurd ⟨rfl, rfl⟩ h) | rfl
theorem SimEach.nil_iff {ts : List (Sem Value)} {ms : List (M V)} (h : SimEach g W ts ms) : ts = [] ↔ ms = [] := by
 cases ts <;> cases ms <;> first | (simp; done) | exact h.elim
theorem Sim.release {α β : Type} {vs keep : List Value} {f : Unit → Sem α} {m : M β} {R : Wd → β → α → Prop} (h : Sim g W (f ()) m R) : Sim g W (PySem.release vs keep >>= f) m R := h.via fun _ _ _ _ x => wpAny_bind (wpAny_release x)
theorem sim_boolc {β : Type} {b : Bool} {f : Bool → Sem Value} {m : M β} {R : Wd → β → Value → Prop} {vs : List Value} (h : Sim g W (f b) m R) : Sim g W (PySem.holding vs (truthy (.bool b)) >>= f) m R :=
 h.via fun _ _ _ _ x => wpAny_bind (wpAny_holding (wpAny_truthy_bool x))
theorem sim_boolb {β : Type} {b : Bool} {f : Bool → Sem Bool} {m : M β} {R : Wd → β → Bool → Prop} {vs : List Value} (h : Sim g W (f b) m R) : Sim g W (PySem.holding vs (truthy (.bool b)) >>= f) m R :=
 h.via fun _ _ _ _ x => wpAny_bind (wpAny_holding (wpAny_truthy_bool x))
theorem chainV_nil {P : PI} {Φ : Phi} {hd : Bool} {a : V} {ms : List (M V)} : chainV P Φ hd a [] ms = failM := by cases ms <;> rfl
theorem chainV_cons {P : PI} {Φ : Phi} {hd : Bool} {a : V} {op : CmpOp} {ops : List CmpOp} {m : M V} {ms : List (M V)} (h : ¬ (ops = [] ∧ ms = [])) : chainV P Φ hd a (op :: ops) (m :: ms) = (do
  let b ← m
  match ← compareV P Φ hd op a b with
  | .bool true => chainV P Φ hd b ops ms
  | .bool false => pure (.bool false)
  | _ => failM) := by
 cases ops <;> cases ms <;> first | (exact absurd ⟨rfl, rfl⟩ h) | rfl
theorem compareChain_cons {pos : Pos} {a : Value} {op : CmpOp} {ops : List CmpOp} {m : Sem Value} {ms : List (Sem Value)} (h : ¬ (ops = [] ∧ ms = [])) : compareChain pos a (op :: ops) (m :: ms) = (do
  let rv ← holding [a] m
  standAt pos
  let c ← holding [a, rv] (compareOp op a rv)
  release [a, rv] [c]
  if ← holding [c, rv] (truthy c) then compareChain pos rv ops ms else pure c) := by
 cases ops <;> cases ms <;> first | (exact absurd ⟨rfl, rfl⟩ h) | rfl
theorem sim_chain (D : Gd g) {pos : Pos} : ∀ (ops : List CmpOp) {W : Wd} {a : V} {u : Value} {ts : List (Sem Value)} {ms : List (M V)}, VRel W a u → SimEach g W ts ms →
  Sim g W (compareChain pos u ops ts) (chainV g.c.P (phi g.c.P g.d) g.hd a ops ms) VR
 | [], W, a, u, ts, ms, ha, h => by rw [chainV_nil]; exact Sim.fail
 | op :: ops, W, a, u, [], [], ha, h => by cases ops <;> exact Sim.fail
 | _ :: _, _, _, _, [], _ :: _, _, h => h.elim
 | _ :: _, _, _, _, _ :: _, [], _, h => h.elim
 | op :: ops, W, a, u, t :: ts, m :: ms, ha, h => by
  by_cases q : ops = [] ∧ ms = []
  ·obtain ⟨rfl, rfl⟩ := q
   obtain rfl : ts = [] := h.2.nil_iff.mpr rfl
   exact (Sim.holding h.1).bind fun W₁ b z hx hb => Sim.standAt (Sim.operate (sim_compare D.C D.F (ha.ext hx) hb))
  ·rw [chainV_cons q, compareChain_cons (fun z => q ⟨z.1, h.2.nil_iff.mp z.2⟩)]
   refine (Sim.holding h.1).bind fun W₁ b z hx hb => ?_
   refine Sim.standAt ((Sim.holding (sim_compare D.C D.F (ha.ext hx) hb)).bind fun W₂ r y hx₂ hr => ?_)
   refine Sim.release ?_
   cases r with
   | bool b' =>
    obtain rfl : y = .bool b' := hr
    refine sim_boolc ?_
    cases b' with
    | true => exact sim_chain D ops (hb.ext hx₂) ((h.2.start hx).start hx₂)
    | false => exact Sim.pure fun _ _ => rfl
   | _ => exact Sim.fail
theorem sim_test (D : Gd g) {pos : Pos} : ∀ (ops : List CmpOp) {W : Wd} {a : V} {u : Value} {ts : List (Sem Value)} {ms : List (M V)}, VRel W a u → SimEach g W ts ms →
  Sim g W (testChain pos u ops ts) (testV g.c.P (phi g.c.P g.d) g.hd a ops ms) (fun _ b b' => b' = b)
 | [], W, a, u, ts, ms, ha, h => by rw [testV_nil]; exact Sim.fail
 | op :: ops, W, a, u, [], [], ha, h => by cases ops <;> exact Sim.fail
 | _ :: _, _, _, _, [], _ :: _, _, h => h.elim
 | _ :: _, _, _, _, _ :: _, [], _, h => h.elim
 | op :: ops, W, a, u, t :: ts, m :: ms, ha, h => by
  by_cases q : ops = [] ∧ ms = []
  ·obtain ⟨rfl, rfl⟩ := q
   obtain rfl : ts = [] := h.2.nil_iff.mpr rfl
   refine (Sim.holding h.1).bind fun W₁ b z hx hb => ?_
   refine Sim.standAt ((Sim.operate (sim_compare D.C D.F (ha.ext hx) hb)).bind fun W₂ r y hx₂ hr => ?_)
   cases r with
   | bool b' =>
    obtain rfl : y = .bool b' := hr
    exact fun A W₃ mm st s Q E hA hx₃ hS hP => wpAny_holding (wpAny_truthy_bool (hP W₃ mm s _ (Ext.refl _) hS (Same.refl _) rfl))
   | _ => exact Sim.fail
  ·rw [testV_cons q, testChain_cons (fun z => q ⟨z.1, h.2.nil_iff.mp z.2⟩)]
   refine (Sim.holding h.1).bind fun W₁ b z hx hb => ?_
   refine Sim.standAt ((Sim.holding (sim_compare D.C D.F (ha.ext hx) hb)).bind fun W₂ r y hx₂ hr => ?_)
   refine Sim.release ?_
   cases r with
   | bool b' =>
    obtain rfl : y = .bool b' := hr
    refine sim_boolb ?_
    cases b' with
    | true => exact sim_test D ops (hb.ext hx₂) ((h.2.start hx).start hx₂)
    | false => exact Sim.pure fun _ _ => rfl
   | _ => exact Sim.fail
theorem sim_marked {P : PI} {Φ : Phi} : ∀ (ops : List CmpOp) (es : List Expr), SimEach g W (evalEach es env) (denEach P Φ ev es) → SimEach g W (markedEach ops es (evalEach es env)) (denEach P Φ ev es)
 | [], es, h => by cases es <;> exact h
 | _ :: _, [], h => by cases ‹List CmpOp› <;> exact h
 | [op], [e], h => by
  refine ⟨?_, trivial⟩
  cases q : behindInMarks op e with
  | false => rw [markedBehindIn_of_false q]; exact h.1
  | true =>
   cases e <;> first | (simp [behindInMarks] at q; done) | exact Sim.fail
 | op :: op' :: ops, e :: es, h => ⟨h.1, sim_marked (op' :: ops) es h.2⟩
 | [op], e :: e' :: es, h => ⟨h.1, sim_marked [] (e' :: es) h.2⟩
noncomputable def CallRel (c : Cx) (n : Str) (W : Wd) (k : Callee × Nat) (p : Value × List Value) : Prop := k.2 < W.n ∧ p.2 = [.ref (W.ρ k.2)] ∧ match k.1 with
 | .inst => ∃ fa code, p.1 = .ref fa ∧ c.P.code (.meth n) = some code ∧ FnOk c code fa
 | .append => p.1 = .builtin "list.append"
 | .lpop => p.1 = .builtin "list.pop"
 | .remove => p.1 = .builtin "list.remove"
 | .dpop => p.1 = .builtin "dict.pop"
theorem sim_callee (D : Gd g) {v : V} {u : Value} {n : Str} {pl : Sem Bool} (hv : VRel W v u) : Sim g W (getMethod u n pl) (calleeM g.c.P v n) (CallRel g.c n) := by
 intro A W₁ mm st s Q E hA hx hS hP
 replace hP := Post.get hP; obtain ⟨i, hi, hP⟩ := hP
 obtain rfl := rO hi
 obtain ⟨hi, rfl⟩ := hv.ext hx
 replace hP := Post.get hP; obtain ⟨o, ho, hP⟩ := hP
 have fin : ∀ {k : Callee} {p : Value × List Value}, calleeO g.c.P o n st = .ok k st → CallRel g.c n W₁ (k, i) p → Q p s := fun {k p} e r => by
  rw [bR, e] at hP
  exact hP W₁ mm _ _ (Ext.refl _) hS (Same.refl _) r
 have bad : calleeO g.c.P o n st = .fail → False := fun e => by
  rw [bR, e] at hP
  exact hP
 cases o with
 | inst fs =>
  by_cases h1 : (getR n fs).isSome = true
  ·exact (bad (by unfold calleeO; dsimp only; rw [if_pos h1]; rfl)).elim
  by_cases h2 : (g.c.P.code (.meth n)).isSome = true
  ·obtain ⟨code, hc⟩ := Option.isSome_iff_exists.mp h2
   obtain ⟨fa, hfa, hfn⟩ := D.C.fn _ _ hc
   obtain ⟨ds, k, I, hf⟩ := inst_at hS.inv ho
   have hnone : getR n fs = none := Option.not_isSome_iff_eq_none.mp h1
   refine method_inst hS.inv.toFr D.C.X I (D.C.get _) hfa.1 hfa.2 (frel_none hf hnone) ?_
   exact fin (k := .inst) (by unfold calleeO; dsimp only; rw [if_neg h1, if_pos h2]; rfl) ⟨hi, rfl, fa, code, rfl, hc, hfn⟩
  ·exact (bad (by unfold calleeO; dsimp only; rw [if_neg h1, if_neg h2]; rfl)).elim
 | list xs =>
  obtain ⟨vs, m, hat, hr⟩ := hS.inv.own i _ ho
  by_cases ha : n = ("append" : Str)
  ·subst ha
   exact getMethod_builtin ⟨_, hat, rfl⟩ PySem.F.plainAttrs_list slot_list_append type_list_append (fun a ea => by cases ea; exact ⟨_, hat, rfl⟩) (fin (k := .append) rfl ⟨hi, rfl, rfl⟩)
  by_cases hp : n = ("pop" : Str)
  ·subst hp
   exact getMethod_builtin ⟨_, hat, rfl⟩ PySem.F.plainAttrs_list PySem.F.slot_list_pop PySem.F.type_list_pop (fun a ea => by cases ea; exact ⟨_, hat, rfl⟩) (fin (k := .lpop) rfl ⟨hi, rfl, rfl⟩)
  by_cases hr' : n = ("remove" : Str)
  ·subst hr'
   exact getMethod_builtin ⟨_, hat, rfl⟩ PySem.F.plainAttrs_list PySem.F.slot_list_remove PySem.F.type_list_remove (fun a ea => by cases ea; exact ⟨_, hat, rfl⟩) (fin (k := .remove) rfl ⟨hi, rfl, rfl⟩)
  ·exact (bad (by unfold calleeO; dsimp only; rw [if_neg ha, if_neg hp, if_neg hr']; rfl)).elim
 | dictI es ver =>
  obtain ⟨_, kvs, hD, hr⟩ := hS.inv.own i _ ho
  by_cases hp : n = ("pop" : Str)
  ·subst hp
   exact getMethod_builtin hD.dictOf.mapOf.typeIs PySem.F.plainAttrs_dict PySem.F.slot_dict_pop PySem.F.type_dict_pop (fun a ea => by cases ea; obtain ⟨ob, es, ho', hdn, _⟩ := hD; exact ⟨_, ho', hdn.2.1⟩) (fin (k := .dpop) rfl ⟨hi, rfl, rfl⟩)
  ·exact (bad (by unfold calleeO; dsimp only; rw [if_neg hp]; rfl)).elim
 | _ => exact (bad rfl).elim
theorem sim_fn (D : Gd g) {f : FId} {code : FnC} {fa : Addr} (hc : g.c.P.code f = some code) (hfa : FnOk g.c code fa) {vs : List V} {us : List Value} {kw : List (Str × V)} {kw' : List (Str × Value)} (hv : VsRel W vs us) (hk : KRel W kw kw') :
  Sim g W (call (.ref fa) us kw') (callF g.c.P (phi g.c.P g.d) g.hd f vs kw) VR := SimC.sim (D.F f code fa g W vs us kw kw' hc hfa rfl rfl hv hk)
theorem keep_fn {c : Cx} {code : FnC} {fa : Addr} (h : FnOk c code fa) : keepIn c.K (.ref fa) = true := by
 obtain ⟨oc, od, osl, name, qual, params, dV, kV, doc, pm, an, cdv, ct, dvs, h, _⟩ := h.fn
 unfold keepIn
 dsimp only
 rw [h]
theorem keeps_builtin {M : Model} {id : String} (h : Heap) : ∃ k, (k = Keeper.frame ∨ k = Keeper.machine ∨ k = Keeper.boundFrame) ∧ Looks M h (keeperOf (.builtin id)) k := ⟨.machine, .inr (.inl rfl), Looks.of_pure rfl⟩
theorem keeps_type {M : Model} {id : String} (h : Heap) : ∃ k, (k = Keeper.frame ∨ k = Keeper.machine ∨ k = Keeper.boundFrame) ∧ Looks M h (keeperOf (.type id)) k := ⟨.machine, .inr (.inl rfl), Looks.of_pure rfl⟩
theorem init_under {A : Around} (hA : AOk g A) (hk : g.k + 1 ≤ 6) {C : Addr} {us : List Value} {kw : List (Str × Value)} : AOk g.up (A.under (.builtin "type.__call__" ⟨.ref C :: us, kw⟩)) where
 fo := hA.fo
 frames := hA.frames
 hd := hA.hd
 k := hk
 depth := by rw [depth_under_kw]; have := hA.depth; show A.depth + 1 + 8 * g.d ≤ 980 + (g.k + 1); lia
 units := by
  have := hA.units
  show (A.under (.builtin "type.__call__" ⟨.ref C :: us, kw⟩)).units + 60 * g.d ≤ 9800 + (g.k + 1)
  have : (A.under (.builtin "type.__call__" ⟨.ref C :: us, kw⟩)).units = A.units + 1 := rfl
  lia
theorem make_own {prog : Program} {w : World} {A : Around} {K : Frag} {C : Addr} {R : Result → Shared → Prop} {s : Shared} {rest : List Value} {kw : List (Str × Value)} {fI : Addr} (X : K.In s.heap) (hm : makesIn K C = true)
  (hi : findIn K (.ref C) "__init__" = some (some (.ref fI))) (hf : isFn K (.ref fI) = true)
  (h : codeAny (model prog w) (A.under (.builtin "type.__call__" ⟨.ref C :: rest, kw⟩)) (.call (.ref fI) ⟨.ref (s.heap.objs.size + 1) :: rest, kw⟩) (InitBack (s.heap.objs.size + 1) R) { s with heap := (s.heap.push emptyDict).push (instObj C s.heap.objs.size) }) :
  codeAny (model prog w) A (.call (.ref C) ⟨rest, kw⟩) R s := by
 obtain ⟨hh, g, d, t, os⟩ := s
 exact make_core (makes_of X hm) (looks_findIn X hi) (fun self => bind_fn X self (beq_iff_eq.mp hf)) (.inl rfl) h
theorem St.newInst {g : G} {W : Wd} {m : Str → Option Value} {st : S} {s : Shared} (hS : St g W m st s) :
  St g (W.add (s.heap.objs.size + 1) s.heap.objs.size true) m { st with heap := upd st.heap st.next (.inst []), next := st.next + 1 } { s with heap := (s.heap.push emptyDict).push (instObj g.c.C s.heap.objs.size) } := by
 have I := (hS.inv.push emptyDict).push (instObj g.c.C s.heap.objs.size)
 have hsz : (s.heap.push emptyDict).objs.size = s.heap.objs.size + 1 := Heap.size_push ..
 refine ⟨?_, by show st.next + 1 = W.n + 1; rw [hS.next], hS.loc.ext (W.ext_add _ _ _)⟩
 have hd1 : (s.heap.push emptyDict).get? s.heap.objs.size = some emptyDict := Heap.get?_push_size _ rfl
 have hd : ((s.heap.push emptyDict).push (instObj g.c.C s.heap.objs.size)).get? s.heap.objs.size = some emptyDict := Heap.get?_push_of_some _ hd1
 have hx : ((s.heap.push emptyDict).push (instObj g.c.C s.heap.objs.size)).get? (s.heap.objs.size + 1) = some (instObj g.c.C s.heap.objs.size) := by
  rw [← hsz]; exact Heap.get?_push_size _ rfl
 have := I.add (a := s.heap.objs.size + 1) (d := s.heap.objs.size) (two := true) (o := .inst []) (hS.inv.unlab_size (Nat.le_succ _)) (Nat.le_succ_of_le hS.inv.sz)
  (fun _ => ⟨hS.inv.unlab_size (Nat.le_refl _), Nat.ne_of_lt (Nat.lt_succ_self _), hS.inv.sz, _, hd⟩) (fun _ => rfl) ⟨[], 0, by rw [Wd.ρ_add, Wd.δ_add]; exact hx, by rw [Wd.δ_add]; exact hd, trivial⟩
 rw [hS.next]; exact this
theorem sim_new (D : Gd g) {vs : List V} {us : List Value} (hv : VsRel W vs us) : Sim g W (call (.ref g.c.C) us []) (newM g.c.P (phi g.c.P g.d) g.hd vs) VR := by
 intro A W₁ mm st s Q E hA hx hS hP
 have hP : Post g W₁ s VR Q E ((callF g.c.P (phi g.c.P g.d) g.hd (.meth "__init__") (.ref st.next :: vs) [] >>= fun r => if isNone r = true then pure (.ref st.next) else failM : M V) { st with heap := upd st.heap st.next (.inst []), next := st.next + 1 }) := hP
 have hS₁ := hS.newInst
 have href : VRel (W₁.add (s.heap.objs.size + 1) s.heap.objs.size true) (.ref st.next) (.ref (s.heap.objs.size + 1)) := by
  rw [hS.next]; exact ⟨Nat.lt_succ_self _, by rw [Wd.ρ_add]⟩
 have hx₁ := W₁.ext_add (s.heap.objs.size + 1) s.heap.objs.size true
 generalize ({ st with heap := upd st.heap st.next (.inst []), next := st.next + 1 } : S) = st₁ at hP hS₁
 have hQ := (hP.move hx₁ (Same.heap (h := (s.heap.push emptyDict).push (instObj g.c.C s.heap.objs.size)))).bind (R := VR) (Q := fun a s' => a = .none ∧ Q (.ref (s.heap.objs.size + 1)) s') fun b st' W' mm' s' a hx' hS' hs' hr hP' => by
  replace hP' := Post.ite hP'; obtain ⟨hb, hP'⟩ := hP'
  obtain rfl := isNone_eq hb
  exact ⟨hr, hP' W' mm' s' _ (Ext.refl _) hS' (Same.refl _) (href.ext hx')⟩
 obtain ⟨code, hc⟩ := callF_code hQ
 obtain ⟨fa, hfa, hfn⟩ := D.C.fn _ _ hc
 refine wpAny_call (make_own (in_base D.C hS) D.C.makes hfa.1 hfa.2 ?_)
 exact D.F (.meth "__init__") code fa g.up _ (.ref st.next :: vs) (.ref (s.heap.objs.size + 1) :: us) [] [] hc hfn rfl rfl ⟨href, (hv.ext hx).ext hx₁⟩ trivial _ _ mm st₁ _ _ (init_under hA (Nat.le_trans (Nat.succ_le_succ D.k) (by decide))) (Ext.refl _) hS₁.up hQ.up
theorem one_sim {f : V → M V} {F : Value → Sem Value} {G : List Value → Sem Value} (hG : ∀ u, G [u] = F u) (h : ∀ v u, VRel W v u → Sim g W (F u) (f v) VR) {vs : List V} {us : List Value} (hv : VsRel W vs us) : Sim g W (G us) (one f vs) VR := by
 match vs, us, hv with
 | [v], [u], hv => rw [hG]; exact h v u hv.1
 | [], _, _ => exact Sim.fail
 | _ :: _ :: _, _, _ => exact Sim.fail
theorem sim_method (D : Gd g) {n : Str} {k : Callee × Nat} {p : Value × List Value} (h : CallRel g.c n W k p) {vs : List V} {us : List Value} {kw : List (Str × V)} {kw' : List (Str × Value)} (hv : VsRel W vs us) (hkw : KRel W kw kw') :
  Sim g W (call p.1 (p.2 ++ us) kw') (methodM g.c.P (phi g.c.P g.d) g.hd k.1 k.2 n vs kw) VR := by
 obtain ⟨k, i⟩ := k
 obtain ⟨f, first⟩ := p
 obtain ⟨hi, h2, h⟩ := h
 dsimp only at h2 h hi ⊢
 subst h2
 cases k with
 | inst =>
  obtain ⟨fa, code, rfl, hc, hfn⟩ := h
  exact sim_fn D hc hfn ⟨⟨hi, rfl⟩, hv⟩ hkw
 | _ =>
  obtain rfl : f = _ := h
  refine Sim.ite fun hk => ?_
  cases kw with
  | cons _ _ => first | exact nomatch hk.1 | exact nomatch hk
  | nil =>
   cases kw' with
   | cons _ _ => exact hkw.elim
   | nil =>
    first
    | exact one_sim (G := fun us => call (.builtin "list.append") ([.ref (W.ρ i)] ++ us) []) (fun _ => rfl) (fun v u h => sim_append hi h) hv
    | exact one_sim (G := fun us => call (.builtin "list.pop") ([.ref (W.ρ i)] ++ us) []) (fun _ => rfl) (fun v u h => sim_pop hi h) hv
    | exact one_sim (G := fun us => call (.builtin "list.remove") ([.ref (W.ρ i)] ++ us) []) (fun _ => rfl) (fun v u h => sim_remove D.C D.F (Nat.le_trans (Nat.succ_le_succ D.k) (by decide)) hk.2 hi h) hv
    | exact one_sim (G := fun us => call (.builtin "dict.pop") ([.ref (W.ρ i)] ++ us) []) (fun _ => rfl) (fun v u h => sim_dpop hi h) hv
theorem keeps_callee {n : Str} {k : Callee × Nat} {p : Value × List Value} (h : CallRel g.c n W k p) {M : Model} (hp : Heap) (X : g.c.K.In hp) : ∃ k, (k = Keeper.frame ∨ k = Keeper.machine ∨ k = Keeper.boundFrame) ∧ Looks M hp (keeperOf p.1) k := by
 obtain ⟨k, i⟩ := k
 obtain ⟨hi, h2, h⟩ := h
 cases k with
 | inst => obtain ⟨fa, code, q, hc, hfn⟩ := h; rw [q]; exact keeps_K (keep_fn hfn) hp X
 | _ => rw [show p.1 = _ from h]; exact keeps_builtin hp
end
end
section
structure Calm (c : Cx) (W : Wd) (h h' : Heap) : Prop where
 base : c.base.StaysIn h'
 keep : ∀ a o, W.lab a ≠ none → W.lab a ≠ some .frame → h.get? a = some o → h'.get? a = some o
 frame : ∀ a o, W.lab a = some .frame → h.get? a = some o → ∃ sl, h'.get? a = some { o with slots := sl }
 size : h.objs.size ≤ h'.objs.size
section
variable {c : Cx} {fr : Frs} {pins : List (Addr × Obj)} {W : Wd} {σ : Nat → Option AObj} {h h' h'' : Heap}
theorem Inv.calm (I : Inv c fr pins W σ h) (k : Calm c W h h') : Inv c fr pins W σ h' := by
 refine I.ofKeep (x := h.objs.size) (I.unlab_size (Nat.le_refl _)) ⟨k.base, fun a o ha hf _ e => k.keep a o ha hf e, fun a o ha e => let ⟨sl, q⟩ := k.frame a o ha e; ⟨_, q⟩, Nat.le_trans I.sz k.size⟩ rfl fun p hp => ?_
 obtain ⟨o, es, ep, ho, hd, r⟩ := I.frs p hp
 obtain ⟨sl, hs⟩ := k.frame _ _ (I.lfr p hp) ho
 exact ⟨_, es, ep, hs, hd, r⟩
theorem Calm.trans (x : Calm c W h h') (y : Calm c W h' h'') : Calm c W h h'' :=
 ⟨y.base, fun a o ha hf e => y.keep a o ha hf (x.keep a o ha hf e), fun a o ha e => let ⟨sl, q⟩ := x.frame a o ha e; let ⟨sl', q'⟩ := y.frame a _ ha q; ⟨sl', q'⟩, Nat.le_trans x.size y.size⟩
theorem Inv.calmRefl (I : Inv c fr pins W σ h) : Calm c W h h := ⟨I.stays, fun _ _ _ _ e => e, fun _ o _ e => ⟨o.slots, e⟩, Nat.le_refl _⟩
theorem Inv.calmPush (I : Inv c fr pins W σ h) (o : Obj) : Calm c W h (h.push o) :=
 ⟨fun a o' e => Heap.get?_push_of_some _ (I.stays a o' e), fun _ _ _ _ e => Heap.get?_push_of_some _ e, fun _ o' _ e => ⟨o'.slots, Heap.get?_push_of_some _ e⟩, by rw [Heap.size_push]; exact Nat.le_succ _⟩
theorem Inv.calmOther (I : Inv c fr pins W σ h) {x : Addr} (hx : W.lab x = none) (hb : c.base.get? x = none) (hs : Heap.SameBut x h h') : Calm c W h h' :=
 ⟨fun a o e => (hs.2 a (fun q => by rw [q, hb] at e; exact zN e)).trans (I.stays a o e), fun a o ha _ e => (hs.2 a (fun q => ha (q ▸ hx))).trans e,
  fun a o ha e => ⟨o.slots, (hs.2 a (fun q => by rw [q, hx] at ha; exact zN ha)).trans e⟩, by rw [hs.1]; exact Nat.le_refl _⟩
theorem Inv.calmSlots (I : Inv c fr pins W σ h) {S : List Addr} (hS : ∀ b ∈ S, W.lab b = some .frame) (hs : Heap.SlotsOnly S h h') : Calm c W h h' :=
 ⟨fun a o e => (hs.2.1 a (fun q => by rw [I.fresh (nL (hS a q))] at e; exact zN e)).trans (I.stays a o e), fun a o _ hf e => (hs.2.1 a (fun q => hf (hS a q))).trans e, fun a o _ e => hs.2.2 a o e, by rw [hs.1]; exact Nat.le_refl _⟩
end
section
variable {g : G} {W : Wd} {env : Env}
theorem St.calm {m : Str → Option Value} {st : S} {s : Shared} (hS : St g W m st s) {h' : Heap} (k : Calm g.c W s.heap h') : St g W m st { s with heap := h' } := ⟨hS.inv.calm k, hS.next, hS.loc⟩
theorem frame_lab {m : Str → Option Value} {st : S} {s : Shared} (hS : St g W m st s) {L : Addr} (hL : L ∈ g.L :: g.fr.map (·.1)) : W.lab L = some .frame ∧ ∃ m', s.heap.Ns L m' := by
 rcases List.mem_cons.mp hL with rfl | hL
 ·exact ⟨hS.inv.lfr _ (.head _), _, hS.inv.frs _ (.head _)⟩
 ·obtain ⟨p, hp, rfl⟩ := List.mem_map.mp hL
  exact ⟨hS.inv.lfr p (.tail _ hp), _, hS.inv.frs p (.tail _ hp)⟩
theorem funFrames {m : Str → Option Value} {st : S} {s : Shared} (hS : St g W m st s) : ∀ (l : List Env), (∀ e ∈ l, e.scope.kind ≠ .module ∧ ∃ L, e.frame = some L ∧ L ∈ g.L :: g.fr.map (·.1)) → s.heap.FunFrames g.c.base l
 | [], _ => trivial
 | e :: r, hl => by
  obtain ⟨hk, L, hf, hL⟩ := hl e (.head _)
  obtain ⟨h1, m', o, es, ep, ho, hd, _⟩ := frame_lab hS hL
  exact ⟨hk, ⟨L, o, hf, hS.inv.fresh (nL h1), ho, fun vs q => by rw [hd] at q; contradiction⟩, funFrames hS r fun e' he' => hl e' (.tail _ he')⟩
theorem frames_lab {m : Str → Option Value} {st : S} {s : Shared} (hS : St g W m st s) (hF : FOk g) : ∀ b ∈ g.fenvs.filterMap (·.frame), W.lab b = some .frame := by
 intro b hb
 obtain ⟨e, he, hf⟩ := List.mem_filterMap.mp hb
 obtain ⟨_, L, hf', hL⟩ := hF e he
 rw [hf'] at hf; obtain rfl := sj hf
 exact (frame_lab hS hL).1
noncomputable def ThrownT (c : Cx) (W : Wd) (h : Heap) (x : X) (e : Value) : Prop :=
 ∃ a oe vs T oT ts, e = .ref a ∧ W.lab a = none ∧ c.base.get? a = none ∧ h.get? a = some oe ∧ clsIs c x oe.cls ∧ oe.data = .fields vs ∧ vs[2]? = some .none ∧
  vs[1]? = some (.ref T) ∧ T ≠ a ∧ W.lab T = none ∧ c.base.get? T = none ∧ h.get? T = some oT ∧ oT.data = .fields ts ∧ 3 < ts.size
theorem ThrownT.thrown {c : Cx} {h : Heap} {x : X} {e : Value} (t : ThrownT c W h x e) : Thrown c W h x e := by
 obtain ⟨a, oe, vs, T, oT, ts, h1, h2, h3, h4, h5, h6, h7, h8, h9, h10, h11, h12, h13, h14⟩ := t
 exact ⟨a, oe, vs, h1, h2, h3, h4, h5, h6, h7, .inr ⟨T, oT, ts, h8, h9, h10, h11, h12, h13, h14⟩⟩
theorem cls_mapFields (o : Obj) (f) : (o.mapFields f).cls = o.cls := Obj.cls_mapFields _ _
theorem note_entry {A : Around} {E : Value → Shared → Prop} {m : Str → Option Value} {st : S} {s : Shared} {x : X} {e L : Addr} {oe : Obj} {vs : Array Value} {head : Value} {hadNext : Bool} {Q : Unit → Shared → Prop} {rest : List Env}
  (hfr : A.frames = some g.fenvs) (hF : FOk g) (hT : g.fenvs = env :: rest) (hf : env.frame = some L) (hS : St g W m st s)
  (h1 : W.lab e = none) (h2 : g.c.base.get? e = none) (he : s.heap.get? e = some oe) (hc : clsIs g.c x oe.cls) (hd : oe.data = .fields vs) (h3 : vs[2]? = some .none)
  (h : ∀ s', St g W m st s' → Same s s' → ThrownT g.c W s'.heap x (.ref e) → Q () s') :
  wpAny (model g.c.prog g.c.w) A (do let a ← frameOf env; let pl ← entryPlaceOf L hadNext; let b ← EntryCells.newEntry head a .none (rawInt L) .none pl; setField (.ref e) 1 b) Q E s := by
 have hl := funFrames hS g.fenvs hF
 have hlab := frames_lab hS hF
 rw [hT] at hl hlab hfr
 refine wpAny_bind (wpAny_frameOf_fun hfr hl hf fun h₁ hs₁ => ?_)
 have hS₁ := hS.calm (hS.inv.calmSlots hlab hs₁)
 refine wpAny_bind (wpAny_entryPlaceOf fun pl hpl => ?_)
 unfold EntryCells.newEntry newFields
 refine wpAny_bind (wpAny_newObj_type ?_ (hpl.sizeOk5 _ _ _ _ _))
 have hee : e ∉ (env :: rest).filterMap (·.frame) := fun q => by rw [hlab e q] at h1; exact zS h1
 have he₁ : h₁.get? e = some oe := (hs₁.2.1 e hee).trans he
 have hsz : 1 < vs.size := Nat.lt_trans (by decide : 1 < 2) (Array.getElem?_eq_some_iff.mp h3).1
 generalize hob : ({ cls := .type "traceback", dict := none, data := .fields ([head, .ref L, .none, rawInt L, .none] ++ (if pl.isEmpty then List.replicate 6 Value.none else pl)).toArray } : Obj) = ob
 have hS₂ := hS₁.calm (hS₁.inv.calmPush ob)
 dsimp only at hS₂
 have he₂ := Heap.get?_push_of_some (h := h₁) ob he₁
 have hTe : h₁.objs.size ≠ e := Nat.ne_of_gt (Heap.lt_size he₁)
 have hd₃ := Obj.data_mapFields hd (·.setIfInBounds 1 (Value.ref h₁.objs.size))
 refine wpAny_setField he₂ hd hsz (h _ (hS₂.calm (hS₂.inv.calmOther h1 h2 (Heap.SameBut.update ..))) Same.heap ?_)
 have he₃ := Heap.get?_update_self (Obj.mapFields (·.setIfInBounds 1 (Value.ref h₁.objs.size))) he₂ (Obj.isFreed_of_fields hd₃)
 have hT₃ := (Heap.get?_update_other (h₁.push ob) (Obj.mapFields (·.setIfInBounds 1 (Value.ref h₁.objs.size))) (Ne.symm hTe)).trans (Heap.get?_push_size h₁ (by rw [← hob]; rfl))
 refine ⟨e, _, _, h₁.objs.size, _, ([head, .ref L, .none, rawInt L, .none] ++ (if pl.isEmpty then List.replicate 6 Value.none else pl)).toArray, rfl, h1, h2, he₃, by rw [cls_mapFields]; exact hc, hd₃, by rw [Array.getElem?_setIfInBounds_ne (by decide)]; exact h3,
  by simp [hsz], hTe, hS₁.inv.unlab_size (Nat.le_refl _), hS₁.inv.unbase_size (Nat.le_refl _), hT₃, by rw [← hob], by simp only [List.size_toArray, List.length_append, List.length_cons, List.length_nil]; lia⟩
theorem sim_noteFrame {A : Around} {m : Str → Option Value} {st : S} {s : Shared} {x : X} {e : Value} {E : Value → Shared → Prop} {rest : List Env} {L : Addr} {Q : Unit → Shared → Prop}
  (hfr : A.frames = some g.fenvs) (hF : FOk g) (hT : g.fenvs = env :: rest) (hf : env.frame = some L) (hS : St g W m st s) (ht : Thrown g.c W s.heap x e)
  (h : ∀ s', St g W m st s' → Same s s' → ThrownT g.c W s'.heap x e → Q () s') : wpAny (model g.c.prog g.c.w) A (noteFrame e env) Q E s := by
 obtain ⟨a, oe, vs, rfl, h1, h2, h3, h4, h5, h6, h7⟩ := ht
 unfold noteFrame
 simp only [hf]
 rcases h7 with h7 | ⟨T, oT, ts, k1, k2, k3, k4, k5, k6, k7⟩
 ·refine wpAny_bind (wpAny_field h3 h5 h7 ?_)
  rw [if_neg (by decide)]
  exact note_entry hfr hF hT hf hS h1 h2 h3 h4 h5 h6 h
 ·refine wpAny_bind (wpAny_field h3 h5 k1 ?_)
  rw [if_pos (show (Value.ref T != Value.none) = true from by simp)]
  have hts : ts[3]? = some (ts[3]'k7) := Array.getElem?_eq_getElem k7
  refine wpAny_bind (wpAny_field k5 k6 hts ?_)
  split
  ·exact wpAny_pure (h s hS (Same.refl _) ⟨a, oe, vs, T, oT, ts, rfl, h1, h2, h3, h4, h5, h6, k1, k2, k3, k4, k5, k6, k7⟩)
  ·refine wpAny_bind (wpAny_setField k5 k6 k7 ?_)
   have hS₁ := hS.calm (hS.inv.calmOther k3 k4 (Heap.SameBut.update (f := Obj.mapFields (·.setIfInBounds 3 Value.none)) ..))
   have he₁ := (Heap.get?_update_other s.heap (Obj.mapFields (·.setIfInBounds 3 Value.none)) k2).trans h3
   exact note_entry hfr hF hT hf hS₁ h1 h2 he₁ h4 h5 h6 fun s' hS' hs' ht' => h s' hS' (Same.heap.trans hs') ht'
theorem sim_noted {A : Around} {m : Str → Option Value} {st : S} {s : Shared} {x : X} {e : Value} {E : Value → Shared → Prop} {rest : List Env} {L : Addr}
  (hfr : A.frames = some g.fenvs) (hF : FOk g) (hT : g.fenvs = env :: rest) (hf : env.frame = some L) (hS : St g W m st s) (ht : Thrown g.c W s.heap x e)
  (h : ∀ s', St g W m st s' → Same s s' → ThrownT g.c W s'.heap x e → E e s') : notedBy (model g.c.prog g.c.w) A env E e s := sim_noteFrame hfr hF hT hf hS ht h
theorem sim_flight {A : Around} {m : Str → Option Value} {st : S} {s : Shared} {x : X} {e : Value} {E : Value → Shared → Prop} {f : Option Addr} {Q : Unit → Shared → Prop}
  (hS : St g W m st s) (ht : ThrownT g.c W s.heap x e) (h : ∀ s', St g W m st s' → Same s s' → ThrownT g.c W s'.heap x e → Q () s') : wpAny (model g.c.prog g.c.w) A (setFlight e f) Q E s := by
 obtain ⟨a, oe, vs, T, oT, ts, rfl, h1, h2, h3, h4, h5, h6, k1, k2, k3, k4, k5, k6, k7⟩ := ht
 unfold setFlight
 refine wpAny_bind (wpAny_field h3 h5 k1 ?_)
 rw [if_pos (show (Value.ref T != Value.none) = true from by simp)]
 refine wpAny_setField k5 k6 k7 ?_
 have hS₁ := hS.calm (hS.inv.calmOther k3 k4 (Heap.SameBut.update (f := Obj.mapFields (·.setIfInBounds 3 (f.elim .none fun f => rawInt f))) ..))
 have he₁ := (Heap.get?_update_other s.heap (Obj.mapFields (·.setIfInBounds 3 (f.elim .none fun f => rawInt f))) k2).trans h3
 have hd₃ := Obj.data_mapFields k6 (·.setIfInBounds 3 (f.elim .none fun f => rawInt f))
 exact h _ hS₁ Same.heap ⟨a, oe, vs, T, _, _, rfl, h1, h2, he₁, h4, h5, h6, k1, k2, k3, k4, Heap.get?_update_self _ k5 (Obj.isFreed_of_fields hd₃), hd₃, by simp [k7]⟩
theorem sim_cameBack {A : Around} {m : Str → Option Value} {st : S} {s : Shared} {x : X} {e : Value} {E : Value → Shared → Prop}
  (hS : St g W m st s) (ht : ThrownT g.c W s.heap x e) (h : ∀ s', St g W m st s' → Same s s' → ThrownT g.c W s'.heap x e → E e s') : cameBackBy (model g.c.prog g.c.w) A env E e s := by
 have ht' := ht
 obtain ⟨a, oe, vs, T, oT, ts, rfl, h1, h2, h3, h4, h5, h6, k1, k2, k3, k4, k5, k6, k7⟩ := ht
 unfold cameBackBy
 refine wpAny_bind (wpAny_field h3 h5 k1 ?_)
 rw [if_neg (fun h => nomatch h)]
 exact sim_flight hS ht' h
theorem sim_leaving {A : Around} {m : Str → Option Value} {st : S} {s : Shared} {x : X} {e : Value} {E : Value → Shared → Prop} {rest : List Env} {L : Addr} {Q : Unit → Shared → Prop}
  (hfr : A.frames = some g.fenvs) (hF : FOk g) (hT : g.fenvs = env :: rest) (hf : env.frame = some L) (hS : St g W m st s) (ht : Thrown g.c W s.heap x e)
  (h : ∀ s', St g W m st s' → Same s s' → ThrownT g.c W s'.heap x e → Q () s') : wpAny (model g.c.prog g.c.w) A (leaving env e) Q E s := by
 unfold leaving
 exact wpAny_bind (sim_noteFrame hfr hF hT hf hS ht fun s' hS' hs' ht' => sim_flight hS' ht' fun s'' hS'' hs'' ht'' => h s'' hS'' (hs'.trans hs'') ht'')
end
end
section
noncomputable def Wd.lbl (W : Wd) (Is : List Addr) : Wd := { W with lab := fun a => if a ∈ Is then some .pin else W.lab a }
noncomputable def Wd.unl (W : Wd) (Is : List Addr) : Wd := { W with lab := fun a => if a ∈ Is then none else W.lab a }
theorem Wd.ext_lbl (W : Wd) (Is : List Addr) : Ext W (W.lbl Is) := ⟨Nat.le_refl _, fun _ _ => rfl⟩
theorem Wd.ext_unl (W : Wd) (Is : List Addr) : Ext W (W.unl Is) := ⟨Nat.le_refl _, fun _ _ => rfl⟩
noncomputable def pinsAt (Is : List Addr) (h : Heap) : List (Addr × Obj) := Is.filterMap fun a => (h.get? a).map fun o => (a, o)
theorem mem_pinsAt {Is : List Addr} {h : Heap} {p : Addr × Obj} (hp : p ∈ pinsAt Is h) : p.1 ∈ Is ∧ h.get? p.1 = some p.2 := by
 obtain ⟨a, ha, e⟩ := List.mem_filterMap.mp hp
 obtain ⟨o, ho, rfl⟩ := Option.map_eq_some_iff.mp e
 exact ⟨ha, ho⟩
theorem pinsAt_mem {Is : List Addr} {h : Heap} {a : Addr} {o : Obj} (ha : a ∈ Is) (e : h.get? a = some o) : (a, o) ∈ pinsAt Is h :=
 List.mem_filterMap.mpr ⟨a, ha, by rw [e]; rfl⟩
section
variable {c : Cx} {fr : Frs} {pins ps : List (Addr × Obj)} {W : Wd} {σ : Nat → Option AObj} {h h' : Heap} {Is : List Addr}
theorem Inv.lbl (I : Inv c fr pins W σ h) (hl : ∀ a ∈ Is, W.lab a = none) (hb : ∀ a ∈ Is, c.base.get? a = none) (ht : ∀ a ∈ Is, ∃ o, h.get? a = some o) : Inv c fr pins (W.lbl Is) σ h := by
 have old : ∀ x t, W.lab x = some t → (W.lbl Is).lab x = some t := fun x t hx => by
  show (if x ∈ Is then some Tag.pin else W.lab x) = some t
  rw [if_neg (fun q => by rw [hl x q] at hx; exact zN hx)]; exact hx
 refine ⟨I.stays, I.frs, I.pin, I.dom, fun i o e => (I.own i o e).move (W.ext_lbl Is) rfl (fun _ _ => rfl) (fun _ _ x => x) (fun _ _ _ x => x), fun p hp => old _ _ (I.lfr p hp), fun p hp => old _ _ (I.lpin p hp), fun i o e n => old _ _ (I.lown i o e n), fun i fs e => old _ _ (I.ldic i fs e), ?_, I.nodup, I.sz⟩
 intro a ha
 by_cases q : a ∈ Is
 ·have e : (W.lbl Is).lab a = some .pin := if_pos q
  exact ⟨⟨hb a q, fun z => absurd e z⟩, ht a q⟩
 ·have e : (W.lbl Is).lab a = W.lab a := if_neg q
  rw [e] at ha ⊢
  exact I.new a ha
theorem Inv.pinUp (I : Inv c fr pins W σ h) (hl : ∀ a ∈ Is, W.lab a = some .pin) : Inv c fr (pinsAt Is h ++ pins) W σ h :=
 ⟨I.stays, I.frs, fun p hp => (List.mem_append.mp hp).elim (fun q => (mem_pinsAt q).2) (I.pin p), I.dom, I.own, I.lfr, fun p hp => (List.mem_append.mp hp).elim (fun q => hl _ (mem_pinsAt q).1) (I.lpin p), I.lown, I.ldic, I.new, I.nodup, I.sz⟩
theorem Inv.pinDown (I : Inv c fr (ps ++ pins) W σ h) : Inv c fr pins W σ h :=
 ⟨I.stays, I.frs, fun p hp => I.pin p (List.mem_append_right _ hp), I.dom, I.own, I.lfr, fun p hp => I.lpin p (List.mem_append_right _ hp), I.lown, I.ldic, I.new, I.nodup, I.sz⟩
theorem Inv.szOf {L : Addr} {m : Str → Option Value} (I : Inv c ((L, m) :: fr) pins W σ h) (hk : ∀ o, h.get? L = some o → ∃ o', h'.get? L = some o') : c.base.objs.size ≤ h'.objs.size := by
 have lL := I.lfr _ (.head _)
 obtain ⟨hb, o, e⟩ := I.new _ (nL lL)
 obtain ⟨o', e'⟩ := hk o e
 exact Nat.le_of_lt (Nat.lt_of_le_of_lt (hb.2 (by rw [lL]; simp)) (Heap.lt_size e'))
theorem Inv.setPins {L : Addr} {m : Str → Option Value} (I : Inv c ((L, m) :: fr) pins W σ h) (hl : ∀ a ∈ Is, W.lab a = some .pin) (hne : ∀ p ∈ pins, p.1 ∉ Is) (hs : ∀ a o, a ∉ Is → h.get? a = some o → h'.get? a = some o)
  (ht : ∀ a ∈ Is, ∃ o, h'.get? a = some o) : Inv c ((L, m) :: fr) pins W σ h' := by
 have out : ∀ a t, W.lab a = some t → t ≠ .pin → a ∉ Is := fun a t ha hn q => hn (sj (ha.symm.trans (hl a q)))
 refine ⟨fun a o e => hs a o (fun q => by rw [I.fresh (nL (hl a q))] at e; exact zN e) (I.stays a o e), fun p hp => ?_, fun p hp => hs _ _ (hne p hp) (I.pin p hp), I.dom, fun i o e => ?_, I.lfr, I.lpin, I.lown, I.ldic, fun a ha => ⟨(I.new a ha).1, ?_⟩, I.nodup, ?_⟩
 ·obtain ⟨o, es, ep, ho, r⟩ := I.frs p hp
  exact ⟨o, es, ep, hs _ _ (out _ _ (I.lfr p hp) (fun h => (by contradiction))) ho, r⟩
 ·exact (I.own i o e).move (Ext.refl W) rfl (fun _ _ => rfl) (fun n q hq => hs _ _ (out _ _ (I.lown i o e n) (fun h => (by contradiction))) hq) (fun fs e' q hq => hs _ _ (out _ _ (I.ldic i fs (e' ▸ e)) (fun h => (by contradiction))) hq)
 ·by_cases q : a ∈ Is
  ·exact ht a q
  ·obtain ⟨_, o, e⟩ := I.new a ha; exact ⟨o, hs a o q e⟩
 ·exact I.szOf fun o e => ⟨o, hs _ _ (out _ _ (I.lfr _ (.head _)) (fun h => (by contradiction))) e⟩
theorem Inv.dropPins {L : Addr} {m : Str → Option Value} (I : Inv c ((L, m) :: fr) pins W σ h) (hl : ∀ a ∈ Is, W.lab a = some .pin) (hne : ∀ p ∈ pins, p.1 ∉ Is) (hs : ∀ a o, a ∉ Is → h.get? a = some o → h'.get? a = some o) :
  Inv c ((L, m) :: fr) pins (W.unl Is) σ h' := by
 have out : ∀ a t, W.lab a = some t → t ≠ .pin → a ∉ Is := fun a t ha hn q => hn (sj (ha.symm.trans (hl a q)))
 have keep : ∀ a t, W.lab a = some t → a ∉ Is → (W.unl Is).lab a = some t := fun a t ha q => by
  show (if a ∈ Is then none else W.lab a) = some t
  rw [if_neg q]; exact ha
 refine ⟨fun a o e => hs a o (fun q => by rw [I.fresh (nL (hl a q))] at e; exact zN e) (I.stays a o e), fun p hp => ?_, fun p hp => hs _ _ (hne p hp) (I.pin p hp), I.dom, fun i o e => ?_, fun p hp => keep _ _ (I.lfr p hp) (out _ _ (I.lfr p hp) (fun h => (by contradiction))), fun p hp => keep _ _ (I.lpin p hp) (hne p hp),
  fun i o e n => keep _ _ (I.lown i o e n) (out _ _ (I.lown i o e n) (fun h => (by contradiction))), fun i fs e => keep _ _ (I.ldic i fs e) (out _ _ (I.ldic i fs e) (fun h => (by contradiction))), fun a ha => ?_, I.nodup, ?_⟩
 ·obtain ⟨o, es, ep, ho, r⟩ := I.frs p hp
  exact ⟨o, es, ep, hs _ _ (out _ _ (I.lfr p hp) (fun h => (by contradiction))) ho, r⟩
 ·exact (I.own i o e).move (W.ext_unl Is) rfl (fun _ _ => rfl) (fun n q hq => hs _ _ (out _ _ (I.lown i o e n) (fun h => (by contradiction))) hq) (fun fs e' q hq => hs _ _ (out _ _ (I.ldic i fs (e' ▸ e)) (fun h => (by contradiction))) hq)
 ·by_cases q : a ∈ Is
  ·exact absurd (show (if a ∈ Is then none else W.lab a) = none by rw [if_pos q]) ha
  ·have ha' : W.lab a ≠ none := fun z => ha (by show (if a ∈ Is then none else W.lab a) = none; rw [if_neg q]; exact z)
   have e' : (W.unl Is).lab a = W.lab a := if_neg q
   obtain ⟨b, o, e⟩ := I.new a ha'; rw [e']; exact ⟨b, o, hs a o q e⟩
 ·exact I.szOf fun o e => ⟨o, hs _ _ (out _ _ (I.lfr _ (.head _)) (fun h => (by contradiction))) e⟩
end
noncomputable def G.pin (g : G) (ps : List (Addr × Obj)) : G := { g with pins := ps ++ g.pins }
section
variable {g : G} {W : Wd} {env : Env} {ev : AEnv} {ps : List (Addr × Obj)} {Is : List Addr}
theorem AOk.pin {A : Around} (h : AOk g A) : AOk (g.pin ps) A := ⟨h.fo, h.frames, h.hd.imp_right fun ⟨a, e, oe, vs, b, c, d⟩ => ⟨a, e, oe, vs, b, List.mem_append_right _ c, d⟩, h.k, h.depth, h.units⟩
theorem EnvOk.pin (h : EnvOk g W ev env) : EnvOk (g.pin ps) W ev env := ⟨h.kind, h.names, h.globals, h.builtins, h.locals, h.cells, h.hd⟩
theorem Gd.pin (h : Gd g) : Gd (g.pin ps) := ⟨h.C, h.F, h.k⟩
theorem St.pinUp {m : Str → Option Value} {st : S} {s : Shared} (h : St g W m st s) (hl : ∀ a ∈ Is, W.lab a = some .pin) : St (g.pin (pinsAt Is s.heap)) W m st s := ⟨h.inv.pinUp hl, h.next, h.loc⟩
theorem St.pinDown {m : Str → Option Value} {st : S} {s : Shared} (h : St (g.pin ps) W m st s) : St g W m st s := ⟨Inv.pinDown (ps := ps) h.inv, h.next, h.loc⟩
theorem St.pinned {m : Str → Option Value} {st : S} {s : Shared} {h₀ : Heap} (h : St (g.pin (pinsAt Is h₀)) W m st s) (ht : ∀ a ∈ Is, ∃ o, h₀.get? a = some o) : (∀ a ∈ Is, s.heap.get? a = h₀.get? a) ∧ ∀ a ∈ Is, W.lab a = some .pin := by
 refine ⟨fun a ha => ?_, fun a ha => ?_⟩
 ·obtain ⟨o, e⟩ := ht a ha
  exact (h.inv.pin (a, o) (List.mem_append_left _ (pinsAt_mem ha e))).trans e.symm
 ·obtain ⟨o, e⟩ := ht a ha
  exact h.inv.lpin (a, o) (List.mem_append_left _ (pinsAt_mem ha e))
noncomputable def FlowRel (W : Wd) : Flow → PySem.Flow → Prop
 | .next, f => f = .next
 | .brk, f => f = .brk
 | .cont, f => f = .cont
 | .ret v, f => ∃ u, f = .ret u ∧ VRel W v u
noncomputable def NPost (g : G) (W : Wd) (s : Shared) (Is : List Addr) (At : Heap → Prop) (Qt Qf : Shared → Prop) (r : R Bool) : Prop := match r with
 | .ok true st' => ∀ W' mm' s', Ext W W' → (∀ a ∈ Is, W'.lab a = some .pin) → St g W' mm' st' s' → Same s s' → At s'.heap → Qt s'
 | .ok false st' => ∀ W' mm' s', Ext W W' → St g W' mm' st' s' → Same s s' → Qf s'
 | _ => False
structure Head (g : G) (W : Wd) (target : Expr) (itv : Value) (env : Env) (Is : List Addr) (At : Nat → Heap → Prop) (next : Nat → M Bool) : Prop where
 there : ∀ k h, At k h → ∀ a ∈ Is, ∃ o, h.get? a = some o
 frame : ∀ k h h', At k h → (∀ a ∈ Is, h'.get? a = h.get? a) → At k h'
 noexc : ∀ k st x st', next k st ≠ .exc x st'
 step : ∀ (k : Nat) (A : Around) (W' : Wd) (mm : Str → Option Value) (st : S) (s : Shared) (Pt Pf : Shared → Prop) (E : Value → Shared → Prop),
  AOk g A → Ext W W' → St g W' mm st s → (∀ a ∈ Is, W'.lab a = some .pin) → (∀ p ∈ g.pins, p.1 ∉ Is) → At k s.heap → NPost g W' s Is (At (k + 1)) Pt Pf (next k st) →
  wpAny (model g.c.prog g.c.w) A (pyNext itv) (fun r s₁ => match r with
   | none => Pf s₁
   | some v => wpAny (model g.c.prog g.c.w) A (letOwnedTupleGo target itv v) (fun _ s₂ => wpAny (model g.c.prog g.c.w) A (assign target env v) (fun _ s₃ => Pt s₃) E s₂) E s₁) E s
theorem codeAny_forLoopO {prog : Program} {w : World} {A : Around} {s : Shared} {R : Result → Shared → Prop} {target it body env} (I : Nat → Shared → Prop)
  (turn : ∀ n s, I n s → wpAny (model prog w) A (pyNext it) (fun r s₁ => match r with
   | none => R (.ok .next) s₁
   | some v => wpAny (model prog w) A (letOwnedTupleGo target it v) (fun _ s₂ => wpAny (model prog w) A (assign target env v) (fun _ s₃ => wpAny (model prog w) A (execs body env) (fun f s₄ => match f with
     | .next | .cont => ∃ m, m < n ∧ I m s₄
     | .brk => R (.ok .next) s₄
     | .ret v => R (.ok (.ret v)) s₄) (notedBy (model prog w) A env fun e s' => R (.error e) s') s₃) (notedBy (model prog w) A env fun e s' => R (.error e) s') s₂) (notedBy (model prog w) A env fun e s' => R (.error e) s') s₁)
   (notedBy (model prog w) A env fun e s' => R (.error e) s') s)
  (n : Nat) (h : I n s) : codeAny (model prog w) A (.forLoop target it body [] env) R s := by
 refine codeAny_loop' rfl I (fun n s hI => ?_) n h
 show wpAny _ _ ((forTurn target it body [] env).onRaise (fun x => do noteFrame x env; theTreesLotGoes x)) _ _ s
 refine wpAny_noted ?_
 dsimp only [forTurn]
 refine wpAny_bind (wpAny_standAt (wpAny_bind (wpAny_onRaise (wpAny_mono (turn n s hI) (fun r s₁ h₁ => ?_) fun _ _ h' => wpAny_standAt h'))))
 cases r with
 | none => exact wpAny_pure (.inr ⟨rfl, codeAny_block (wpAny_execs_nil h₁)⟩)
 | some v =>
  refine wpAny_bind (wpAny_mono h₁ (fun _ s₂ h₂ => ?_) fun _ _ h' => h')
  refine wpAny_bind (wpAny_mono h₂ (fun _ s₃ h₃ => wpAny_bind (wpAny_mono h₃ (fun f s₄ h₄ => ?_) fun _ _ h' => h')) fun _ _ h' => h')
  cases f with
  | next => exact wpAny_pure (.inl ⟨rfl, h₄⟩)
  | cont => exact wpAny_pure (.inl ⟨rfl, h₄⟩)
  | brk => exact wpAny_pure h₄
  | ret v => exact wpAny_pure h₄
structure EnvTop (g : G) (env : Env) : Prop where
 fo : FOk g
 top : ∃ rest L, g.fenvs = env :: rest ∧ env.frame = some L
theorem EnvTop.pin (h : EnvTop g env) : EnvTop (g.pin ps) env := ⟨h.fo, h.top⟩
theorem EnvTop.noted (T : EnvTop g env) {A : Around} (hA : AOk g A) {W : Wd} {m : Str → Option Value} {st : S} {s : Shared} {x : X} {e : Value} {E : Value → Shared → Prop} (hS : St g W m st s) (ht : Thrown g.c W s.heap x e)
  (h : ∀ s', St g W m st s' → Same s s' → ThrownT g.c W s'.heap x e → E e s') : notedBy (model g.c.prog g.c.w) A env E e s := by
 obtain ⟨rest, L, h1, h2⟩ := T.top
 exact sim_noted hA.frames T.fo h1 h2 hS ht h
theorem EnvTop.back (T : EnvTop g env) {A : Around} (hA : AOk g A) {W : Wd} {m : Str → Option Value} {st : S} {s : Shared} {x : X} {e : Value} {E : Value → Shared → Prop} (hS : St g W m st s) (ht : Thrown g.c W s.heap x e)
  (h : ∀ s', St g W m st s' → Same s s' → Thrown g.c W s'.heap x e → E e s') : notedBy (model g.c.prog g.c.w) A env (fun e s' => cameBackBy (model g.c.prog g.c.w) A env E e s') e s :=
 T.noted hA hS ht fun s₁ hS₁ hs₁ ht₁ => sim_cameBack hS₁ ht₁ fun s₂ hS₂ hs₂ ht₂ => h s₂ hS₂ (hs₁.trans hs₂) ht₂.thrown
theorem npost {Is : List Addr} {α : Type} {W : Wd} {s : Shared} {st : S} {m : M Bool} {K : Bool → M Flow} {R : Wd → Flow → α → Prop} {Q : α → Shared → Prop} {E : Value → Shared → Prop} {At : Heap → Prop} {Qt Qf : Shared → Prop} (hn : ∀ x st', m st ≠ .exc x st') (hP : Post g W s R Q E ((m >>= K) st))
  (ht : ∀ st' W' mm' s', Ext W W' → (∀ a ∈ Is, W'.lab a = some .pin) → St g W' mm' st' s' → Same s s' → At s'.heap → Post g W' s' R Q E (K true st') → Qt s')
  (hf : ∀ st' W' mm' s', Ext W W' → St g W' mm' st' s' → Same s s' → Post g W' s' R Q E (K false st') → Qf s') : NPost g W s Is At Qt Qf (m st) := by
 rw [bR] at hP
 revert hP
 cases q : m st with
 | fail => exact id
 | exc x st' => exact (hn x st' q).elim
 | ok b st' =>
  cases b with
  | true => exact fun hP W' mm' s' hx hl hS hs hA => ht st' W' mm' s' hx hl hS hs hA (hP.move hx hs)
  | false => exact fun hP W' mm' s' hx hS hs => hf st' W' mm' s' hx hS hs (hP.move hx hs)
theorem Post.pin {α β : Type} {ps : List (Addr × Obj)} {W : Wd} {s : Shared} {R : Wd → β → α → Prop} {Q : α → Shared → Prop} {E : Value → Shared → Prop} {r : Mine.R β} (h : Post g W s R Q E r) : Post (g.pin ps) W s R Q E r := by
 cases r with
 | fail => exact h
 | ok b st' => exact fun W' mm s' a hx hS hs hr => h W' mm s' a hx hS.pinDown hs hr
 | exc x st' => exact fun W' mm s' a hx hS hs hr => h W' mm s' a hx hS.pinDown hs hr
theorem sim_forCode (T : EnvTop g env) {target : Expr} {itv : Value} {body : List Stmt} {At : Nat → Heap → Prop} {next : Nat → M Bool} {mb : M Flow} (Hd : Head g W target itv env Is At next)
  (hb : ∀ ps, Sim (g.pin ps) W (execs body env) mb FlowRel) {A : Around} {W₁ : Wd} {mm : Str → Option Value} {st : S} {s : Shared} {Q : PySem.Flow → Shared → Prop} {E : Value → Shared → Prop}
  (hA : AOk g A) (hx : Ext W W₁) (hS : St g W₁ mm st s) (hl : ∀ a ∈ Is, W₁.lab a = some .pin) (hne : ∀ p ∈ g.pins, p.1 ∉ Is) (hAt : At 0 s.heap) {fuel : Nat} (hP : Post g W₁ s FlowRel Q E (loopD fuel next mb 0 st)) :
  codeAny (model g.c.prog g.c.w) A (.forLoop target itv body [] env) (fun r s' => match r with | .ok f => Q f s' | .error e => cameBackBy (model g.c.prog g.c.w) A env E e s') s := by
 refine codeAny_forLoopO (fun n s' => ∃ k W' mm' st', Ext W W' ∧ (∀ a ∈ Is, W'.lab a = some .pin) ∧ St g W' mm' st' s' ∧ At k s'.heap ∧ Post g W' s' FlowRel Q E (loopD n next mb k st')) ?_ fuel ⟨0, W₁, mm, st, hx, hl, hS, hAt, hP⟩
 rintro n s₁ ⟨k, W₂, mm₂, st₂, hx₂, hl₂, hS₂, hAt₂, hP⟩
 cases n with
 | zero => exact hP.elim
 | succ n =>
  refine Hd.step k A W₂ mm₂ st₂ s₁ _ _ _ hA hx₂ hS₂ hl₂ hne hAt₂ (npost (Hd.noexc k st₂) hP ?_ ?_)
  ·intro st₃ W₃ mm₃ s₃ hx₃ hl₃ hS₃ hs₃ hAt₃ hP
   have ht := Hd.there _ _ hAt₃
   refine hb (pinsAt Is s₃.heap) A W₃ mm₃ st₃ s₃ _ _ hA.pin (hx₂.trans hx₃) (hS₃.pinUp hl₃) ?_
   have hP : Post g W₃ s₃ FlowRel Q E ((mb >>= loopGo (loopD n next mb (k + 1))) st₃) := hP
   rw [bR] at hP
   revert hP
   cases mb st₃ with
   | fail => exact id
   | exc x st₄ => exact fun hP W₄ mm₄ s₄ e hx₄ hS₄ hs₄ ht₄ => T.back hA hS₄.pinDown ht₄ fun s₅ hS₅ hs₅ ht₅ => hP W₄ mm₄ s₅ e hx₄ hS₅ (hs₄.trans hs₅) ht₅
   | ok f st₄ =>
    intro hP W₄ mm₄ s₄ f' hx₄ hS₄ hs₄ hf
    obtain ⟨hkeep, hl₄⟩ := hS₄.pinned ht
    have hP := hP.move hx₄ hs₄
    have again : Post g W₄ s₄ FlowRel Q E (loopD n next mb (k + 1) st₄) → ∃ m, m < n + 1 ∧ ∃ k W' mm' st', Ext W W' ∧ (∀ a ∈ Is, W'.lab a = some .pin) ∧ St g W' mm' st' s₄ ∧ At k s₄.heap ∧ Post g W' s₄ FlowRel Q E (loopD m next mb k st') :=
     fun hP => ⟨n, Nat.lt_succ_self _, k + 1, W₄, mm₄, st₄, (hx₂.trans hx₃).trans hx₄, hl₄, hS₄.pinDown, Hd.frame _ _ _ hAt₃ hkeep, hP⟩
    cases f with
    | next => obtain rfl : f' = .next := hf; exact again hP
    | cont => obtain rfl : f' = .cont := hf; exact again hP
    | brk => obtain rfl : f' = .brk := hf; exact hP W₄ mm₄ s₄ _ (Ext.refl _) hS₄.pinDown (Same.refl _) rfl
    | ret v => obtain ⟨u, rfl, hv⟩ := hf; exact hP W₄ mm₄ s₄ _ (Ext.refl _) hS₄.pinDown (Same.refl _) ⟨u, rfl, hv⟩
  ·intro st₃ W₃ mm₃ s₃ hx₃ hS₃ hs₃ hP
   exact hP W₃ mm₃ s₃ _ (Ext.refl _) hS₃ (Same.refl _) rfl
end
end
section
noncomputable def HdAt (A : Around) (h : Heap) : Prop := A.handled = none ∨ ∃ e oe vs, A.handled = some (.ref e) ∧ h.get? e = some oe ∧ oe.data = .fields vs ∧ vs[2]? = some .none
theorem HdAt.keep {A : Around} {h h' : Heap} (x : HdAt A h) (k : ∀ e oe vs, h.get? e = some oe → oe.data = .fields vs → vs[2]? = some .none → h'.get? e = some oe) : HdAt A h' :=
 x.imp_right fun ⟨e, oe, vs, a, b, c, d⟩ => ⟨e, oe, vs, a, k e oe vs b c d, c, d⟩
section
variable {prog : Program} {w : World} {A : Around} {E : Value → Shared → Prop} {s : Shared}
theorem entry_unchain : entryFor table "proto.unchain" = some Builtin.«proto.unchain» := entryFor_of_fast (by kernel_rfl)
theorem raiseNew_any {α : Type} {a : Addr} {oa : Obj} {va : Array Value} {Q : α → Shared → Prop} (hh : HdAt A s.heap) (ha : s.heap.get? a = some oa) (hd : oa.data = .fields va) (hsz : 2 < va.size)
  (h : ∀ h', Heap.SameBut a s.heap h' → (∃ o', h'.get? a = some o' ∧ o'.cls = oa.cls) → E (.ref a) { s with heap := h' }) : wpAny (model prog w) A (raiseNew (.ref a) : Sem α) Q E s := by
 unfold raiseNew
 refine wpAny_bind (wpAny_handled ?_)
 rcases hh with hh | ⟨e, oe, vs, hh, he, hde, h2⟩
 ·rw [hh]
  exact wpAny_bind (wpAny_pure (wpAny_throw (h s.heap (Heap.SameBut.refl ..) ⟨oa, ha, rfl⟩)))
 ·rw [hh]
  dsimp only
  split
  ·refine wpAny_bind (wpAny_holding (wpAny_runValue (codeAny_builtin entry_unchain ?_)))
   unfold Builtin.«proto.unchain»
   refine wpAny_bind (wpAny_field he hde h2 ?_)
   rw [if_pos (by rfl)]
   refine wpAny_pure ?_
   unfold updateField
   refine wpAny_bind ?_
   refine wpAny_bind (wpAny_load ha ?_)
   rw [hd]
   show wpAny _ _ (if 2 < va.size then _ else _) _ _ _
   rw [if_pos hsz]
   refine wpAny_update ha (wpAny_throw (h _ (Heap.SameBut.update ..) ⟨_, Heap.get?_update_self _ ha (Obj.isFreed_of_fields (Obj.data_mapFields hd _)), Obj.cls_mapFields ..⟩))
  ·exact wpAny_bind (wpAny_pure (wpAny_throw (h s.heap (Heap.SameBut.refl ..) ⟨oa, ha, rfl⟩)))
theorem pyNext_list_endH {it l : Addr} {i : Nat} {items} {Q : Option Value → Shared → Prop} (hh : HdAt A s.heap)
  (hit : s.heap.IsListIter it l i) (hl : s.heap.IsList l items) (hx : items[i]? = none)
  (hQ : ∀ h', Heap.ExtBut it s.heap h' → Q none { s with heap := h' }) : wpAny (model prog w) A (pyNext (.ref it)) Q E s := by
 obtain ⟨o, ho, hc, hd⟩ := id hit
 obtain ⟨ol, hol, _, nl, hdl⟩ := hl
 unfold pyNext
 refine wpAny_bind (wpAny_attempt (wpAny_callSpecial?_slot (name := Str.ofString "__next__") hit.typeIs slot_listiter_next
  (wpAny_call_entry slot_listiter_next hit.typeIs entry_listiter_next ?_ (args_listiter_next _))))
 show wpAny _ _ (field (.ref it) 0 >>= _) _ _ s
 refine wpAny_bind (wpAny_field ho hd (x := .ref l) rfl ?_)
 show wpAny _ _ (if (Value.ref l == Value.none) = true then _ else _) _ _ s
 rw [if_neg (show ¬ ((Value.ref l == Value.none) = true) from Bool.false_ne_true)]
 show wpAny _ _ (field (.ref it) 1 >>= _) _ _ s
 refine wpAny_bind (wpAny_field ho hd (x := .int i 0) rfl ?_)
 show wpAny _ _ (seqItems? (.ref l) >>= _) _ _ s
 refine wpAny_bind (wpAny_seqItems hol hdl ?_)
 simp only [Int.toNat_natCast, hx]
 refine wpAny_bind (wpAny_rule (wpAny_bind (wpAny_setField ho hd (by simp) ?_)))
 show wpAny _ _ (newExc (.type "StopIteration") [] >>= _) _ _ _
 refine wpAny_bind ?_
 simp only [newExc, newTuple]
 refine wpAny_bind (wpAny_newObj_type ?_ (by size_fits))
 refine wpAny_bind (m := firstArgMember _ _) (wpAny_of_eq (a := Value.none) (by first | rfl | (simp only [firstArgMember]; rfl)) ?_)
 refine wpAny_newObj_type ?_ (by size_fits)
 have hk : ∀ e oe vs, s.heap.get? e = some oe → oe.data = .fields vs → vs[2]? = some .none → e ≠ it := by
  rintro e oe vs he hde h2 rfl
  rw [ho] at he; obtain rfl := sj he
  rw [hd] at hde; cases hde
  simp at h2
 refine raiseNew_any (A := A.in1) ?_ (Heap.get?_push_size _ rfl) rfl (by simp only [Array.size_append]; exact ltl (by decide : 2 < 6) (Nat.le_add_right _ _)) fun h' hs' ho' => ?_
 ·refine HdAt.keep (A := A.in1) hh fun e oe vs he hde h2 => ?_
  exact Heap.get?_push_of_some _ (Heap.get?_push_of_some _ ((Heap.get?_update_other _ _ (Ne.symm (hk e oe vs he hde h2))).trans he))
 obtain ⟨o', ho', hc'⟩ := ho'
 refine wpAny_bind (wpAny_isInstance (T := "StopIteration") (b := true) ⟨_, ho', hc'⟩ isSubtype_stop ?_)
 refine wpAny_pure (hQ _ fun b ob hb e => ?_)
 have e1 : (s.heap.update it (Obj.mapFields fun x => x.setIfInBounds 0 Value.none)).get? b = some ob := (Heap.get?_update_other _ _ (Ne.symm hb)).trans e
 have e2 := Heap.get?_push_of_some { cls := Value.type "tuple", data := Data.seq #[] } e1
 exact (hs'.2 b (Nat.ne_of_lt (Heap.lt_size e2))).trans (Heap.get?_push_of_some _ e2)
theorem pyNext_tuple_endH {it l : Addr} {i : Nat} {items} {Q : Option Value → Shared → Prop} (hh : HdAt A s.heap)
  (hit : s.heap.IsTupleIter it l i) (hl : s.heap.IsTuple l items) (hx : items[i]? = none)
  (hQ : ∀ h', Heap.ExtBut it s.heap h' → Q none { s with heap := h' }) : wpAny (model prog w) A (pyNext (.ref it)) Q E s := by
 obtain ⟨o, ho, hc, hd⟩ := id hit
 obtain ⟨ol, hol, _, nl, hdl⟩ := hl
 unfold pyNext
 refine wpAny_bind (wpAny_attempt (wpAny_callSpecial?_slot (name := Str.ofString "__next__") hit.typeIs F.slot_tuple_iterator_next
  (wpAny_call_entry F.slot_tuple_iterator_next hit.typeIs F.entry_tuple_iterator_next ?_ (F.args_tuple_iterator_next_1 _))))
 show wpAny _ _ (field (.ref it) 0 >>= _) _ _ s
 refine wpAny_bind (wpAny_field ho hd (x := .ref l) rfl ?_)
 show wpAny _ _ (if (Value.ref l == Value.none) = true then _ else _) _ _ s
 rw [if_neg (show ¬ ((Value.ref l == Value.none) = true) from Bool.false_ne_true)]
 show wpAny _ _ (field (.ref it) 1 >>= _) _ _ s
 refine wpAny_bind (wpAny_field ho hd (x := .int i 0) rfl ?_)
 show wpAny _ _ (seqItems? (.ref l) >>= _) _ _ s
 refine wpAny_bind (wpAny_seqItems hol hdl ?_)
 simp only [Int.toNat_natCast, hx]
 refine wpAny_bind (wpAny_rule (wpAny_bind (wpAny_setField ho hd (by simp) ?_)))
 show wpAny _ _ (newExc (.type "StopIteration") [] >>= _) _ _ _
 refine wpAny_bind ?_
 simp only [newExc, newTuple]
 refine wpAny_bind (wpAny_newObj_type ?_ (by size_fits))
 refine wpAny_bind (m := firstArgMember _ _) (wpAny_of_eq (a := Value.none) (by first | rfl | (simp only [firstArgMember]; rfl)) ?_)
 refine wpAny_newObj_type ?_ (by size_fits)
 have hk : ∀ e oe vs, s.heap.get? e = some oe → oe.data = .fields vs → vs[2]? = some .none → e ≠ it := by
  rintro e oe vs he hde h2 rfl
  rw [ho] at he; obtain rfl := sj he
  rw [hd] at hde; cases hde
  simp at h2
 refine raiseNew_any (A := A.in1) ?_ (Heap.get?_push_size _ rfl) rfl (by simp only [Array.size_append]; exact ltl (by decide : 2 < 6) (Nat.le_add_right _ _)) fun h' hs' ho' => ?_
 ·refine HdAt.keep (A := A.in1) hh fun e oe vs he hde h2 => ?_
  exact Heap.get?_push_of_some _ (Heap.get?_push_of_some _ ((Heap.get?_update_other _ _ (Ne.symm (hk e oe vs he hde h2))).trans he))
 obtain ⟨o', ho', hc'⟩ := ho'
 refine wpAny_bind (wpAny_isInstance (T := "StopIteration") (b := true) ⟨_, ho', hc'⟩ isSubtype_stop ?_)
 refine wpAny_pure (hQ _ fun b ob hb e => ?_)
 have e1 : (s.heap.update it (Obj.mapFields fun x => x.setIfInBounds 0 Value.none)).get? b = some ob := (Heap.get?_update_other _ _ (Ne.symm hb)).trans e
 have e2 := Heap.get?_push_of_some { cls := Value.type "tuple", data := Data.seq #[] } e1
 exact (hs'.2 b (Nat.ne_of_lt (Heap.lt_size e2))).trans (Heap.get?_push_of_some _ e2)
theorem unpackItems_tupleH {t : Addr} {items : Array Value} {Q : List Value → Shared → Prop} (hh : HdAt A s.heap) (ht : s.heap.IsTuple t items)
  (hQ : ∀ h', Heap.ExtBut s.heap.objs.size s.heap h' → Q items.toList { s with heap := h' }) : wpAny (model prog w) A (unpackItems (.ref t) items.size none) Q E s := by
 have hlt : t ≠ s.heap.objs.size := by obtain ⟨o, ho, _⟩ := ht; exact Nat.ne_of_lt (Heap.lt_size ho)
 unfold unpackItems
 refine wpAny_bind ?_
 ·unfold notIterableAtAll
  refine wpAny_bind (wpAny_specialOf ht.typeIs F.slot_tuple_iter.lookup ?_)
  refine wpAny_pure ?_
  dsimp only [Bool.false_eq_true, if_false]
  refine wpAny_bind (wpAny_holding (wpAny_pyIter_tuple ht ?_))
  refine wpAny_bind (wpAny_holding (wpAny_draw_tuple hlt items.size 0 _ _ ⟨_, Heap.get?_push_size _ rfl, rfl, rfl⟩ (ht.push _) (by lia) fun h₁ hit₁ hs₁ => ?_))
  have hall : List.take items.size (List.drop 0 items.toList) = items.toList := by
   rw [List.drop_zero]; exact List.take_of_length_le (by simp)
  rw [hall]
  rw [if_neg (by simp)]
  have ht₁ : h₁.IsTuple t items := (ht.push _).extBut hs₁.extBut hlt
  have hh₁ : HdAt A h₁ := hh.keep fun e oe vs he _ _ => hs₁.extBut e oe (Nat.ne_of_lt (Heap.lt_size he)) (Heap.get?_push_of_some _ he)
  refine wpAny_bind (wpAny_holding (pyNext_tuple_endH hh₁ hit₁ ht₁ (by simp) fun h₂ he₂ => ?_))
  dsimp only [Option.isSome_none, Bool.false_eq_true, if_false]
  refine wpAny_pure (hQ h₂ fun b o hb e => he₂ b o hb (hs₁.extBut b o hb (Heap.get?_push_of_some _ e)))
theorem unpack_tupleH {t : Addr} {items : Array Value} {targets : List (Bool × (Value → Sem Unit))} {Q : Unit → Shared → Prop} (hh : HdAt A s.heap) (ht : s.heap.IsTuple t items)
  (hn : targets.length = items.size) (hstar : targets.findIdx? (·.1) = none)
  (h : ∀ h', Heap.ExtBut s.heap.objs.size s.heap h' → wpAny (model prog w) A (assignInOrder (targets.map (·.2)) items.toList) Q E { s with heap := h' }) :
  wpAny (model prog w) A (unpack (.ref t) targets) Q E s := by
 unfold unpack
 rw [hn, hstar]
 exact wpAny_bind (wpAny_holding (unpackItems_tupleH hh ht h))
end
section
variable {g : G} {W : Wd} {ev : AEnv} {env : Env}
theorem hdAt {A : Around} {m : Str → Option Value} {st : S} {s : Shared} (hA : AOk g A) (hS : St g W m st s) : HdAt A s.heap := by
 rcases hA.hd with h | ⟨_, e, oe, vs, h1, h2, h3, h4, _⟩
 ·exact .inl h
 ·exact .inr ⟨e, oe, vs, h1, hS.inv.pin _ h2, h3, h4⟩
theorem hd_none {A : Around} (hA : AOk g A) (h : g.hd = false) : A.handled = none := by
 rcases hA.hd with q | q
 ·exact q
 ·rw [h] at q; exact zF q.1
noncomputable def NoX {α : Type} (m : M α) : Prop := ∀ st x st', m st ≠ .exc x st'
theorem NoX.fail {α : Type} : NoX (failM : M α) := fun _ _ _ h => (by contradiction)
theorem NoX.pure {α : Type} {a : α} : NoX (Pure.pure a : M α) := fun _ _ _ h => (by contradiction)
theorem NoX.get {α : Type} {f : S → Option α} : NoX (getM f) := fun st x st' h => by
 unfold getM at h
 cases q : f st <;> rw [q] at h <;> nomatch h
theorem NoX.bind {α β : Type} {m : M α} {k : α → M β} (h1 : NoX m) (h2 : ∀ a, NoX (k a)) : NoX (m >>= k) := fun st x st' h => by
 rw [bR] at h
 cases q : m st with
 | fail => rw [q] at h; contradiction
 | exc _ _ => exact h1 _ _ _ q
 | ok a s' => rw [q] at h; exact h2 _ _ _ _ h
theorem NoX.ite {α : Type} {p : Prop} [Decidable p] {m m' : M α} (h1 : NoX m) (h2 : NoX m') : NoX (if p then m else m') := by
 by_cases q : p
 ·rw [if_pos q]; exact h1
 ·rw [if_neg q]; exact h2
theorem storeV_nox {x : Str} {v : V} : NoX (storeV ev x v) := NoX.ite (fun _ _ _ h => (by contradiction)) (NoX.ite (NoX.get.bind fun _ => NoX.get.bind fun _ => fun _ _ _ h => (by contradiction)) NoX.fail)
theorem targetV_nox {t : Expr} {v : V} : NoX (targetV ev t v) := by
 unfold targetV
 cases nameE t with
 | some x => exact storeV_nox
 | none =>
  dsimp only
  cases tup2 t with
  | some xy => exact NoX.get.bind fun _ => NoX.get.bind fun _ => NoX.get.bind fun _ => storeV_nox.bind fun _ => storeV_nox
  | none => exact NoX.fail
theorem nameE_some {e : Expr} {x : Str} (h : nameE e = some x) : ∃ p, e = .Name x p := by
 cases e <;> first | exact zN h | (obtain rfl := sj h; exact ⟨_, rfl⟩)
theorem tup2_some {t : Expr} {x y : Str} (h : tup2 t = some (x, y)) : ∃ p q k r, t = .Tuple [.Name x p, .Name y q] k r := by
 cases t <;> first | exact zN h | skip
 rename_i es k r
 match es, h with
 | [a, b], h =>
  unfold tup2 at h
  dsimp only at h
  cases h1 : nameE a with
  | none => rw [h1] at h; exact zN h
  | some x' =>
   rw [h1] at h
   dsimp only at h
   cases h2 : nameE b with
   | none => rw [h2] at h; exact zN h
   | some y' =>
    rw [h2] at h
    obtain ⟨rfl, rfl⟩ := Prod.mk.inj (sj h)
    obtain ⟨p, rfl⟩ := nameE_some h1
    obtain ⟨q, rfl⟩ := nameE_some h2
    exact ⟨_, _, _, _, rfl⟩
 | [], h => exact zN h
 | [_], h => exact zN h
 | _ :: _ :: _ :: _, h => exact zN h
theorem two_some {vs : List V} {p : V × V} (h : two vs = some p) : vs = [p.1, p.2] := by
 match vs, h with
 | [a, b], h => obtain rfl := sj h; rfl
 | [], h => exact zN h
 | [_], h => exact zN h
 | _ :: _ :: _ :: _, h => exact zN h
theorem sim_pair (O : EnvOk g W ev env) {x y : Str} {p q : Pos} {v w : V} {u z : Value} (hv : VRel W v u) (hw : VRel W w z) :
  Sim g W (assignInOrder ((assignEach [.Name x p, .Name y q] env).map (·.2)) [u, z]) (storeV ev x v >>= fun _ => storeV ev y w) (fun _ _ _ => True) := by
 show Sim g W (holding [z] (assign (.Name x p) env u) >>= fun _ => holding [] (assign (.Name y q) env z) >>= fun _ => pure ()) _ _
 refine Sim.bind (R := fun _ _ _ => True) (Sim.holding ?_) fun W₁ _ _ hx _ => Sim.tailT (R := fun _ _ _ => True) (Sim.holding ?_) fun _ _ _ _ _ => Sim.pure fun _ _ => trivial
 ·rw [PySem.assign_Name]
  exact Sim.standAt (sim_bindName O hv)
 ·rw [PySem.assign_Name]
  exact Sim.standAt (sim_bindName (O.ext hx) (hw.ext hx))
theorem sim_target (O : EnvOk g W ev env) {t : Expr} {v : V} {u : Value} (hv : VRel W v u) : Sim g W (assign t env u) (targetV ev t v) (fun _ _ _ => True) := by
 unfold targetV
 cases h : nameE t with
 | some x =>
  obtain ⟨p, rfl⟩ := nameE_some h
  rw [PySem.assign_Name]
  exact Sim.standAt (sim_bindName O hv)
 | none =>
  dsimp only
  cases h2 : tup2 t with
  | none => exact Sim.fail
  | some xy =>
   obtain ⟨x, y⟩ := xy
   obtain ⟨p, q, k, r, rfl⟩ := tup2_some h2
   intro A W₁ mm st s Q E hA hx hS hP
   replace hP := Post.get hP; obtain ⟨i, hi, hP⟩ := hP
   obtain rfl := rO hi
   obtain ⟨hi, rfl⟩ := hv.ext hx
   replace hP := Post.get hP; obtain ⟨xs, ho, hP⟩ := hP
   replace hP := Post.get hP; obtain ⟨⟨a, b⟩, hab, hP⟩ := hP
   obtain rfl := two_some hab
   obtain ⟨vs, n, hat, hr⟩ := hS.inv.own i _ (tupAt_some ho)
   match vs, hr, hat with
   | [u, z], hr, hat =>
    rw [arm_assign_Tuple]
    refine wpAny_bind (wpAny_standAt (unpack_tupleH (items := #[u, z]) (hdAt hA hS) ⟨_, hat, rfl, n, rfl⟩ rfl rfl fun h' hx' => ?_))
    have hS' : St g W₁ mm st { s with heap := h' } := ⟨hS.inv.grow fun a o e => hx' a o (Nat.ne_of_lt (Heap.lt_size e)) e, hS.next, hS.loc⟩
    exact sim_pair (O.ext hx) hr.1 hr.2.1 A W₁ mm st _ _ _ hA (Ext.refl _) hS' (hP.move (Ext.refl _) Same.heap)
   | [], hr, _ => exact hr.elim
   | [_], hr, _ => exact hr.2.elim
   | _ :: _ :: _ :: _, hr, _ => exact hr.2.2.elim
theorem owned_none {M : Model} {A : Around} {target : Expr} {I : Addr} {o : Obj} {u : Value} {Q : Unit → Shared → Prop} {E : Value → Shared → Prop} {s : Shared} (ho : s.heap.get? I = some o)
  (hc : ∃ T, o.cls = .type T ∧ T ∈ ["list_iterator", "dict_keyiterator", "range_iterator"]) (h : Q () s) : wpAny M A (letOwnedTupleGo target (.ref I) u) Q E s := by
 obtain ⟨T, hT, hm⟩ := hc
 have go : ∀ es k p, wpAny M A (letOwnedTupleGo (.Tuple es k p) (.ref I) u) Q E s := fun es k p => by
  unfold letOwnedTupleGo
  cases u with
  | ref a =>
   refine wpAny_bind (wpAny_load ho ?_)
   rw [hT]
   cases o.data with
   | fields vs =>
    dsimp only
    refine (if_neg fun q0 => ?_) ▸ wpAny_pure h
    have q := (Bool.and_eq_true_iff.mp q0).1
    clear q0 hT
    revert q
    revert hm
    revert T
    decide
   | _ => exact wpAny_pure h
  | _ => exact wpAny_pure h
 cases target <;> first | exact wpAny_pure h | exact go _ _ _ | exact go [] 0 default
theorem nextIt_nox {i : Nat} {t : Expr} (k : Nat) : NoX (nextIt i (targetV ev t) k) := NoX.get.bind fun xs => by
 cases xs[k]? with
 | some v => exact targetV_nox.bind fun _ => NoX.pure
 | none => exact NoX.pure
theorem nextD_nox {i v n : Nat} {t : Expr} (k : Nat) : NoX (nextD i v n (targetV ev t) k) := NoX.get.bind fun p => by
 refine NoX.ite ?_ NoX.fail
 cases p.1[k]? with
 | some v => exact targetV_nox.bind fun _ => NoX.pure
 | none => exact NoX.pure
theorem nextR_nox {a b st : Int} {t : Expr} (k : Nat) : NoX (nextR a b st (targetV ev t) k) := NoX.ite (targetV_nox.bind fun _ => NoX.pure) NoX.pure
theorem npost_get {γ : Type} {Is : List Addr} {s : Shared} {st : S} {f : S → Option γ} {k : γ → M Bool} {At : Heap → Prop} {Qt Qf : Shared → Prop} (h : NPost g W s Is At Qt Qf ((getM f >>= k) st)) : ∃ a, f st = some a ∧ NPost g W s Is At Qt Qf (k a st) := by
 rw [bR] at h
 unfold getM at h
 cases q : f st with
 | none => rw [q] at h; exact h.elim
 | some a => rw [q] at h; exact ⟨a, rfl, h⟩
theorem NPost.move {Is : List Addr} {s s' : Shared} {W' : Wd} {At : Heap → Prop} {Qt Qf : Shared → Prop} {r : R Bool} (h : NPost g W s Is At Qt Qf r) (hx : Ext W W') (hs : Same s s') : NPost g W' s' Is At Qt Qf r := by
 match r, h with
 | .ok true _, h => exact fun W₂ mm₂ s₂ hx₂ hl hS₂ hs₂ hA => h W₂ mm₂ s₂ (hx.trans hx₂) hl hS₂ (hs.trans hs₂) hA
 | .ok false _, h => exact fun W₂ mm₂ s₂ hx₂ hS₂ hs₂ => h W₂ mm₂ s₂ (hx.trans hx₂) hS₂ (hs.trans hs₂)
theorem npost_store {ps : List (Addr × Obj)} {Is : List Addr} {s : Shared} {st : S} {m : M Unit} {At : Heap → Prop} {Qt Qf : Shared → Prop} {k : Unit → M Bool} (hm : NoX m) (h : NPost g W s Is At Qt Qf ((m >>= k) st)) {E : Value → Shared → Prop} {Q : Unit → Shared → Prop} {R : Wd → Unit → Unit → Prop}
  (hq : ∀ st' W' mm' s', Ext W W' → St (g.pin ps) W' mm' st' s' → Same s s' → NPost g W' s' Is At Qt Qf (k () st') → Q () s') : Post (g.pin ps) W s R Q E (m st) := by
 rw [bR] at h
 revert h
 cases q : m st with
 | fail => exact id
 | exc x st' => exact (hm _ _ _ q).elim
 | ok a st' => exact fun h W' mm' s' _ hx hS hs _ => hq st' W' mm' s' hx hS hs (NPost.move h hx hs)
theorem NPost.ite {Is : List Addr} {s : Shared} {st : S} {p : Prop} [Decidable p] {m : M Bool} {At : Heap → Prop} {Qt Qf : Shared → Prop} (h : NPost g W s Is At Qt Qf ((if p then m else failM) st)) : p ∧ NPost g W s Is At Qt Qf (m st) := by
 by_cases q : p
 ·rw [if_pos q] at h; exact ⟨q, h⟩
 ·rw [if_neg q] at h; exact h.elim
theorem head_store (O : EnvOk g W ev env) {t : Expr} {I : Addr} {At : Heap → Prop} {oI : Obj} {u : Value} {v : V} {A : Around} {W' : Wd} {mm : Str → Option Value} {st : S} {s : Shared} {Pt Pf : Shared → Prop} {E : Value → Shared → Prop} {h' : Heap} {tk : Nat}
  (hA : AOk g A) (hx : Ext W W') (hS : St g W' mm st s) (hl : ∀ a ∈ [I], W'.lab a = some .pin) (hne : ∀ p ∈ g.pins, p.1 ∉ [I]) (hs : Heap.SameBut I s.heap h') (hoI : h'.get? I = some oI) (hAt : ∀ h, h.get? I = some oI → At h)
  (hc : ∃ T, oI.cls = .type T ∧ T ∈ ["list_iterator", "dict_keyiterator", "range_iterator"])
  (hv : VRel W' v u) (hN : NPost g W' s [I] At Pt Pf ((targetV ev t v >>= fun _ => (pure true : M Bool)) st)) :
  wpAny (model g.c.prog g.c.w) A (letOwnedTupleGo t (.ref I) u) (fun _ s₂ => wpAny (model g.c.prog g.c.w) A (assign t env u) (fun _ s₃ => Pt s₃) E s₂) E { s with heap := h', toks := tk } := by
 have there : ∀ a ∈ [I], ∃ o, h'.get? a = some o := fun a ha => by obtain rfl := smp ha; exact ⟨_, hoI⟩
 refine owned_none hoI hc ?_
 have hS₁ : St g W' mm st { s with heap := h', toks := tk } := ⟨hS.inv.setPins hl hne (fun a o ha e => hs.extBut a o (fun q => ha (q ▸ .head _)) e) there, hS.next, hS.loc⟩
 refine sim_target (O.ext hx).pin hv A W' mm st _ _ _ (hA.pin (ps := pinsAt [I] h')) (Ext.refl _) (hS₁.pinUp hl) (npost_store targetV_nox (hN.move (Ext.refl _) Same.mk') fun st' W'' mm' s' hx' hS' hs' hN => ?_)
 obtain ⟨hkeep, hl'⟩ := hS'.pinned there
 exact hN W'' mm' s' (Ext.refl _) hl' hS'.pinDown (Same.refl _) (hAt _ ((hkeep I (.head _)).trans hoI))
theorem head_end {I : Addr} {At : Heap → Prop} {W' : Wd} {mm : Str → Option Value} {st : S} {s : Shared} {Pt Pf : Shared → Prop} {h' : Heap}
  (hS : St g W' mm st s) (hl : ∀ a ∈ [I], W'.lab a = some .pin) (hne : ∀ p ∈ g.pins, p.1 ∉ [I]) (hs : Heap.ExtBut I s.heap h') (hN : NPost g W' s [I] At Pt Pf ((pure false : M Bool) st)) : Pf { s with heap := h' } :=
 hN (W'.unl [I]) mm _ (W'.ext_unl [I]) ⟨hS.inv.dropPins hl hne (fun a o ha e => hs a o (fun q => ha (q ▸ .head _)) e), hS.next, hS.loc.ext (W'.ext_unl [I])⟩ Same.heap
theorem head_there {I : Addr} {At : Nat → Heap → Prop} (h : ∀ k h, At k h → ∃ o, h.get? I = some o) : ∀ k h, At k h → ∀ a ∈ [I], ∃ o, h.get? a = some o := fun k hp hat a ha => by
 obtain rfl := smp ha
 exact h k hp hat
theorem head_list (O : EnvOk g W ev env) {t : Expr} {i : Nat} {I : Addr} (hi : i < W.n) : Head g W t (.ref I) env [I] (fun k h => h.IsListIter I (W.ρ i) k) (nextIt i (targetV ev t)) where
 there := head_there fun k h ⟨o, ho, _⟩ => ⟨o, ho⟩
 frame := fun k h h' ⟨o, ho, r⟩ hk => ⟨o, (hk I (.head _)).trans ho, r⟩
 noexc := nextIt_nox
 step := by
  intro k A W' mm st s Pt Pf E hA hx hS hl hne hAt hN
  replace hN := npost_get hN; obtain ⟨xs, ho, hN⟩ := hN
  obtain ⟨vs, hL, hrel⟩ := hS.list ho
  rw [hx.eq i hi] at hL
  cases hk : xs[k]? with
  | none =>
   rw [hk] at hN
   exact pyNext_list_endH (hdAt hA hS) hAt hL (by simpa using hrel.none hk) fun h' hs => head_end hS hl hne hs hN
  | some v =>
   rw [hk] at hN
   obtain ⟨u, hu, hv⟩ := hrel.get hk
   refine wpAny_pyNext_list_item hAt hL (by simpa using hu) fun h' hit hs => ?_
   obtain ⟨o, ho', r⟩ := hit
   exact head_store O hA hx hS hl hne hs ho' (fun h e => ⟨o, e, r⟩) ⟨_, r.1, by decide⟩ hv hN
theorem head_dict (hhd : g.hd = false) (O : EnvOk g W ev env) {t : Expr} {i v n : Nat} {I : Addr} (hi : i < W.n) (hvn : v < W.n) : Head g W t (.ref I) env [I] (fun k h => h.IsKeyIter I (W.ρ i) k n (W.ρ v)) (nextD i v n (targetV ev t)) where
 there := head_there fun k h ⟨o, ho, _⟩ => ⟨o, ho⟩
 frame := fun k h h' ⟨o, ho, r⟩ hk => ⟨o, (hk I (.head _)).trans ho, r⟩
 noexc := nextD_nox
 step := by
  intro k A W' mm st s Pt Pf E hA hx hS hl hne hAt hN
  replace hN := npost_get hN; obtain ⟨⟨es, ver⟩, ho, hN⟩ := hN
  replace hN := NPost.ite hN; obtain ⟨⟨rfl, hlen⟩, hN⟩ := hN
  obtain ⟨_, kvs, hD, hr⟩ := hS.inv.own i _ (dctI_some ho)
  rw [hx.eq i hi, hx.eq ver hvn] at hD
  have hlen' : n = kvs.length := hlen.symm.trans hr.length
  subst hlen'
  cases hk : es[k]? with
  | none =>
   dsimp only at hN
   rw [hk] at hN
   have hk' : kvs[k]? = none := by rw [List.getElem?_eq_none_iff] at hk ⊢; rw [← hr.length]; exact hk
   exact wpAny_pyNext_dict_end (hd_none hA hhd) hAt hD hk' fun h' hs => head_end hS hl hne hs hN
  | some p =>
   dsimp only at hN
   rw [hk] at hN
   have hk1 : (kvs.map (·.1))[k]? = some p.1 := by rw [← hr.1, List.getElem?_map, hk]; rfl
   rw [List.getElem?_map] at hk1
   obtain ⟨⟨k1, v1⟩, hk2, hk3⟩ := Option.map_eq_some_iff.mp hk1
   dsimp only at hk3
   subst hk3
   refine wpAny_pyNext_dict_item hAt hD hk2 fun key h' hkey hit hs => ?_
   obtain ⟨o, ho', r⟩ := hit
   obtain ⟨tk, rfl⟩ := Value.isInt_shape hkey
   exact head_store (v := .int p.1) O hA hx hS hl hne hs ho' (fun h e => ⟨o, e, r⟩) ⟨_, r.1, by decide⟩ ⟨tk, rfl⟩ hN
theorem range_left {a b c : Int} {k : Nat} (hc : 0 < c) : 0 < Builtin.Range.rangeSize a b c - (k : Int) ↔ a + c * k < b := by
 unfold Builtin.Range.rangeSize
 rw [if_pos hc]
 by_cases h : a < b
 ·rw [if_pos h]
  have e : 0 < (b - a - 1) / c + 1 - (k : Int) ↔ (k : Int) ≤ (b - a - 1) / c := by lia
  rw [e, Int.le_ediv_iff_mul_le hc, Int.mul_comm]
  lia
 ·rw [if_neg h]
  have : 0 ≤ c * (k : Int) := Int.mul_nonneg (Int.le_of_lt hc) (Int.natCast_nonneg k)
  lia
theorem head_range (hhd : g.hd = false) (O : EnvOk g W ev env) {t : Expr} {a b c : Int} (hc : 0 < c) {I : Addr} : Head g W t (.ref I) env [I] (fun k h => IsRangeIter h I (a + c * k) (Builtin.Range.rangeSize a b c - k) c) (nextR a b c (targetV ev t)) where
 there := head_there fun k h ho => ⟨_, ho⟩
 frame := fun k h h' ho hk => (hk I (.head _)).trans ho
 noexc := nextR_nox
 step := by
  intro k A W' mm st s Pt Pf E hA hx hS hl hne hAt hN
  unfold nextR at hN
  by_cases q : a + c * k < b
  ·rw [if_pos q] at hN
   refine wpAny_pyNext_range_item hAt ((range_left hc).mpr q) fun h' hit hs => ?_
   refine head_store (v := .int (a + c * k)) O hA hx hS hl hne hs hit (fun h e => ?_) ⟨_, rfl, by decide⟩ ⟨_, rfl⟩ hN
   show h.get? I = _
   rw [e]
   have e1 : a + c * (k : Int) + c = a + c * ((k + 1 : Nat) : Int) := by rw [Int.natCast_succ, Int.mul_add, Int.mul_one, Int.add_assoc]
   have e2 : Builtin.Range.rangeSize a b c - (k : Int) - 1 = Builtin.Range.rangeSize a b c - ((k + 1 : Nat) : Int) := by lia
   rw [e1, e2]
  ·rw [if_neg q] at hN
   exact wpAny_pyNext_range_end (hd_none hA hhd) hAt (by have := (range_left (b := b) (k := k) (a := a) hc); lia) fun h' hs => head_end hS hl hne hs hN
end
end
section
section
variable {g : G} {W : Wd} {ev : AEnv} {env : Env}
theorem St.push {m : Str → Option Value} {st : S} {s : Shared} (h : St g W m st s) (o : Obj) : St g W m st { s with heap := s.heap.push o } := ⟨h.inv.push o, h.next, h.loc⟩
theorem St.lbl {m : Str → Option Value} {st : S} {s : Shared} (h : St g W m st s) {Is : List Addr} (hl : ∀ a ∈ Is, W.lab a = none) (hb : ∀ a ∈ Is, g.c.base.get? a = none) (ht : ∀ a ∈ Is, ∃ o, s.heap.get? a = some o) : St g (W.lbl Is) m st s :=
 ⟨h.inv.lbl hl hb ht, h.next, h.loc.ext (W.ext_lbl Is)⟩
theorem lbl_in {Is : List Addr} {a : Addr} (h : a ∈ Is) : (W.lbl Is).lab a = some .pin := by
 show (if a ∈ Is then some Tag.pin else W.lab a) = _
 rw [if_pos h]
theorem sim_forOwn (T : EnvTop g env) {target : Expr} {itv : Value} {body : List Stmt} {Is : List Addr} {At : Nat → Heap → Prop} {next : Nat → M Bool} {mb : M Flow} {W₁ : Wd} (Hd : Head g (W₁.lbl Is) target itv env Is At next)
  (hb : ∀ ps, Sim (g.pin ps) (W₁.lbl Is) (execs body env) mb FlowRel) {A : Around} {mm : Str → Option Value} {st : S} {s : Shared} {h' : Heap} {Q : PySem.Flow → Shared → Prop} {E : Value → Shared → Prop}
  (hA : AOk g A) (hS : St g W₁ mm st s) (hk : ∀ a o, s.heap.get? a = some o → h'.get? a = some o) (hge : ∀ a ∈ Is, s.heap.objs.size ≤ a) (hAt : At 0 h') {fuel : Nat} (hP : Post g W₁ s FlowRel Q E (loopD fuel next mb 0 st)) :
  wpAny (model g.c.prog g.c.w) A (runOwn (.forLoop target itv body [] env) env) Q E { s with heap := h' } := by
 have hun : ∀ a ∈ Is, W₁.lab a = none := fun a ha => hS.inv.unlab_size (hge a ha)
 have hS₁ : St g W₁ mm st { s with heap := h' } := ⟨hS.inv.grow hk, hS.next, hS.loc⟩
 have hS₂ := hS₁.lbl hun (fun a ha => base_none (Nat.le_trans hS.inv.sz (hge a ha))) (Hd.there 0 h' hAt)
 refine wpAny_runOwn (sim_forCode T Hd hb hA (Ext.refl _) hS₂ (fun a ha => lbl_in ha) (fun p hp q => ?_) hAt (hP.move (W₁.ext_lbl Is) Same.heap))
 have := hS.inv.lpin p hp
 rw [hun _ q] at this; exact zN this
theorem folded_pure {e : Expr} (h : ∀ es k p, e ≠ .Set es k p) (x : Value) : foldedSetIterable e env x = pure x := by
 unfold foldedSetIterable
 split
 ·exact absurd rfl (h _ _ _)
 ·rfl
theorem dict_ne_modules (C : CxOk g.c) {m : Str → Option Value} {st : S} {s : Shared} (hS : St g W m st s) {i : Nat} {o : AObj} (ho : st.heap i = some o) (hn : o.own) : (W.ρ i == sysModules) = false := by
 rw [beq_eq_false_iff_ne]
 intro q
 have l := hS.inv.lown i _ ho hn
 have h1 := (hS.inv.new _ (nL l)).1.2 (by rw [l]; simp)
 rw [q] at h1
 obtain ⟨mg, mb, ⟨o, _, _, hg, _⟩, _⟩ := C.g
 exact absurd (ltl (Heap.lt_size hg) h1) (by decide)
theorem sim_forVal (C : CxOk g.c) (T : EnvTop g env) (O : EnvOk g W ev env) {t : Expr} {body : List Stmt} {mb : M Flow} (hb : ∀ ps W', Ext W W' → Sim (g.pin ps) W' (execs body env) mb FlowRel) {v : V} {u : Value} (hv : VRel W v u) :
  Sim g W (PySem.holding [u] (pyIter u) >>= fun it => runOwn (.forLoop t it body [] env) env) (itOf ev.hd v >>= fun i => loopD wlim (nextOf i (targetV ev t)) mb 0) FlowRel := by
 intro A W₁ mm st s Q E hA hx hS hP
 have hP : Post g W₁ s FlowRel Q E ((refM v >>= fun i => (rdO i >>= fun o => itO ev.hd i o) >>= fun i => loopD wlim (nextOf i (targetV ev t)) mb 0) st) := by
  rw [← bind_assoc']; exact hP
 replace hP := Post.get hP; obtain ⟨i, hi, hP⟩ := hP
 rw [bind_assoc'] at hP
 replace hP := Post.get hP; obtain ⟨o, ho, hP⟩ := hP
 obtain rfl := rO hi
 obtain ⟨hi, rfl⟩ := hv
 have hx₁ := hx.trans (W₁.ext_lbl [s.heap.objs.size])
 have own : ∀ {At : Nat → Heap → Prop} {next : Nat → M Bool} {ob : Obj}, ob.isFreed = false → Head g (W₁.lbl [s.heap.objs.size]) t (.ref s.heap.objs.size) env [s.heap.objs.size] At next → At 0 (s.heap.push ob) → Post g W₁ s FlowRel Q E (loopD wlim next mb 0 st) →
   wpAny (model g.c.prog g.c.w) A (runOwn (.forLoop t (.ref s.heap.objs.size) body [] env) env) Q E { s with heap := s.heap.push ob } := fun _ H hAt hP =>
  sim_forOwn T H (fun ps => hb ps _ hx₁) hA hS (fun a o e => Heap.get?_push_of_some _ e) (fun a ha => by obtain rfl := smp ha; exact Nat.le_refl _) hAt hP
 cases o with
 | list xs =>
  obtain ⟨vs, hL, hrel⟩ := (hS.inv.own i _ ho).isList
  rw [hx.eq i hi] at hL
  refine wpAny_bind (wpAny_holding (wpAny_pyIter_list hL (own rfl (head_list (O.ext hx₁) (i := i) (ltl hi hx₁.le)) ?_ hP)))
  rw [hx₁.eq i hi]
  exact ⟨_, Heap.get?_push_size _ rfl, rfl, rfl⟩
 | dictI es ver =>
  have hhd : ev.hd = false := by
   cases q : ev.hd with
   | false => rfl
   | true => rw [q] at hP; exact hP.elim
  rw [hhd] at hP
  obtain ⟨hver, kvs, hD, hr⟩ := hS.inv.own i _ ho
  rw [hx.eq i hi] at hD
  have hlt := dict_ne_modules C hS ho trivial
  rw [hx.eq i hi] at hlt
  refine wpAny_bind (wpAny_holding (wpAny_pyIter_dict hlt hD (own rfl (head_dict (O.hd ▸ hhd) (O.ext hx₁) (i := i) (v := ver) (n := es.length) (ltl hi hx₁.le) hver) ?_ hP)))
  rw [hx₁.eq i hi, hr.length]
  exact ⟨_, Heap.get?_push_size _ rfl, rfl, rfl⟩
 | _ => exact hP.elim
theorem of_ite {α : Type} {p : Prop} [Decidable p] {a b : α} (h : (if p then some a else none) = some b) : p ∧ b = a := by
 by_cases q : p
 ·exact ⟨q, (sj ((if_pos q).symm.trans h)).symm⟩
 ·exact zN ((if_neg q).symm.trans h)
theorem optAll_ints {W : Wd} : ∀ {vs : List V} {us : List Value} {ns : List Int}, optAll (vs.map intOf) = some ns → VsRel W vs us → IntsAre us ns
 | [], [], _, e, _ => by obtain rfl := sj e; exact .nil
 | v :: xs, u :: us, ns, e, h => by
  rw [List.map_cons] at e
  cases q : intOf v with
  | none => rw [q] at e; exact zN e
  | some x =>
   rw [q] at e
   have e : (optAll (xs.map intOf)).map (x :: ·) = some ns := e
   obtain rfl := iO q
   obtain ⟨ms, e1, rfl⟩ := Option.map_eq_some_iff.mp e
   obtain ⟨t, rfl⟩ := h.1
   exact .cons _ _ (optAll_ints e1 h.2)
 | [], _ :: _, _, _, h => h.elim
 | _ :: _, [], _, _, h => h.elim
theorem range_small {a b c : Int} (h : 0 < c ∧ c < 1000 ∧ 0 ≤ a ∧ a < 1000 ∧ 0 ≤ b ∧ b < 1000) : Builtin.Range.small a b c = true := by
 obtain ⟨h1, h2, h3, h4, h5, h6⟩ := h
 have fits : ∀ i : Int, -2000 ≤ i → i ≤ 2000 → Builtin.Range.rangeFitsLong i = true := fun i p q => by
  unfold Builtin.Range.rangeFitsLong
  rw [Bool.and_eq_true, decide_eq_true_eq, decide_eq_true_eq]
  lia
 have hs : 0 ≤ Builtin.Range.rangeSize a b c ∧ Builtin.Range.rangeSize a b c ≤ 1000 := by
  unfold Builtin.Range.rangeSize
  rw [if_pos h1]
  split
  ·have e1 : 0 ≤ (b - a - 1) / c := Int.ediv_nonneg (by lia) (by lia)
   have e2 : (b - a - 1) / c ≤ b - a - 1 := Int.ediv_le_self _ (by lia)
   lia
  ·lia
 unfold Builtin.Range.small
 rw [fits a (by lia) (by lia), fits b (by lia) (by lia), fits c (by lia) (by lia), fits _ (by lia) (by lia), if_pos h1, fits (b + (c - 1)) (by lia) (by lia), Bool.or_true]
 rfl
theorem sim_rangeLoop (hhd : g.hd = false) (T : EnvTop g env) (O : EnvOk g W ev env) {t : Expr} {body : List Stmt} {mb : M Flow} (hb : ∀ ps W', Ext W W' → Sim (g.pin ps) W' (execs body env) mb FlowRel) {a b c : Int} {t1 t2 t3 : Tok}
  (hc : 0 < c ∧ c < 1000 ∧ 0 ≤ a ∧ a < 1000 ∧ 0 ≤ b ∧ b < 1000) {A : Around} {W₁ : Wd} {mm : Str → Option Value} {st : S} {s : Shared} {Q : PySem.Flow → Shared → Prop} {E : Value → Shared → Prop} {tk : Nat} (hA : AOk g A) (hx : Ext W W₁) (hS : St g W₁ mm st s)
  (hP : Post g W₁ s FlowRel Q E (loopD wlim (nextR a b c (targetV ev t)) mb 0 st)) :
  wpAny (model g.c.prog g.c.w) A (PySem.holding [.ref s.heap.objs.size] (pyIter (.ref s.heap.objs.size)) >>= fun it => runOwn (.forLoop t it body [] env) env) Q E { s with heap := s.heap.push { cls := .type "range", data := .fields #[.int a t1, .int b t2, .int c t3] }, toks := tk } := by
 refine wpAny_bind (wpAny_holding (wpAny_pyIter_range (IsRange.new ..) (range_small hc) ?_))
 have hS₀ : St g W₁ mm st { s with heap := s.heap.push { cls := .type "range", data := .fields #[.int a t1, .int b t2, .int c t3] }, toks := tk } := (hS.push _).toks _
 have hx₁ := hx.trans (W₁.ext_lbl [(s.heap.push { cls := .type "range", data := .fields #[.int a t1, .int b t2, .int c t3] }).objs.size])
 refine sim_forOwn T (head_range hhd (O.ext hx₁) hc.1) (fun ps => hb ps _ hx₁) hA hS₀ (fun a o e => Heap.get?_push_of_some _ e) (fun a ha => by obtain rfl := smp ha; exact Nat.le_refl _) ?_ (hP.move (Ext.refl _) Same.mk')
 show Heap.get? _ _ = _
 rw [Heap.get?_push_size _ rfl]
 simp
theorem rangeM_some {vs : List V} {p : Int × Int × Int} (h : rangeM vs = some p) : ∃ ns, optAll (vs.map intOf) = some ns ∧ ((∃ n, ns = [n] ∧ (0 ≤ n ∧ n < 1000) ∧ p = (0, n, 1)) ∨ (∃ a b c, ns = [a, b, c] ∧ (0 < c ∧ c < 1000 ∧ 0 ≤ a ∧ a < 1000 ∧ 0 ≤ b ∧ b < 1000) ∧ p = (a, b, c))) := by
 unfold rangeM at h
 cases q : optAll (vs.map intOf) with
 | none => rw [q] at h; exact zN h
 | some ns =>
  rw [q] at h
  refine ⟨ns, rfl, ?_⟩
  cases ns with
  | nil => nomatch h
  | cons a r =>
   cases r with
   | nil => exact .inl ⟨a, rfl, of_ite h⟩
   | cons b r =>
    cases r with
    | nil => nomatch h
    | cons c r =>
     cases r with
     | nil => exact .inr ⟨a, b, c, rfl, of_ite h⟩
     | cons _ _ => nomatch h
theorem ints1 {us : List Value} {a : Int} (h : IntsAre us [a]) : ∃ t, us = [.int a t] := by
 cases h with
 | cons _ t h => cases h; exact ⟨t, rfl⟩
theorem ints3 {us : List Value} {a b c : Int} (h : IntsAre us [a, b, c]) : ∃ t1 t2 t3, us = [.int a t1, .int b t2, .int c t3] := by
 cases h with
 | cons _ t1 h => cases h with
  | cons _ t2 h => obtain ⟨t3, rfl⟩ := ints1 h; exact ⟨t1, t2, t3, rfl⟩
theorem sim_rangeCall (hhd : g.hd = false) (T : EnvTop g env) (O : EnvOk g W ev env) {t : Expr} {body : List Stmt} {mb : M Flow} (hb : ∀ ps W', Ext W W' → Sim (g.pin ps) W' (execs body env) mb FlowRel) {vs : List V} {us : List Value} (hv : VsRel W vs us) :
  SimT g W (fun A Q E s => wpAny (model g.c.prog g.c.w) A (call (.type "range") us []) (fun r s' => wpAny (model g.c.prog g.c.w) A (PySem.holding [r] (pyIter r) >>= fun it => runOwn (.forLoop t it body [] env) env) Q E s') E s)
   ((getM fun _ => rangeM vs) >>= fun p => loopD wlim (nextR p.1 p.2.1 p.2.2 (targetV ev t)) mb 0) FlowRel := by
 intro A W₁ mm st s Q E hA hx hS hP
 replace hP := Post.get hP; obtain ⟨p, hp, hP⟩ := hP
 obtain ⟨ns, q, hp⟩ := rangeM_some hp
 have hi := optAll_ints q hv
 rcases hp with ⟨n, rfl, h, rfl⟩ | ⟨a, b, c, rfl, h, rfl⟩
 ·obtain ⟨t1, rfl⟩ := ints1 hi
  exact call_range_1 (sim_rangeLoop hhd T O hb ⟨by decide, by decide, by decide, by decide, h.1, h.2⟩ hA hx hS hP)
 ·obtain ⟨t1, t2, t3, rfl⟩ := ints3 hi
  exact call_range_3 (Int.ne_of_gt h.1) (sim_rangeLoop hhd T O hb h hA hx hS hP) (.inl (PyProof.noPylong_small (by lia)))
theorem sim_while (T : EnvTop g env) {test : Expr} {body : List Stmt} {pos : Pos} {mt : M Bool} {mb : M Flow} (ht : Sim g W (isTrue test env (eval test env)) mt (fun _ b b' => b' = b)) (hb : Sim g W (execs body env) mb FlowRel) :
  Sim g W (exec (.While test body [] pos) env) (loopD wlim (fun _ => mt) mb 0) FlowRel := by
 intro A W₁ mm st s Q E hA hx hS hP
 refine wpAny_While ?_
 refine codeAny_whileLoop (fun n s' => ∃ k W' mm' st', Ext W W' ∧ St g W' mm' st' s' ∧ Post g W' s' FlowRel Q E (loopD n (fun _ => mt) mb k st')) ?_ wlim ⟨0, W₁, mm, st, hx, hS, hP⟩
 rintro n s₁ ⟨k, W₂, mm₂, st₂, hx₂, hS₂, hP⟩
 cases n with
 | zero => exact hP.elim
 | succ n =>
  refine ht A W₂ mm₂ st₂ s₁ _ _ hA hx₂ hS₂ ?_
  rw [loopD, bR] at hP
  revert hP
  cases mt st₂ with
  | fail => exact id
  | exc x st₃ => exact fun hP W₃ mm₃ s₃ e hx₃ hS₃ hs₃ ht₃ => T.back hA hS₃ ht₃ fun s₅ hS₅ hs₅ ht₅ => hP W₃ mm₃ s₅ e hx₃ hS₅ (hs₃.trans hs₅) ht₅
  | ok b st₃ =>
   intro hP W₃ mm₃ s₃ b' hx₃ hS₃ hs₃ hb'
   obtain rfl : b' = b := hb'
   have hP := Post.move (r := (if b' = true then mb >>= loopGo (loopD n (fun x => mt) mb (k + 1)) else pure Flow.next) st₃) hP hx₃ hs₃
   cases b' with
   | false =>
    rw [if_neg Bool.false_ne_true] at hP ⊢
    exact wpAny_execs_nil (hP W₃ mm₃ s₃ _ (Ext.refl _) hS₃ (Same.refl _) rfl)
   | true =>
    rw [if_pos rfl] at hP ⊢
    refine hb A W₃ mm₃ st₃ s₃ _ _ hA (hx₂.trans hx₃) hS₃ ?_
    rw [bR] at hP
    revert hP
    cases mb st₃ with
    | fail => exact id
    | exc x st₄ => exact fun hP W₄ mm₄ s₄ e hx₄ hS₄ hs₄ ht₄ => T.back hA hS₄ ht₄ fun s₅ hS₅ hs₅ ht₅ => hP W₄ mm₄ s₅ e hx₄ hS₅ (hs₄.trans hs₅) ht₅
    | ok f st₄ =>
     intro hP W₄ mm₄ s₄ f' hx₄ hS₄ hs₄ hf
     have hP := hP.move hx₄ hs₄
     have again : Post g W₄ s₄ FlowRel Q E (loopD n (fun _ => mt) mb (k + 1) st₄) → ∃ m, m < n + 1 ∧ ∃ k W' mm' st', Ext W W' ∧ St g W' mm' st' s₄ ∧ Post g W' s₄ FlowRel Q E (loopD m (fun _ => mt) mb k st') :=
      fun hP => ⟨n, Nat.lt_succ_self _, k + 1, W₄, mm₄, st₄, (hx₂.trans hx₃).trans hx₄, hS₄, hP⟩
     cases f with
     | next => obtain rfl : f' = .next := hf; exact again hP
     | cont => obtain rfl : f' = .cont := hf; exact again hP
     | brk => obtain rfl : f' = .brk := hf; exact hP W₄ mm₄ s₄ _ (Ext.refl _) hS₄ (Same.refl _) rfl
     | ret v => obtain ⟨u, rfl, hv⟩ := hf; exact hP W₄ mm₄ s₄ _ (Ext.refl _) hS₄ (Same.refl _) ⟨u, rfl, hv⟩
end
end
section
noncomputable def Wd.lblF (W : Wd) (C : Addr) : Wd := { W with lab := fun a => if a = C then some .frame else W.lab a }
theorem Wd.ext_lblF (W : Wd) (C : Addr) : Ext W (W.lblF C) := ⟨Nat.le_refl _, fun _ _ => rfl⟩
section
variable {c : Cx} {fr : Frs} {pins : List (Addr × Obj)} {W : Wd} {σ : Nat → Option AObj} {h : Heap} {C : Addr} {m' : Str → Option Value}
theorem Inv.newFrame (I : Inv c fr pins W σ h) (hC : W.lab C = none) (hb : c.base.objs.size ≤ C) (hn : h.Ns C m') : Inv c ((C, m') :: fr) pins (W.lblF C) σ h := by
 have old : ∀ x t, W.lab x = some t → (W.lblF C).lab x = some t := fun x t hx => by
  show (if x = C then some Tag.frame else W.lab x) = some t
  rw [if_neg (fun q => by rw [q, hC] at hx; exact zN hx)]; exact hx
 refine ⟨I.stays, ?_, I.pin, I.dom, fun i o e => (I.own i o e).move (W.ext_lblF C) rfl (fun _ _ => rfl) (fun _ _ x => x) (fun _ _ _ x => x), ?_, fun p hp => old _ _ (I.lpin p hp), fun i o e n => old _ _ (I.lown i o e n), fun i fs e => old _ _ (I.ldic i fs e), ?_, ?_, I.sz⟩
 ·intro p hp
  rcases List.mem_cons.mp hp with rfl | hp
  ·exact hn
  ·exact I.frs p hp
 ·intro p hp
  rcases List.mem_cons.mp hp with rfl | hp
  ·exact if_pos rfl
  ·exact old _ _ (I.lfr p hp)
 ·intro a ha
  by_cases q : a = C
  ·obtain ⟨o, _, _, ho, _⟩ := hn
   exact ⟨⟨base_none (q ▸ hb), fun _ => q ▸ hb⟩, o, q ▸ ho⟩
  ·have e : (W.lblF C).lab a = W.lab a := if_neg q
   rw [e] at ha ⊢
   exact I.new a ha
 ·rw [List.map_cons, List.nodup_cons]
  refine ⟨fun q => ?_, I.nodup⟩
  obtain ⟨p, hp, e⟩ := List.mem_map.mp q
  have := I.lfr p hp
  rw [e, hC] at this; exact zN this
theorem Inv.dropFrame (I : Inv c ((C, m') :: fr) pins W σ h) : Inv c fr pins (W.unl [C]) σ h := by
 have lC := I.lfr _ (.head _)
 have nd : C ∉ fr.map (·.1) := by have := I.nodup; rw [List.map_cons, List.nodup_cons] at this; exact this.1
 have keep : ∀ a t, W.lab a = some t → a ≠ C → (W.unl [C]).lab a = some t := fun a t ha q => by
  show (if a ∈ [C] then none else W.lab a) = some t
  rw [if_neg (fun z => q (smp z))]; exact ha
 refine ⟨I.stays, fun p hp => I.frs p (.tail _ hp), I.pin, I.dom, fun i o e => (I.own i o e).move (W.ext_unl [C]) rfl (fun _ _ => rfl) (fun _ _ x => x) (fun _ _ _ x => x),
  fun p hp => keep _ _ (I.lfr p (.tail _ hp)) (fun q => nd (q ▸ List.mem_map_of_mem hp)), fun p hp => keep _ _ (I.lpin p hp) (ne_of_lab (I.lpin p hp) lC (fun h => (by contradiction))),
  fun i o e n => keep _ _ (I.lown i o e n) (ne_of_lab (I.lown i o e n) lC (fun h => (by contradiction))), fun i fs e => keep _ _ (I.ldic i fs e) (ne_of_lab (I.ldic i fs e) lC (fun h => (by contradiction))), fun a ha => ?_, ?_, I.sz⟩
 ·by_cases q : a ∈ [C]
  ·exact absurd (show (if a ∈ [C] then none else W.lab a) = none by rw [if_pos q]) ha
  ·have e : (W.unl [C]).lab a = W.lab a := if_neg q
   rw [e] at ha ⊢
   exact I.new a ha
 ·have := I.nodup; rw [List.map_cons, List.nodup_cons] at this; exact this.2
theorem Inv.swap {p q : Addr × (Str → Option Value)} (I : Inv c (p :: q :: fr) pins W σ h) : Inv c (q :: p :: fr) pins W σ h := by
 have hm : ∀ {x}, x ∈ q :: p :: fr → x ∈ p :: q :: fr := fun {x} hx => by
  rcases List.mem_cons.mp hx with rfl | hx
  ·exact .tail _ (.head _)
  ·rcases List.mem_cons.mp hx with rfl | hx
   ·exact .head _
   ·exact .tail _ (.tail _ hx)
 refine ⟨I.stays, fun x hx => I.frs x (hm hx), I.pin, I.dom, I.own, fun x hx => I.lfr x (hm hx), I.lpin, I.lown, I.ldic, I.new, ?_, I.sz⟩
 have := I.nodup
 simp only [List.map_cons, List.nodup_cons, List.mem_cons, not_or] at this ⊢
 exact ⟨⟨fun e => this.1.1 e.symm, this.2.1⟩, this.1.2, this.2.2⟩
end
noncomputable def gc (g : G) (C : Addr) (fr : Frs) (ps : List (Addr × Obj)) : G := { g with L := C, fr := fr, pins := ps ++ g.pins }
section
variable {g : G} {W : Wd} {ev : AEnv} {env : Env}
theorem AOk.gc {A : Around} {C : Addr} {fr : Frs} {ps : List (Addr × Obj)} (h : AOk g A) (hfr : ∀ L ∈ g.L :: g.fr.map (·.1), L ∈ C :: fr.map (·.1)) : AOk (gc g C fr ps) A := ⟨fun e he => ⟨(h.fo e he).1, let ⟨L, a, b⟩ := (h.fo e he).2; ⟨L, a, hfr L b⟩⟩, h.frames, h.hd.imp_right fun ⟨a, e, oe, vs, b, c, d⟩ => ⟨a, e, oe, vs, b, List.mem_append_right _ c, d⟩, h.k, h.depth, h.units⟩
theorem Gd.gc {C : Addr} {fr : Frs} {ps : List (Addr × Obj)} (h : Gd g) : Gd (gc g C fr ps) := ⟨h.C, h.F, h.k⟩
noncomputable abbrev ifsT (ifs : List Expr) (env : Env) : Sem Bool := forIn ifs true fun c r => if r = true then do let ok ← PySem.isTrue c env (eval c env); pure (ForInStep.yield ok) else pure (ForInStep.yield r)
theorem forIn_false {env : Env} : ∀ ifs : List Expr, (forIn ifs false fun c r => if r = true then do let ok ← PySem.isTrue c env (eval c env); pure (ForInStep.yield ok) else pure (ForInStep.yield r) : Sem Bool) = pure false
 | [] => rfl
 | c :: r => by
  rw [List.forIn_cons]
  simp only [Bool.false_eq_true, if_false, pure_bind]
  exact forIn_false r
theorem sim_tests {P : PI} {Φ : Phi} {env : Env} : ∀ (ifs : List Expr) {W : Wd}, (∀ c ∈ ifs, ∀ W', Ext W W' → Sim g W' (PySem.isTrue c env (eval c env)) (denT P Φ ev c (denE P Φ ev c)) (fun _ b b' => b' = b)) →
  Sim g W (ifsT ifs env) (denAll P Φ ev ifs) (fun _ b b' => b' = b)
 | [], W, h => Sim.pure fun _ _ => rfl
 | c :: r, W, h => by
  unfold ifsT
  rw [List.forIn_cons]
  simp only [if_true]
  show Sim g W _ (denT P Φ ev c (denE P Φ ev c) >>= fun b => if b = true then denAll P Φ ev r else pure false) _
  rw [bind_assoc]
  refine (h c (.head _) W (Ext.refl _)).bind fun W₁ b b' hx hb => ?_
  subst hb
  rw [pure_bind]
  cases b' with
  | true => exact sim_tests r fun c hc W' hx' => h c (.tail _ hc) W' (hx.trans hx')
  | false =>
   show Sim g W₁ (forIn r false _) _ _
   rw [forIn_false]
   exact Sim.pure fun _ _ => rfl
theorem codeAny_compLoopO {prog : Program} {w : World} {A : Around} {s : Shared} {R : Result → Shared → Prop} {elt target iter : Expr} {ifs : List Expr} {scope : Scope} {pos : Pos} {it acc : Value} {env : Env} (I : Nat → Shared → Prop)
  (turn : ∀ n s, I n s → wpAny (model prog w) A (pyNext it) (fun r s₁ => match r with
   | none => R (.ok .next) s₁
   | some v => wpAny (model prog w) A (letOwnedTupleGo target it v) (fun _ s₂ => wpAny (model prog w) A (assign target env v) (fun _ s₃ =>
     wpAny (model prog w) A (ifsT ifs env) (fun ok s₃ =>
      if ok = true then wpAny (model prog w) A (eval elt env) (fun x s₄ =>
       wpAny (model prog w) A (call (.builtin "list.append") [acc, x]) (fun _ s₅ => ∃ m, m < n ∧ I m s₅) (notedBy (model prog w) A env fun e s' => R (.error e) s') s₄) (notedBy (model prog w) A env fun e s' => R (.error e) s') s₃
      else ∃ m, m < n ∧ I m s₃) (notedBy (model prog w) A env fun e s' => R (.error e) s') s₃) (notedBy (model prog w) A env fun e s' => R (.error e) s') s₂) (notedBy (model prog w) A env fun e s' => R (.error e) s') s₁)
   (notedBy (model prog w) A env fun e s' => R (.error e) s') s)
  (n : Nat) (h : I n s) :
  codeAny (model prog w) A (.compLoop (.ListComp elt [⟨target, iter, ifs, 0⟩] scope pos) 0 it acc env) R s := by
 refine codeAny_loop rfl I (fun n s hI => ?_) n h
 show wpAny _ A ((compTurn (.ListComp elt [⟨target, iter, ifs, 0⟩] scope pos) 0 it acc env).onRaise (fun x => do noteFrame x env; theTreesLotGoes x)) _ _ s
 refine wpAny_noted ?_
 rw [compTurn_list]
 refine wpAny_bind (wpAny_standAt (wpAny_bind (wpAny_mono (turn n s hI) (fun r s₁ h₁ => ?_) fun _ _ h' => h')))
 cases r with
 | none => exact wpAny_pure h₁
 | some v =>
  refine wpAny_bind (wpAny_mono h₁ (fun _ s₂ h₂ => ?_) fun _ _ h' => h')
  refine wpAny_bind (wpAny_mono h₂ (fun _ s₃ h₃ => wpAny_bind (wpAny_mono h₃ (fun ok s₃ h₃ => ?_) fun _ _ h' => h')) fun _ _ h' => h')
  cases ok with
  | false => exact wpAny_pure ⟨rfl, h₃⟩
  | true =>
   exact wpAny_bind (wpAny_bind (wpAny_mono h₃ (fun x s₄ h₄ => wpAny_bind (wpAny_mono h₄ (fun _ s₅ h₅ => wpAny_pure (wpAny_pure ⟨rfl, h₅⟩)) fun _ _ h' => h')) fun _ _ h' => h'))
theorem Post.bindX {ps : List (Addr × Obj)} {β δ α γ : Type} {s : Shared} {st : S} {m : M β} {k : β → M δ} {R : Wd → β → α → Prop} {R' : Wd → δ → γ → Prop} {Q : α → Shared → Prop} {Q' : γ → Shared → Prop} {E E' : Value → Shared → Prop} (hP : Post g W s R' Q' E (Mine.noExc (m >>= k) st))
  (h : ∀ b st' W' mm' s' a, Ext W W' → St (g.pin ps) W' mm' st' s' → Same s s' → R W' b a → Post g W' s' R' Q' E (Mine.noExc (k b) st') → Q a s') : Post (g.pin ps) W s R Q E' (m st) := by
 unfold Mine.noExc at hP
 rw [bR] at hP
 revert hP
 cases m st with
 | fail => exact False.elim
 | exc x st' => exact False.elim
 | ok b st' => exact fun hP W' mm' s' a hx hS hs hr => h b st' W' mm' s' a hx hS hs hr (Post.move (r := Mine.noExc (k b) st') hP hx hs)
theorem nposX {α γ : Type} {Is : List Addr} {s : Shared} {st : S} {m : M Bool} {K : Bool → M γ} {R : Wd → γ → α → Prop} {Q : α → Shared → Prop} {E : Value → Shared → Prop} {At : Heap → Prop} {Qt Qf : Shared → Prop} (hP : Post g W s R Q E (noExc (m >>= K) st))
  (ht : ∀ st' W' mm' s', Ext W W' → (∀ a ∈ Is, W'.lab a = some .pin) → St g W' mm' st' s' → Same s s' → At s'.heap → Post g W' s' R Q E (noExc (K true) st') → Qt s')
  (hf : ∀ st' W' mm' s', Ext W W' → St g W' mm' st' s' → Same s s' → Post g W' s' R Q E (noExc (K false) st') → Qf s') : NPost g W s Is At Qt Qf (m st) := by
 unfold Mine.noExc at hP
 rw [bR] at hP
 revert hP
 cases m st with
 | fail => exact False.elim
 | exc x st' => exact False.elim
 | ok b st' =>
  cases b with
  | true => exact fun hP W' mm' s' hx hl hS hs hA => ht st' W' mm' s' hx hl hS hs hA (Post.move (r := noExc (K true) st') hP hx hs)
  | false => exact fun hP W' mm' s' hx hS hs => hf st' W' mm' s' hx hS hs (Post.move (r := noExc (K false) st') hP hx hs)
theorem sim_compCode {cenv : Env} {elt target iter : Expr} {ifs : List Expr} {scope : Scope} {pos : Pos} {itv : Value} {acc : Nat} {Is : List Addr} {At : Nat → Heap → Prop} {next : Nat → M Bool} {mt : M Bool} {me : M V}
  (Hd : Head g W target itv cenv Is At next) (hacc : acc < W.n) (ht : ∀ ps W', Ext W W' → Sim (g.pin ps) W' (ifsT ifs cenv) mt (fun _ b b' => b' = b)) (he : ∀ ps W', Ext W W' → Sim (g.pin ps) W' (eval elt cenv) me VR) {A : Around} {mm : Str → Option Value} {st : S} {s : Shared} {Rr : Result → Shared → Prop}
  (hA : AOk g A) (hS : St g W mm st s) (hl : ∀ a ∈ Is, W.lab a = some .pin) (hne : ∀ p ∈ g.pins, p.1 ∉ Is) (hAt : At 0 s.heap) {fuel : Nat} {E : Value → Shared → Prop}
  (hP : Post g W s (fun _ _ _ => True) (fun (_ : Unit) s' => Rr (.ok .next) s') E (noExc (loopD fuel next (compTurnM acc mt me) 0) st)) :
  codeAny (model g.c.prog g.c.w) A (.compLoop (.ListComp elt [⟨target, iter, ifs, 0⟩] scope pos) 0 itv (.ref (W.ρ acc)) cenv) Rr s := by
 refine codeAny_compLoopO (fun n s' => ∃ k W' mm' st', Ext W W' ∧ (∀ a ∈ Is, W'.lab a = some .pin) ∧ St g W' mm' st' s' ∧ At k s'.heap ∧ Post g W' s' (fun _ _ _ => True) (fun (_ : Unit) s' => Rr (.ok .next) s') E (noExc (loopD n next (compTurnM acc mt me) k) st')) ?_ fuel ⟨0, W, mm, st, Ext.refl _, hl, hS, hAt, hP⟩
 rintro n s₁ ⟨k, W₂, mm₂, st₂, hx₂, hl₂, hS₂, hAt₂, hP⟩
 cases n with
 | zero => exact hP.elim
 | succ n =>
  refine Hd.step k A W₂ mm₂ st₂ s₁ _ _ _ hA hx₂ hS₂ hl₂ hne hAt₂ (nposX hP ?_ ?_)
  ·intro st₃ W₃ mm₃ s₃ hx₃ hl₃ hS₃ hs₃ hAt₃ hP
   have hth := Hd.there _ _ hAt₃
   have hP : Post g W₃ s₃ (fun _ _ _ => True) (fun (_ : Unit) s' => Rr (.ok .next) s') E (noExc (mt >>= fun b => if b = true then me >>= fun w => appendM acc w >>= fun _ => loopD n next (compTurnM acc mt me) (k + 1) else loopD n next (compTurnM acc mt me) (k + 1)) st₃) := by
    have e : (compTurnM acc mt me >>= loopGo (loopD n next (compTurnM acc mt me) (k + 1))) = (mt >>= fun b => if b = true then me >>= fun w => appendM acc w >>= fun _ => loopD n next (compTurnM acc mt me) (k + 1) else loopD n next (compTurnM acc mt me) (k + 1)) := by
     rw [compTurnM, bind_assoc']
     refine congrArg (mt >>= ·) (funext fun b => ?_)
     cases b with
     | false => rfl
     | true =>
      rw [if_pos rfl, if_pos rfl, bind_assoc']
      refine congrArg (me >>= ·) (funext fun w => ?_)
      rw [bind_assoc']
      rfl
    rw [← e]; exact hP
   refine ht (pinsAt Is s₃.heap) W₃ (hx₂.trans hx₃) A W₃ mm₃ st₃ s₃ _ _ hA.pin (Ext.refl _) (hS₃.pinUp hl₃) (hP.bindX fun b st₄ W₄ mm₄ s₄ b' hx₄ hS₄ hs₄ hb hP => ?_)
   obtain rfl : b' = b := hb
   have hx' := (hx₂.trans hx₃).trans hx₄
   cases b' with
   | false =>
    rw [if_neg Bool.false_ne_true] at hP ⊢
    obtain ⟨hkeep, hl₄⟩ := hS₄.pinned hth
    exact ⟨n, Nat.lt_succ_self _, k + 1, W₄, mm₄, st₄, hx', hl₄, hS₄.pinDown, Hd.frame _ _ _ hAt₃ hkeep, hP⟩
   | true =>
    rw [if_pos rfl] at hP ⊢
    refine he (pinsAt Is s₃.heap) W₄ hx' A W₄ mm₄ st₄ s₄ _ _ hA.pin (Ext.refl _) hS₄ (hP.bindX fun w st₄ W₅ mm₄ s₄ u hx₄ hS₄ hs₄ hw hP => ?_)
    have hx' := hx'.trans hx₄
    have hsim := sim_append (g := g.pin (pinsAt Is s₃.heap)) (W := W₅) (i := acc) (v := w) (u := u) (ltl hacc hx'.le) hw
    rw [hx'.eq acc hacc] at hsim
    refine hsim A W₅ mm₄ st₄ s₄ _ _ hA.pin (Ext.refl _) hS₄ (hP.bindX fun _ st₅ W₆ mm₅ s₅ _ hx₅ hS₅ hs₅ _ hP => ?_)
    obtain ⟨hkeep, hl₅⟩ := hS₅.pinned hth
    exact ⟨n, Nat.lt_succ_self _, k + 1, W₆, mm₅, st₅, hx'.trans hx₅, hl₅, hS₅.pinDown, Hd.frame _ _ _ hAt₃ hkeep, hP⟩
  ·intro st₃ W₃ mm₃ s₃ hx₃ hS₃ hs₃ hP
   exact hP W₃ mm₃ s₃ () (Ext.refl _) hS₃ (Same.refl _) trivial
end
end
section
section
variable {g : G} {W : Wd} {ev : AEnv} {env : Env}
noncomputable def closL (cells : List (Str × Addr)) : List (Str × NameKind) → List (Str × Addr) → List (Str × Addr)
 | [], acc => acc
 | (n, k) :: r, acc => closL cells r (if k == .free then (n, (cells.lookup n).getD 0) :: acc else acc)
theorem clos_forIn {env : Env} : ∀ (names : List (Str × NameKind)) (acc : List (Str × Addr)), (∀ p ∈ names, p.2 = .free → (env.cells.lookup p.1).isSome = true) →
  (forIn names acc fun x r => if (x.2 == NameKind.free) = true then do let a ← cellOf env x.1; pure (ForInStep.yield ((x.1, a) :: r)) else pure (ForInStep.yield r) : Sem (List (Str × Addr))) = pure (closL env.cells names acc)
 | [], acc, _ => rfl
 | (n, k) :: r, acc, h => by
  rw [List.forIn_cons]
  by_cases hk : (k == NameKind.free) = true
  ·obtain ⟨a, ha⟩ := Option.isSome_iff_exists.mp (h (n, k) (.head _) (by simpa using hk))
   have hc : cellOf env n = pure a := by unfold cellOf; rw [ha]
   have e : closL env.cells ((n, k) :: r) acc = closL env.cells r ((n, a) :: acc) := by
    show closL env.cells r (if k == .free then (n, (env.cells.lookup n).getD 0) :: acc else acc) = _
    rw [if_pos hk, ha]; rfl
   rw [e, ← clos_forIn r ((n, a) :: acc) fun p hp => h p (.tail _ hp)]
   show ((if (k == NameKind.free) = true then do let a ← cellOf env n; pure (ForInStep.yield ((n, a) :: acc)) else pure (ForInStep.yield acc)) >>= _) = _
   rw [if_pos hk, hc, pure_bind, pure_bind]
  ·have e : closL env.cells ((n, k) :: r) acc = closL env.cells r acc := by
    show closL env.cells r (if k == .free then (n, (env.cells.lookup n).getD 0) :: acc else acc) = _
    rw [if_neg hk]
   rw [e, ← clos_forIn r acc fun p hp => h p (.tail _ hp)]
   show ((if (k == NameKind.free) = true then do let a ← cellOf env n; pure (ForInStep.yield ((n, a) :: acc)) else pure (ForInStep.yield acc)) >>= _) = _
   rw [if_neg hk, pure_bind]
theorem closureFor_of {scope : Scope} (h : ∀ p ∈ scope.names, p.2 = .free → (env.cells.lookup p.1).isSome = true) : closureFor scope env = pure (closL env.cells scope.names []) := by
 rw [← clos_forIn scope.names [] h]
 dsimp only [closureFor]
 simp
theorem closL_lookup {cells : List (Str × Addr)} {x : Str} {a : Addr} (ha : cells.lookup x = some a) : ∀ (names : List (Str × NameKind)) (acc : List (Str × Addr)), ((x, NameKind.free) ∈ names ∨ acc.lookup x = some a) → (∀ b, acc.lookup x = some b → b = a) → (closL cells names acc).lookup x = some a
 | [], acc, h, _ => by
  rcases h with h | h
  ·exact zL h
  ·exact h
 | (n, k) :: r, acc, h, hu => by
  unfold closL
  by_cases hk : (k == NameKind.free) = true
  ·rw [if_pos hk]
   by_cases hn : x = n
   ·subst hn
    refine closL_lookup ha r _ (.inr (by rw [List.lookup_cons]; simp [ha])) fun b hb => ?_
    rw [List.lookup_cons] at hb
    simpa [ha, eq_comm] using hb
   ·have hne : (x == n) = false := by simpa using hn
    refine closL_lookup ha r _ ?_ fun b hb => ?_
    ·rcases h with h | h
     ·rcases List.mem_cons.mp h with e | h
      ·exact absurd (congrArg Prod.fst e) hn
      ·exact .inl h
     ·exact .inr (by rw [List.lookup_cons, hne]; exact h)
    ·rw [List.lookup_cons, hne] at hb; exact hu b hb
  ·rw [if_neg hk]
   refine closL_lookup ha r _ ?_ hu
   rcases h with h | h
   ·rcases List.mem_cons.mp h with e | h
    ·cases e; exact absurd rfl hk
    ·exact .inl h
   ·exact .inr h
noncomputable abbrev cE (sc : Scope) (env : Env) (C : Addr) : Env := compEnvC sc (closL env.cells sc.names []) C env
structure CompOk (ev : AEnv) (sc : Scope) : Prop where
 kind : sc.kind = .function
 cell : ∀ p ∈ sc.names, p.2 ≠ .cell
 loc : ∀ p ∈ sc.names, p.2 = .local → sc.names.lookup p.1 = some .local
 free : ∀ p ∈ sc.names, p.2 = .free → ev.names.lookup p.1 = some .cell ∧ (∃ i, ev.cells.lookup p.1 = some i) ∧ sc.names.lookup p.1 = some .free
theorem compOk_of {sc : Scope} (h : compOk ev sc = true) : CompOk ev sc := by
 unfold compOk at h
 rw [Bool.and_eq_true, List.all_eq_true] at h
 have hall : ∀ p ∈ sc.names, p.2 ≠ .cell ∧ (p.2 ≠ .local ∨ sc.names.lookup p.1 = some .local) ∧ (p.2 ≠ .free ∨ (ev.names.lookup p.1 = some .cell ∧ (ev.cells.lookup p.1).isSome = true ∧ sc.names.lookup p.1 = some .free)) := by
  intro p hp
  have := h.2 p hp
  simp only [Bool.and_eq_true, Bool.or_eq_true, bne_iff_ne, beq_iff_eq, ne_eq] at this
  exact ⟨this.1.1, this.1.2, this.2.imp_right fun q => ⟨q.1.1, q.1.2, q.2⟩⟩
 refine ⟨by simpa using h.1, fun p hp => (hall p hp).1, fun p hp q => ?_, fun p hp q => ?_⟩
 ·rcases (hall p hp).2.1 with z | z
  ·exact absurd q z
  ·exact z
 ·rcases (hall p hp).2.2 with z | ⟨a, b, d⟩
  ·exact absurd q z
  ·exact ⟨a, Option.isSome_iff_exists.mp b, d⟩
theorem mem_of_lookup {α β : Type} [BEq α] [LawfulBEq α] {x : α} {y : β} : ∀ {l : List (α × β)}, l.lookup x = some y → (x, y) ∈ l
 | [], h => by exact zN h
 | (a, b) :: r, h => by
  rw [List.lookup_cons] at h
  cases q : x == a with
  | true => rw [q] at h; obtain rfl := sj h; rw [beq_iff_eq] at q; subst q; exact .head _
  | false => rw [q] at h; exact .tail _ (mem_of_lookup h)
theorem map_lookup {f : Str → NameKind → NameKind} {x : Str} : ∀ (l : List (Str × NameKind)), (l.map fun p => (p.1, f p.1 p.2)).lookup x = (l.lookup x).map (f x)
 | [] => rfl
 | (a, b) :: r => by
  rw [List.map_cons, List.lookup_cons, List.lookup_cons]
  cases q : x == a with
  | true => rw [beq_iff_eq] at q; subst q; rfl
  | false => exact map_lookup r
theorem compEnv_names (O : EnvOk g W ev env) {sc : Scope} (x : Str) : (relabel sc env).names.lookup x = (compEnv ev sc).names.lookup x := by
 have h1 : (relabel sc env).names = sc.names.map fun p => (p.1, if (p.2 == NameKind.free && env.scope.kind == .function && env.kindOf p.1 == some .cell) = true then NameKind.cell else p.2) := by
  unfold relabel
  refine List.map_congr_left fun p _ => ?_
  obtain ⟨a, b⟩ := p
  dsimp only
  split <;> rfl
 have h2 : (compEnv ev sc).names = sc.names.map fun p => (p.1, if (p.2 == NameKind.free && ev.names.lookup p.1 == some .cell) = true then NameKind.cell else p.2) := by
  unfold compEnv
  refine List.map_congr_left fun p _ => ?_
  obtain ⟨a, b⟩ := p
  dsimp only
  split <;> rfl
 rw [h1, h2]
 rw [map_lookup (f := fun n k => if (k == NameKind.free && env.scope.kind == .function && env.kindOf n == some .cell) = true then NameKind.cell else k) sc.names,
  map_lookup (f := fun n k => if (k == NameKind.free && ev.names.lookup n == some .cell) = true then NameKind.cell else k) sc.names]
 rw [kindOf_eq O, O.kind]
 simp
theorem compEnv_ok (O : EnvOk g W ev env) {sc : Scope} (K : CompOk ev sc) {C : Addr} {fr : Frs} {ps : List (Addr × Obj)} : EnvOk (gc g C fr ps) W (compEnv ev sc) (cE sc env C) where
 kind := K.kind
 names := compEnv_names O
 globals := O.globals
 builtins := O.builtins
 locals := rfl
 cells := by
  intro x i hk hi
  have hx := compEnv_names O (sc := sc) x
  have h2 : (compEnv ev sc).names = sc.names.map fun p => (p.1, if (p.2 == NameKind.free && ev.names.lookup p.1 == some .cell) = true then NameKind.cell else p.2) := by
   unfold compEnv
   refine List.map_congr_left fun p _ => ?_
   obtain ⟨a, b⟩ := p
   dsimp only
   split <;> rfl
  rw [h2, map_lookup (f := fun n k => if (k == NameKind.free && ev.names.lookup n == some .cell) = true then NameKind.cell else k) sc.names] at hk
  cases hl : sc.names.lookup x with
  | none => rw [hl] at hk; exact zN hk
  | some k =>
   rw [hl, Option.map_some] at hk
   have hm := mem_of_lookup hl
   by_cases hf : k = .free
   ·subst hf
    obtain ⟨h1, _, _⟩ := K.free _ hm rfl
    have hi' : ev.cells.lookup x = some i := hi
    obtain ⟨a1, a2⟩ := O.cells x i h1 hi'
    exact ⟨a1, closL_lookup a2 sc.names [] (.inl hm) fun b hb => by exact zN hb⟩
   ·have : (k == NameKind.free) = false := by simpa using hf
    rw [this] at hk
    simp only [Bool.false_and, Bool.false_eq_true, if_false, Option.some.injEq] at hk
    exact absurd hk (K.cell _ hm)
 hd := O.hd
theorem sim_compTail (O : EnvOk g W ev env) {elt it : Expr} {ifs : List Expr} {sc : Scope} {pos : Pos} (K : CompOk ev sc) {t : Expr} {mt : M Bool} {me : M V}
  (ht : ∀ C fr ps W', Ext W W' → EnvOk (gc g C fr ps) W' (compEnv ev sc) (cE sc env C) → Sim (gc g C fr ps) W' (ifsT ifs (cE sc env C)) mt (fun _ b b' => b' = b))
  (he : ∀ C fr ps W', Ext W W' → EnvOk (gc g C fr ps) W' (compEnv ev sc) (cE sc env C) → Sim (gc g C fr ps) W' (eval elt (cE sc env C)) me VR)
  {A : Around} {W₁ : Wd} {mm : Str → Option Value} {st : S} {s : Shared} {Q : Value → Shared → Prop} {E E₀ : Value → Shared → Prop} {use : Option (Value → Sem Unit)}
  (hA : AOk g A) (hx : Ext W W₁) (hS : St g W₁ mm st s) {ob : Obj} {At : Nat → Heap → Prop} {next : Nat → M Bool} (hf : ob.isFreed = false)
  (Hd : ∀ C fr W', Ext W₁ W' → EnvOk (gc g C fr []) W' (compEnv ev sc) (cE sc env C) → Head (gc g C fr []) W' t (.ref s.heap.objs.size) (cE sc env C) [s.heap.objs.size] At next) (hAt : ∀ h, h.get? s.heap.objs.size = some ob → At 0 h)
  (hre : ∀ (E : Value → Shared → Prop) (s' : Shared) (Q : Value → Shared → Prop), s'.heap.get? s.heap.objs.size = some ob → Q (.ref s.heap.objs.size) s' → wpAny (model g.c.prog g.c.w) A (pyIter (.ref s.heap.objs.size)) Q E s')
  {α : Type} {mu : V → M α} {γ : Type} {Rl : Wd → α → γ → Prop} {Qu : γ → Shared → Prop} (hP : Post g W₁ s Rl Qu E₀ ((noExc (loopD wlim next (compTurnM st.next mt me) 0) >>= fun _ => setLoc st.loc >>= fun _ => mu (.ref st.next)) { heap := upd st.heap st.next (.list []), next := st.next + 1, loc := fun _ => none }))
  (hok : ∀ r st' W' C m' mm' s' D, Ext W₁ W' → St { g with fr := (C, m') :: g.fr } W' mm' st' s' → Same s s' → VRel W' r (.ref D) → Post g W' s' Rl Qu E₀ (mu r st') → compPost (model g.c.prog g.c.w) A E use Q (.ref D) C (.ok .next) s') :
  wpAny (model g.c.prog g.c.w) A (newList []) (fun acc s₃ => wpAny (model g.c.prog g.c.w) A (newFunctionEnv sc env.globals (closL env.cells sc.names []) [] env.qual none .none (some env)) (fun cenv s₄ =>
   codeAny (model g.c.prog g.c.w) A (.compStart (.ListComp elt [⟨t, it, ifs, 0⟩] sc pos) 0 (.ref s.heap.objs.size) acc { cenv with scope := relabel sc env }) (compPost (model g.c.prog g.c.w) A E use Q acc cenv.locals) s₄) E s₃) E { s with heap := s.heap.push ob } := by
 have hnew : (s.heap.push ob).get? s.heap.objs.size = some ob := Heap.get?_push_size _ hf
 have hun := hS.inv.unlab_size (Nat.le_refl s.heap.objs.size)
 have one : ∀ {P : Addr → Prop}, P s.heap.objs.size → ∀ a ∈ [s.heap.objs.size], P a := fun h a ha => by obtain rfl := smp ha; exact h
 have hS₁ := (hS.push ob).lbl (Is := [s.heap.objs.size]) (one hun) (one (base_none hS.inv.sz)) (one ⟨_, hnew⟩)
 have hx₁ := W₁.ext_lbl [s.heap.objs.size]
 generalize hI : s.heap.objs.size = I at *
 have hS₁p := hS₁.pinUp (Is := [I]) fun a ha => lbl_in ha
 generalize hW₂ : W₁.lbl [I] = W₂ at *
 refine wpAny_newObj_type ?_
 have hS₂ := hS₁p.alloc (ob := { cls := .type "list", dict := none, data := .seq ([] : List Value).toArray }) (o := .list []) (fun _ e => (by contradiction)) ⟨[], 0, by rw [Wd.ρ_add]; exact Heap.get?_push_size _ rfl, trivial⟩
 dsimp only at hS₂ ⊢
 generalize hH2 : (s.heap.push ob).push { cls := .type "list", dict := none, data := .seq ([] : List Value).toArray } = H2 at hS₂
 generalize hD : (s.heap.push ob).objs.size = D at hS₂
 generalize hW₃ : W₂.add D 0 false = W₃ at hS₂
 have hx₂ : Ext W₂ W₃ := by rw [← hW₃]; exact W₂.ext_add _ _ _
 have hD3 : W₃.ρ st.next = D := by rw [← hW₃, hS₁.next]; exact W₂.ρ_add _ _ _
 have hn3 : st.next < W₃.n := by rw [← hW₃, hS₁.next]; exact Nat.lt_succ_self _
 refine wpAny_newFunctionEnv K.cell (by intro y hy; simp at hy) (fun h₁ hns₁ hsb₁ => ?_) K.kind
 dsimp only at hns₁ hsb₁ ⊢
 generalize hC : H2.objs.size = C at hns₁ hsb₁ ⊢
 have hCun := hS₂.inv.unlab_size (a := C) (by show H2.objs.size ≤ C; rw [hC]; exact Nat.le_refl _)
 have hkeep : ∀ a o, H2.get? a = some o → h₁.get? a = some o := fun a o e => hsb₁.extBut a o (fun q => by have := Heap.lt_size e; rw [q, hC] at this; exact Nat.lt_irrefl _ this) (Heap.get?_push_of_some _ e)
 have hI₃ := (hS₂.inv.grow hkeep).newFrame hCun (by rw [← hC]; exact hS₂.inv.sz) hns₁
 have hx₃ := W₃.ext_lblF C
 have hl₃ : ∀ a ∈ [I], (W₃.lblF C).lab a = some .pin := fun a ha => by
  obtain rfl := smp ha
  exact hI₃.lpin (a, ob) (List.mem_append_left _ (pinsAt_mem (.head _) hnew))
 have hit : h₁.get? I = some ob := hI₃.pin (I, ob) (List.mem_append_left _ (pinsAt_mem (.head _) hnew))
 have hS₃ : St (gc g C ((g.L, mm) :: g.fr) []) (W₃.lblF C) (fun x => ([] : List (Str × Value)).reverse.lookup x) { heap := upd st.heap st.next (.list []), next := st.next + 1, loc := fun _ => none } { s with heap := h₁, toks := s.toks + ([] : List (Str × Value)).length } :=
  ⟨Inv.pinDown (ps := pinsAt [I] (s.heap.push ob)) hI₃, hS₂.next, fun x v e => zN e⟩
 have hx' := (hx₁.trans hx₂).trans hx₃
 have hxx := hx.trans hx'
 have Oc := compEnv_ok (O.ext hxx) K (C := C) (fr := (g.L, mm) :: g.fr) (ps := [])
 have hok' := fun (st₂ : S) W' (mm' : Str → Option Value) s' => hok (.ref st.next) { st₂ with loc := st.loc } W' C mm' mm s' D
 have hQ : Post (gc g C ((g.L, mm) :: g.fr) []) (W₃.lblF C) { s with heap := h₁, toks := s.toks + ([] : List (Str × Value)).length } (fun _ _ _ => True) (fun (_ : Unit) s' => compPost (model g.c.prog g.c.w) A E use Q (.ref D) C (.ok .next) s') E₀ (noExc (loopD wlim next (compTurnM st.next mt me) 0) { heap := upd st.heap st.next (.list []), next := st.next + 1, loc := fun _ => none }) := by
  rw [bR] at hP
  unfold noExc at hP ⊢
  revert hP
  cases loopD wlim next (compTurnM st.next mt me) 0 { heap := upd st.heap st.next (.list []), next := st.next + 1, loc := fun _ => none } with
  | fail => exact id
  | exc _ _ => exact id
  | ok f st₂ =>
   intro hP W' mm' s' _ hx₅ hS₅ hs₅ _
   have hx₆ := hx'.trans hx₅
   have hs₆ : Same s s' := Same.mk'.trans hs₅
   refine hok' st₂ W' mm' s' hx₆ ⟨Inv.swap hS₅.inv, hS₅.next, hS.loc.ext hx₆⟩ hs₆ ⟨ltl hn3 (hx₃.trans hx₅).le, ?_⟩ (Post.move (r := mu (.ref st.next) { st₂ with loc := st.loc }) hP hx₆ hs₆)
   rw [(hx₃.trans hx₅).eq _ hn3, hD3]
 have loop := sim_compCode (g := gc g C ((g.L, mm) :: g.fr) []) (W := W₃.lblF C) (elt := elt) (iter := it) (scope := sc) (pos := pos) (acc := st.next) (Hd C ((g.L, mm) :: g.fr) (W₃.lblF C) hx' Oc) hn3
  (fun ps W' hx₄ => ht C ((g.L, mm) :: g.fr) ps W' (hxx.trans hx₄) ((Oc.ext hx₄).pin (ps := ps)))
  (fun ps W' hx₄ => he C ((g.L, mm) :: g.fr) ps W' (hxx.trans hx₄) ((Oc.ext hx₄).pin (ps := ps))) (hA.gc fun L hL => .tail _ hL) hS₃ hl₃
  (fun p hp q => by
   have h1 := hS.inv.lpin p hp
   rw [smp q, hun] at h1; exact zN h1)
  (hAt _ hit) (Rr := compPost (model g.c.prog g.c.w) A E use Q (.ref D) C) hQ
 have eD : (W₃.lblF C).ρ st.next = D := hD3
 rw [eD] at loop
 exact codeAny_compStart_list loop (hre _ _ _ hit loop)
theorem sim_compRest (D : CxOk g.c) (O : EnvOk g W ev env) {elt it : Expr} {ifs : List Expr} {sc : Scope} {pos : Pos} (K : CompOk ev sc) {t : Expr} {mt : M Bool} {me : M V}
  (ht : ∀ C fr ps W', Ext W W' → EnvOk (gc g C fr ps) W' (compEnv ev sc) (cE sc env C) → Sim (gc g C fr ps) W' (ifsT ifs (cE sc env C)) mt (fun _ b b' => b' = b))
  (he : ∀ C fr ps W', Ext W W' → EnvOk (gc g C fr ps) W' (compEnv ev sc) (cE sc env C) → Sim (gc g C fr ps) W' (eval elt (cE sc env C)) me VR)
  {A : Around} {W₁ : Wd} {mm : Str → Option Value} {st : S} {s : Shared} {Q : Value → Shared → Prop} {E E₀ : Value → Shared → Prop} {use : Option (Value → Sem Unit)} {v : V} {u : Value}
  (hA : AOk g A) (hx : Ext W W₁) (hS : St g W₁ mm st s) (hv : VRel W₁ v u) {α : Type} {mu : V → M α} {γ : Type} {Rl : Wd → α → γ → Prop} {Qu : γ → Shared → Prop} (hP : Post g W₁ s Rl Qu E₀ ((compRest (compEnv ev sc) t mt me v >>= mu) st))
  (hok : ∀ r st' W' C m' mm' s' D, Ext W₁ W' → St { g with fr := (C, m') :: g.fr } W' mm' st' s' → Same s s' → VRel W' r (.ref D) → Post g W' s' Rl Qu E₀ (mu r st') → compPost (model g.c.prog g.c.w) A E use Q (.ref D) C (.ok .next) s') :
  wpAny (model g.c.prog g.c.w) A (pyIter u) (fun itv s₂ => wpAny (model g.c.prog g.c.w) A (newList []) (fun acc s₃ => wpAny (model g.c.prog g.c.w) A (newFunctionEnv sc env.globals (closL env.cells sc.names []) [] env.qual none .none (some env)) (fun cenv s₄ =>
   codeAny (model g.c.prog g.c.w) A (.compStart (.ListComp elt [⟨t, it, ifs, 0⟩] sc pos) 0 itv acc { cenv with scope := relabel sc env }) (compPost (model g.c.prog g.c.w) A E use Q acc cenv.locals) s₄) E s₃) E s₂) E s := by
 have eM : (compRest (compEnv ev sc) t mt me v >>= mu) = (refM v >>= fun i => rdO i >>= fun o => itO ev.hd i o >>= fun iter => (fun st => (noExc (loopD wlim (nextOf iter (targetV (compEnv ev sc) t)) (compTurnM st.next mt me) 0) >>= fun _ => setLoc st.loc >>= fun _ => mu (.ref st.next)) { heap := upd st.heap st.next (.list []), next := st.next + 1, loc := fun _ => none } : M α)) := by
  unfold compRest itOf
  rw [bind_assoc', bind_assoc']
  refine congrArg (refM v >>= ·) (funext fun i => ?_)
  rw [bind_assoc']
  refine congrArg (rdO i >>= ·) (funext fun o => ?_)
  refine congrArg (itO ev.hd i o >>= ·) (funext fun iter => ?_)
  funext st
  show ((noExc (loopD wlim (nextOf iter (targetV (compEnv ev sc) t)) (compTurnM st.next mt me) 0) >>= fun _ => setLoc st.loc >>= fun _ => pure (V.ref st.next)) >>= mu) _ = _
  rw [bind_assoc']
  rfl
 rw [eM] at hP
 replace hP := Post.get hP; obtain ⟨i, hi, hP⟩ := hP
 replace hP := Post.get hP; obtain ⟨o, ho, hP⟩ := hP
 obtain rfl := rO hi
 obtain ⟨hi, rfl⟩ := hv
 cases o with
 | list xs =>
  obtain ⟨vs, hL, hrel⟩ := (hS.inv.own i _ ho).isList
  refine wpAny_pyIter_list hL (sim_compTail O K ht he hA hx hS rfl (At := fun k h => h.IsListIter s.heap.objs.size (W₁.ρ i) k) (next := nextIt i (targetV (compEnv ev sc) t)) (fun C fr W' hx' O' => ?_) (fun h e => ⟨_, e, rfl, rfl⟩) (fun E s' Q e h => wpAny_pyIter_listiter (l := W₁.ρ i) (i := 0) ⟨_, e, rfl, rfl⟩ h) hP hok)
  rw [← hx'.eq i hi]
  exact head_list O' (ltl hi hx'.le)
 | dictI es ver =>
  have hhd : ev.hd = false := by
   cases q : ev.hd with
   | false => rfl
   | true => rw [q] at hP; exact hP.elim
  rw [hhd] at hP
  obtain ⟨hver, kvs, hD, hr⟩ := hS.inv.own i _ ho
  refine wpAny_pyIter_dict (dict_ne_modules D hS ho trivial) hD (sim_compTail O K ht he hA hx hS rfl (At := fun k h => h.IsKeyIter s.heap.objs.size (W₁.ρ i) k es.length (W₁.ρ ver)) (next := nextD i ver es.length (targetV (compEnv ev sc) t)) (fun C fr W' hx' O' => ?_)
   (fun h e => ⟨_, e, rfl, by rw [hr.length]; rfl⟩) (fun E s' Q e h => wpAny_pyIter_keyiter (d := W₁.ρ i) (i := 0) (n := kvs.length) (ep := W₁.ρ ver) ⟨_, e, rfl, rfl⟩ h) hP hok)
  rw [← hx'.eq i hi, ← hx'.eq ver hver]
  exact head_dict (O.hd ▸ hhd) O' (ltl hi hx'.le) (ltl hver hx'.le)
 | _ => exact hP.elim
theorem St.dropComp {C : Addr} {m' mm : Str → Option Value} {st : S} {s : Shared} (hS : St { g with fr := (C, m') :: g.fr } W mm st s) {h' : Heap} (hs : Heap.SameBut C s.heap h') : St g (W.unl [C]) mm st { s with heap := h' } := by
 have I := hS.inv
 have lC : W.lab C = some .frame := I.lfr (C, m') (.tail _ (.head _))
 have I' := (Inv.swap I).dropFrame
 refine ⟨I'.other (x := C) ?_ (I.fresh (nL lC)) hs, hS.next, hS.loc.ext (W.ext_unl [C])⟩
 show (if C ∈ [C] then none else W.lab C) = none
 rw [if_pos (.head _)]
theorem sim_compUse (D : CxOk g.c) (O : EnvOk g W ev env) {elt it t : Expr} {ifs : List Expr} {sc : Scope} {pos p0 : Pos} (K : CompOk ev sc) {mi : M V} {mt : M Bool} {me : M V} {use : Option (Value → Sem Unit)} {β : Type} {mu : V → M β} {R : Wd → β → Value → Prop}
  (hset : ∀ x, foldedSetIterable it env x = pure x) (hi : Sim g W (eval it env) mi VR)
  (ht : ∀ C fr ps W', Ext W W' → EnvOk (gc g C fr ps) W' (compEnv ev sc) (cE sc env C) → Sim (gc g C fr ps) W' (ifsT ifs (cE sc env C)) mt (fun _ b b' => b' = b))
  (he : ∀ C fr ps W', Ext W W' → EnvOk (gc g C fr ps) W' (compEnv ev sc) (cE sc env C) → Sim (gc g C fr ps) W' (eval elt (cE sc env C)) me VR)
  (hu : ∀ (A : Around) W₁ C m' mm s D r st₁ (Q : Value → Shared → Prop) (E : Value → Shared → Prop), AOk g A → Ext W W₁ → St { g with fr := (C, m') :: g.fr } W₁ mm st₁ s → VRel W₁ r (.ref D) → Post g W₁ s R Q E (mu r st₁) → compPost (model g.c.prog g.c.w) A E use Q (.ref D) C (.ok .next) s) :
  Sim g W (comprehension (.ListComp elt [⟨t, it, ifs, 0⟩] sc pos) sc env p0 (newList []) false (eval it env) use) (mi >>= fun x => compRest (compEnv ev sc) t mt me x >>= mu) R := by
 refine SimT.via (T := fun A Q E s => wpAny (model g.c.prog g.c.w) A (eval it env) (fun u s₁ => wpAny (model g.c.prog g.c.w) A (pyIter u) (fun itv s₂ => wpAny (model g.c.prog g.c.w) A (newList []) (fun acc s₃ => wpAny (model g.c.prog g.c.w) A (newFunctionEnv sc env.globals (closL env.cells sc.names []) [] env.qual none .none (some env)) (fun cenv s₄ =>
   codeAny (model g.c.prog g.c.w) A (.compStart (.ListComp elt [⟨t, it, ifs, 0⟩] sc pos) 0 itv acc { cenv with scope := relabel sc env }) (compPost (model g.c.prog g.c.w) A E use Q acc cenv.locals) s₄) E s₃) E s₂) E s₁) E s) ?_ ?_
 ·intro A Q E s _ h
  exact wpAny_comprehension_free rfl hset (closureFor_of fun p hp hf => let ⟨a, ⟨i, b⟩, _⟩ := K.free p hp hf; by rw [(O.cells _ _ a b).2]; rfl) K.kind K.loc h
 ·refine SimT.seq hi.toT fun W₁ v u hx hv => ?_
  intro A W₂ mm st s Q E hA hx₂ hS hP
  exact sim_compRest D O K ht he hA (hx.trans hx₂) hS (hv.ext hx₂) hP fun r st' W' C m' mm' s' D hx' hS' hs' hD hP' => hu A W' C m' mm' s' D r st' Q E hA ((hx.trans hx₂).trans hx') hS' hD hP'
theorem E_comp (D : CxOk g.c) (O : EnvOk g W ev env) {elt it t : Expr} {ifs : List Expr} {sc : Scope} {pos : Pos} (K : CompOk ev sc) {mi : M V} {mt : M Bool} {me : M V}
  (hset : ∀ x, foldedSetIterable it env x = pure x) (hi : Sim g W (eval it env) mi VR)
  (ht : ∀ C fr ps W', Ext W W' → EnvOk (gc g C fr ps) W' (compEnv ev sc) (cE sc env C) → Sim (gc g C fr ps) W' (ifsT ifs (cE sc env C)) mt (fun _ b b' => b' = b))
  (he : ∀ C fr ps W', Ext W W' → EnvOk (gc g C fr ps) W' (compEnv ev sc) (cE sc env C) → Sim (gc g C fr ps) W' (eval elt (cE sc env C)) me VR) :
  Sim g W (eval (.ListComp elt [⟨t, it, ifs, 0⟩] sc pos) env) (mi >>= fun x => compRest (compEnv ev sc) t mt me x) VR := by
 have e : (fun x => compRest (compEnv ev sc) t mt me x) = fun x => compRest (compEnv ev sc) t mt me x >>= fun r => (pure r : M V) := by
  funext x st
  rw [bR]
  cases compRest (compEnv ev sc) t mt me x st <;> rfl
 rw [e, eval_ListComp]
 refine sim_compUse D O K hset hi ht he (use := none) (mu := fun r => pure r) ?_
 intro A W₁ C m' mm s D r st₁ Q E hA hx hS hD hP
 exact ⟨m', hS.inv.frs (C, m') (.tail _ (.head _)), fun h' hs' => hP (W₁.unl [C]) mm _ _ (W₁.ext_unl [C]) (hS.dropComp hs') Same.heap (hD.ext (W₁.ext_unl [C]))⟩
end
end
section
noncomputable def Tri {α : Type} (n : Nat) (r : Nat → Int) : KasT α → (α → Prop) → Prop
 | .ret a, Q => Q a
 | .ask i j k, Q => i < n ∧ j < n ∧ Tri n r (k (decide (r i < r j))) Q
section
variable {α β : Type} {n : Nat} {r : Nat → Int}
theorem Tri.bind {f : α → KasT β} {Q : β → Prop} : ∀ {t : KasT α}, Tri n r t (fun a => Tri n r (f a) Q) → Tri n r (t.bind f) Q
 | .ret _, h => h
 | .ask _ _ _, h => ⟨h.1, h.2.1, Tri.bind h.2.2⟩
theorem Tri.wp {cmp : Nat → Nat → (Bool → Shared → Prop) → Shared → Prop} {J : Shared → Prop} {Q : α → Shared → Prop} {Q₀ : α → Prop} (hc : ∀ i j C s, i < n → j < n → J s → (∀ s', J s' → C (decide (r i < r j)) s') → cmp i j C s) (hq : ∀ a s, Q₀ a → J s → Q a s) :
  ∀ {t : KasT α} {s : Shared}, Tri n r t Q₀ → J s → t.kasWp cmp Q s
 | .ret _, _, h, hJ => hq _ _ h hJ
 | .ask i j k, s, h, hJ => hc i j _ s h.1 h.2.1 hJ fun s' hJ' => Tri.wp hc hq h.2.2 hJ'
noncomputable def kk (r : Nat → Int) (p : Array Nat) (i : Nat) : Int := r ((p[i]?).getD 0)
theorem kk_getD {p : Array Nat} (i : Nat) : r (p.getD i 0) = kk r p i := by unfold kk; rw [Array.getD_eq_getD_getElem?]
structure Pm (n : Nat) (r : Nat → Int) (p : Array Nat) : Prop where
 perm : p.toList.Perm (List.range n)
 inj : ∀ i j, i < n → j < n → r i = r j → i = j
theorem Pm.size {p : Array Nat} (h : Pm n r p) : p.size = n := by have := h.perm.length_eq; simpa using this
theorem Pm.lt {p : Array Nat} (h : Pm n r p) {i : Nat} (hi : i < n) : p.getD i 0 < n := by
 have hi' : i < p.size := by rw [h.size]; exact hi
 have : p.getD i 0 ∈ p.toList := by simp [Array.getD, hi']
 simpa using h.perm.mem_iff.mp this
theorem Pm.ne {p : Array Nat} (h : Pm n r p) {i j : Nat} (hi : i < n) (hj : j < n) (e : kk r p i = kk r p j) : i = j := by
 rw [← kk_getD, ← kk_getD] at e
 have e := h.inj _ _ (h.lt hi) (h.lt hj) e
 have hs := h.size
 have nd : p.toList.Nodup := h.perm.nodup_iff.mpr List.nodup_range
 have hi' : i < p.toList.length := by simpa [hs] using hi
 have hj' : j < p.toList.length := by simpa [hs] using hj
 have e' : p.toList[i] = p.toList[j] := by
  have hi2 : i < p.size := by lia
  have hj2 : j < p.size := by lia
  simpa [Array.getD, hi2, hj2] using e
 have pw := List.pairwise_iff_getElem.mp nd
 rcases Nat.lt_trichotomy i j with q | q | q
 ·exact absurd e' (pw i j hi' hj' q)
 ·exact q
 ·exact absurd e'.symm (pw j i hj' hi' q)
theorem Pm.move {p q : Array Nat} (h : Pm n r p) (hq : q.Perm p) : Pm n r q := ⟨(Array.perm_iff_toList_perm.mp hq).trans h.perm, h.inj⟩
theorem Pm.ask {p : Array Nat} (h : Pm n r p) {a b : Nat} (ha : a < n) (hb : b < n) {k : Bool → KasT α} {Q : α → Prop} (h1 : kk r p a < kk r p b → Tri n r (k true) Q) (h2 : ¬ kk r p a < kk r p b → Tri n r (k false) Q) : Tri n r (.ask (p.getD a 0) (p.getD b 0) k) Q := by
 refine ⟨h.lt ha, h.lt hb, ?_⟩
 rw [kk_getD (r := r) (p := p), kk_getD (r := r) (p := p)]
 by_cases q : kk r p a < kk r p b
 ·rw [decide_eq_true q]; exact h1 q
 ·rw [decide_eq_false q]; exact h2 q
noncomputable def Asc (r : Nat → Int) (p : Array Nat) (m : Nat) : Prop := ∀ i, i + 1 < m → kk r p i < kk r p (i + 1)
noncomputable def Dsc (r : Nat → Int) (p : Array Nat) (m : Nat) : Prop := ∀ i, i + 1 < m → kk r p (i + 1) < kk r p i
theorem Asc.lt {p : Array Nat} {m : Nat} (h : Asc r p m) {i : Nat} : ∀ j, i < j → j < m → kk r p i < kk r p j
 | 0, h1, _ => absurd h1 (Nat.not_lt_zero _)
 | j + 1, h1, h2 => by
  have h3 := h j h2
  by_cases q : i = j
  ·rw [q]; exact h3
  ·exact Int.lt_trans (Asc.lt h j (by lia) (by lia)) h3
theorem tri_asc {p : Array Nat} (hp : Pm n r p) {Q : Nat → Prop} : ∀ (f m : Nat), 1 ≤ m → m + f ≤ n → Asc r p m → (∀ m', m ≤ m' → m' ≤ m + f → Asc r p m' → (m' < m + f → kk r p m' < kk r p (m' - 1)) → Q m') → Tri n r (kas_asc p f m) Q
 | 0, m, _, _, ha, hq => hq m (Nat.le_refl _) (Nat.le_refl _) ha fun h => absurd h (Nat.lt_irrefl _)
 | f + 1, m, h1, h2, ha, hq => by
  refine hp.ask (by lia) (by lia) (fun q => ?_) fun q => ?_
  ·exact hq m (Nat.le_refl _) (by lia) ha fun _ => q
  ·show Tri n r (kas_asc p f (m + 1)) Q
   have hne : kk r p m ≠ kk r p (m - 1) := fun e => by have := hp.ne (by lia) (by lia) e; lia
   refine tri_asc hp f (m + 1) (by lia) (by lia) (fun i hi => ?_) fun m' a b c d => hq m' (by lia) (by lia) c (fun h => d (by lia))
   by_cases e : i + 1 = m
   ·have : m - 1 = i := by lia
    rw [this] at q hne
    rw [e]; lia
   ·exact ha i (by lia)
theorem tri_desc {p : Array Nat} (hp : Pm n r p) {Q : Array Nat × Nat × Nat → Prop} : ∀ (f m : Nat), 1 ≤ m → m + f ≤ n → Dsc r p m → (∀ m', m ≤ m' → m' ≤ m + f → Dsc r p m' → Q (p, m', 0)) → Tri n r (kas_desc f p m 0) Q
 | 0, m, _, _, ha, hq => hq m (Nat.le_refl _) (Nat.le_refl _) ha
 | f + 1, m, h1, h2, ha, hq => by
  refine hp.ask (by lia) (by lia) (fun q => ?_) fun q => ?_
  ·show Tri n r (kas_desc f p (m + 1) 0) Q
   refine tri_desc hp f (m + 1) (by lia) (by lia) (fun i hi => ?_) fun m' a b c => hq m' (by lia) (by lia) c
   by_cases e : i + 1 = m
   ·have : m - 1 = i := by lia
    rw [this] at q
    rw [e]; exact q
   ·exact ha i (by lia)
  ·refine hp.ask (by lia) (by lia) (fun _ => hq m (Nat.le_refl _) (by lia) ha) fun q' => ?_
   have hne : kk r p m ≠ kk r p (m - 1) := fun e => by have := hp.ne (by lia) (by lia) e; lia
   lia
theorem kk_rev {p : Array Nat} {m : Nat} (hm : m ≤ p.size) (i : Nat) : kk r (kas_rev p 0 m) i = if i < m then kk r p (m - 1 - i) else kk r p i := by
 unfold kk kas_rev
 rw [getElem?_mirror_all hm]
 by_cases h : i < m
 ·rw [if_pos ⟨Nat.zero_le _, h⟩, if_pos h, Nat.zero_add]
 ·rw [if_neg (fun q => h q.2), if_neg h]
theorem kk_bub {p : Array Nat} {k l : Nat} (hk : k < p.size) (hl : l ≤ k) (i : Nat) : kk r (bubble p k (k - l)) i = if i = l then kk r p k else if l < i ∧ i ≤ k then kk r p (i - 1) else kk r p i := by
 unfold kk
 rw [getElem?_bubble hk _ (by lia), show k - (k - l) = l by lia]
 split
 ·rfl
 ·split <;> rfl
noncomputable def Run (n : Nat) (r : Nat → Int) (q : Nat × Array Nat) : Prop := Pm n r q.2 ∧ 1 ≤ q.1 ∧ q.1 ≤ n ∧ Asc r q.2 q.1
theorem tri_tail {p : Array Nat} (hp : Pm n r p) {m : Nat} (h1 : 1 ≤ m) (h2 : m ≤ n) (hd : Dsc r p m) : Tri n r (kas_tail3 m n p) (Run n r) := by
 have hp' : Pm n r (kas_rev p 0 m) := hp.move (mirror_perm _ _ _ _)
 refine Tri.bind (tri_asc hp' (n - m) m h1 (by lia) (fun i hi => ?_) fun m' a b c _ => ⟨hp', by show 1 ≤ m'; lia, by show m' ≤ n; lia, c⟩)
 have hs := hp.size
 rw [kk_rev (by lia), kk_rev (by lia), if_pos (by lia), if_pos hi]
 have := hd (m - 1 - (i + 1)) (by lia)
 rw [show m - 1 - (i + 1) + 1 = m - 1 - i by lia] at this
 exact this
theorem tri_count {p : Array Nat} (hp : Pm n r p) (hn : 2 ≤ n) : Tri n r (kas_count n p) (Run n r) := by
 refine Tri.bind (tri_asc hp (n - 1) 1 (Nat.le_refl _) (by lia) (fun i hi => absurd hi (by lia)) fun m h1 h2 ha hstop => ?_)
 by_cases e : m = n
 ·rw [if_pos (by simpa using e)]
  exact ⟨hp, by show 1 ≤ m; lia, by show m ≤ n; lia, ha⟩
 ·rw [if_neg (by simpa using e)]
  by_cases hm : m > 1
  ·rw [if_pos hm]
   exact hp.ask (by lia) (by lia) (fun _ => ⟨hp, by show 1 ≤ m; lia, by show m ≤ n; lia, ha⟩) fun q => absurd (ha.lt (m - 1) (by lia) (by lia)) q
  ·rw [if_neg hm]
   obtain rfl : m = 1 := by lia
   have hst := hstop (by lia)
   refine Tri.bind (tri_desc hp (n - (1 + 1)) (1 + 1) (by lia) (by lia) (fun i hi => ?_) fun m' a b c => ?_)
   ·obtain rfl : i = 0 := by lia
    exact hst
   ·show Tri n r (if (0 : Nat) > 0 then kas_tail3 m' n (kas_rev p (m' - (0 + 1)) m') else kas_tail3 m' n p) _
    rw [if_neg (by decide)]
    exact tri_tail hp (by lia) (by lia) c
theorem tri_place {p : Array Nat} (hp : Pm n r p) {k : Nat} (hk : k < n) (ha : Asc r p k) {Q : Nat → Prop} : ∀ (f a b : Nat), a ≤ b → b ≤ k → b - a ≤ f → (∀ i, i < a → kk r p i < kk r p k) → (∀ i, b ≤ i → i < k → kk r p k < kk r p i) →
  (∀ l, l ≤ k → (∀ i, i < l → kk r p i < kk r p k) → (∀ i, l ≤ i → i < k → kk r p k < kk r p i) → Q l) → Tri n r (kas_place p k f a b) Q
 | 0, a, b, h1, h2, h3, h4, h5, hq => hq a (by lia) h4 fun i q => h5 i (by lia)
 | f + 1, a, b, h1, h2, h3, h4, h5, hq => by
  unfold kas_place
  by_cases e : a ≥ b
  ·rw [if_pos e]
   exact hq a (by lia) h4 fun i q => h5 i (by lia)
  ·rw [if_neg e]
   have e := Nat.lt_of_not_le e
   have m1 : a ≤ (a + b) / 2 := (Nat.le_div_iff_mul_le (by decide)).mpr (by rw [Nat.mul_two]; exact Nat.add_le_add_left (Nat.le_of_lt e) a)
   have m2 : (a + b) / 2 < b := Nat.div_lt_of_lt_mul (by rw [Nat.two_mul]; exact Nat.add_lt_add_right e b)
   generalize (a + b) / 2 = m at m1 m2 ⊢
   have mk : m < k := ltl m2 h2
   refine hp.ask hk (Nat.lt_trans mk hk) (fun q => ?_) fun q => ?_
   ·refine tri_place hp hk ha f a m m1 (Nat.le_of_lt mk) (Nat.le_of_lt_succ (ltl (Nat.sub_lt_sub_right m1 m2) h3)) h4 (fun i x y => ?_) hq
    by_cases z : i = m
    ·rw [z]; exact q
    ·exact Int.lt_trans q (ha.lt i (Nat.lt_of_le_of_ne x (Ne.symm z)) y)
   ·have hne : kk r p k ≠ kk r p m := fun e => absurd (hp.ne hk (Nat.lt_trans mk hk) e) (Nat.ne_of_gt mk)
    have lt : kk r p m < kk r p k := Int.lt_iff_le_and_ne.mpr ⟨Int.not_lt.mp q, Ne.symm hne⟩
    refine tri_place hp hk ha f (m + 1) b m2 h2 (Nat.le_of_lt_succ (ltl (Nat.sub_lt_sub_left e (Nat.lt_succ_of_le m1)) h3)) (fun i x => ?_) h5 hq
    by_cases z : i = m
    ·rw [z]; exact lt
    ·exact Int.lt_trans (ha.lt m (Nat.lt_of_le_of_ne (Nat.le_of_lt_succ x) z) mk) lt
theorem tri_bin {Q : Array Nat → Prop} (hq : ∀ p, Pm n r p → Asc r p n → Q p) : ∀ (f : Nat) (p : Array Nat) (k : Nat), Pm n r p → k + f = n → Asc r p k → Tri n r (kas_bin f p k) Q
 | 0, p, k, hp, e, ha => hq p hp (by rw [← (show k = n by lia)]; exact ha)
 | f + 1, p, k, hp, e, ha => by
  have hk : k < n := by lia
  have hs := hp.size
  refine Tri.bind (tri_place hp hk ha k 0 k (Nat.zero_le _) (Nat.le_refl _) (by lia) (fun i h => absurd h (Nat.not_lt_zero _)) (fun i h1 h2 => absurd h2 (by lia)) fun l hl h1 h2 => ?_)
  refine tri_bin hq f _ (k + 1) (hp.move (bubble_perm _ _ _)) (by lia) fun i hi => ?_
  rw [kk_bub (by lia) hl, kk_bub (by lia) hl]
  by_cases c1 : i + 1 < l
  ·rw [if_neg (by lia), if_neg (by lia), if_neg (by lia), if_neg (by lia)]
   exact ha i (by lia)
  ·by_cases c2 : i + 1 = l
   ·rw [if_neg (by lia), if_neg (by lia), if_pos c2]
    exact h1 i (by lia)
   ·by_cases c3 : i = l
    ·rw [if_pos c3, if_neg (by lia), if_pos (by lia), Nat.add_sub_cancel]
     exact h2 i (by lia) (by lia)
    ·rw [if_neg c3, if_pos (by lia), if_neg c2, if_pos (by lia), Nat.add_sub_cancel]
     have := ha (i - 1) (by lia)
     rw [show i - 1 + 1 = i by lia] at this
     exact this
theorem tri_sort (hn : 2 ≤ n) (hi : ∀ i j, i < n → j < n → r i = r j → i = j) : Tri n r (kas_sort n) (fun p => Pm n r p ∧ Asc r p n) := by
 have hp : Pm n r (List.toArray (List.range n)) := ⟨by simp, hi⟩
 refine Tri.bind ?_
 have go : ∀ q : Nat × Array Nat, Run n r q → Tri n r (if q.1 < n then kas_bin (n - max q.1 1) q.2 (max q.1 1) else .ret q.2) (fun p => Pm n r p ∧ Asc r p n) := by
  rintro ⟨m, p⟩ ⟨h1, h2, h3, h4⟩
  dsimp only at h1 h2 h3 h4 ⊢
  by_cases e : m < n
  ·rw [if_pos e]
   refine tri_bin (fun p a b => ⟨a, b⟩) _ _ _ h1 (by lia) ?_
   rw [show max m 1 = m by lia]; exact h4
  ·rw [if_neg e]
   obtain rfl : m = n := by lia
   exact ⟨h1, h4⟩
 have mono : ∀ {α : Type} {Q Q' : α → Prop} (hq : ∀ a, Q a → Q' a) {t : KasT α}, Tri n r t Q → Tri n r t Q' := fun {α Q Q'} hq {t} => by
  induction t with
  | ret a => exact hq a
  | ask i j k ih => exact fun h => ⟨h.1, h.2.1, ih _ h.2.2⟩
 exact mono go (tri_count hp hn)
end
end
noncomputable abbrev PV := (Int × Int) × V
noncomputable def pvD : PV := ((0, 0), .none)
noncomputable def keyB (B : Int) (q : PV) : Int := q.1.1 * B + q.1.2
theorem bound_of : ∀ ps : List PV, ∃ M : Int, 0 ≤ M ∧ ∀ q ∈ ps, -M ≤ q.1.2 ∧ q.1.2 ≤ M
 | [] => ⟨0, Int.le_refl _, fun _ h => zL h⟩
 | p :: ps => by
  obtain ⟨M, h0, h⟩ := bound_of ps
  refine ⟨M + p.1.2.natAbs, by lia, fun q hq => ?_⟩
  rcases List.mem_cons.mp hq with rfl | hq
  ·lia
  ·have := h q hq; lia
theorem key_lt {M : Int} {p q : PV} (hp : -M ≤ p.1.2 ∧ p.1.2 ≤ M) (hq : -M ≤ q.1.2 ∧ q.1.2 ≤ M) : keyB (2 * M + 1) p < keyB (2 * M + 1) q ↔ (p.1.1 < q.1.1 ∨ (p.1.1 = q.1.1 ∧ p.1.2 < q.1.2)) := by
 unfold keyB
 have step : ∀ {x y : Int}, x < y → x * (2 * M + 1) + (2 * M + 1) ≤ y * (2 * M + 1) := fun {x y} h => by
  have := Int.mul_le_mul_of_nonneg_right (show x + 1 ≤ y from h) (show 0 ≤ 2 * M + 1 by lia)
  rw [Int.add_mul, Int.one_mul] at this
  exact this
 rcases Int.lt_trichotomy p.1.1 q.1.1 with h | h | h
 ·have := step h; lia
 ·rw [h]; lia
 ·have := step h; lia
theorem insP_perm (p : PV) : ∀ l : List PV, (insP p l).Perm (p :: l)
 | [] => .refl _
 | q :: r => by
  unfold insP
  split
  ·exact .refl _
  ·exact ((insP_perm p r).cons q).trans (.swap _ _ _)
theorem sortP_perm : ∀ l : List PV, (sortP l).Perm l
 | [] => .refl _
 | p :: r => (insP_perm p _).trans ((sortP_perm r).cons p)
theorem leP_trans {a b c : PV} (h1 : leP a b = true) (h2 : leP b c = true) : leP a c = true := by
 unfold leP at *
 rw [decide_eq_true_eq] at *
 exact lexT h1 h2
theorem leP_total {a b : PV} (h : ¬ leP a b = true) : leP b a = true := by
 unfold leP at *
 rw [decide_eq_true_eq] at *
 exact lexO h
theorem insP_sorted (p : PV) : ∀ {l : List PV}, l.Pairwise (fun a b => leP a b = true) → (insP p l).Pairwise (fun a b => leP a b = true)
 | [], _ => List.pairwise_singleton _ _
 | q :: r, h => by
  rw [List.pairwise_cons] at h
  unfold insP
  by_cases hp : leP p q = true
  ·rw [if_pos hp, List.pairwise_cons]
   refine ⟨fun b hb => ?_, List.pairwise_cons.mpr h⟩
   rcases List.mem_cons.mp hb with rfl | hb
   ·exact hp
   ·exact leP_trans hp (h.1 b hb)
  ·rw [if_neg hp, List.pairwise_cons]
   refine ⟨fun b hb => ?_, insP_sorted p h.2⟩
   rcases List.mem_cons.mp ((insP_perm p r).mem_iff.mp hb) with rfl | hb
   ·exact leP_total hp
   ·exact h.1 b hb
theorem sortP_sorted : ∀ l : List PV, (sortP l).Pairwise (fun a b => leP a b = true)
 | [] => List.Pairwise.nil
 | p :: r => insP_sorted p (sortP_sorted r)
theorem nodup_key {l : List PV} (h : (l.map (·.1)).Nodup) {i j : Nat} (hi : i < l.length) (hj : j < l.length) (e : l[i].1 = l[j].1) : i = j := by
 have pw := List.pairwise_iff_getElem.mp h
 rcases Nat.lt_trichotomy i j with q | q | q
 ·exact absurd (by rw [List.getElem_map, List.getElem_map]; exact e) (pw i j (by simpa using hi) (by simpa using hj) q)
 ·exact q
 ·exact absurd (by rw [List.getElem_map, List.getElem_map]; exact e.symm) (pw j i (by simpa using hj) (by simpa using hi) q)
theorem getD_range {α : Type} (l : List α) (d : α) : (List.range l.length).map (fun i => l.getD i d) = l := by
 refine List.ext_getElem (by simp) fun i h1 h2 => ?_
 simp [h2]
theorem out_sorted {ps : List PV} (hn : (ps.map (·.1)).Nodup) {M : Int} (hM : ∀ q ∈ ps, -M ≤ q.1.2 ∧ q.1.2 ≤ M) {p : Array Nat} (hp : Pm ps.length (fun i => keyB (2 * M + 1) (ps.getD i pvD)) p) (ha : Asc (fun i => keyB (2 * M + 1) (ps.getD i pvD)) p ps.length) :
  p.toList.map (fun i => ps.getD i pvD) = sortP ps := by
 have hperm : (p.toList.map fun i => ps.getD i pvD).Perm ps := by
  have := hp.perm.map fun i => ps.getD i pvD
  rwa [getD_range] at this
 have hs := hp.size
 refine List.Perm.eq_of_pairwise (le := fun a b => leP a b = true) (fun a b h1 h2 l1 l2 => ?_) ?_ (sortP_sorted ps) (hperm.trans (sortP_perm ps).symm)
 ·have h1 := hperm.mem_iff.mp h1
  have h2 := (sortP_perm ps).mem_iff.mp h2
  obtain ⟨i, hi, rfl⟩ := List.mem_iff_getElem.mp h1
  obtain ⟨j, hj, rfl⟩ := List.mem_iff_getElem.mp h2
  have e : ps[i].1 = ps[j].1 := by
   unfold leP at l1 l2
   rw [decide_eq_true_eq] at l1 l2
   exact Prod.ext (lexA l1 l2).1 (lexA l1 l2).2
  obtain rfl := nodup_key hn hi hj e
  rfl
 ·rw [List.pairwise_iff_getElem]
  intro i j hi hj hij
  have hi' : i < p.size := by simpa using hi
  have hj' : j < p.size := by simpa using hj
  have h := ha.lt j hij (by lia)
  rw [← kk_getD, ← kk_getD] at h
  have bd : ∀ k, k < p.size → -M ≤ (ps.getD (p.getD k 0) pvD).1.2 ∧ (ps.getD (p.getD k 0) pvD).1.2 ≤ M := fun k hk => by
   have hl := hp.lt (i := k) (by lia)
   have e : ps.getD (p.getD k 0) pvD = ps[p.getD k 0] := by rw [List.getD_eq_getElem?_getD, List.getElem?_eq_getElem hl]; rfl
   rw [e]
   exact hM _ (List.getElem_mem _)
  rw [key_lt (bd i hi') (bd j hj')] at h
  have e1 : p.getD i 0 = p[i] := by simp [Array.getD, hi']
  have e2 : p.getD j 0 = p[j] := by simp [Array.getD, hj']
  rw [e1, e2] at h
  rw [List.getElem_map, List.getElem_map, Array.getElem_toList, Array.getElem_toList]
  unfold leP
  rw [decide_eq_true_eq]
  exact h.imp_right fun q => ⟨q.1, Int.le_of_lt q.2⟩
section
section
variable {prog : Program} {w : World} {A : Around} {E : Value → Shared → Prop} {s : Shared}
theorem sort_small {a : Addr} {vs : List Value} {P : PySem.Fin → Shared → Prop} (ho : s.heap.get? a = some (seqObj "list" vs.toArray 0)) (h2 : vs.length < 2) (h : P (.done (.ret .none)) { s with heap := sortedHeap s.heap a vs vs.toArray }) :
  wpAny (model prog w) A (Builtin.«list.sort» ⟨[.ref a], []⟩) P E s := by
 have ha := Heap.lt_size ho
 have hz : vs.length ≤ sizeLine := by rw [sizeLine_eq]; lia
 obtain ⟨e1, ho1⟩ : ∃ e1, (s.heap.update a (Obj.mapSeq fun _ => #[])).get? a = some (seqObj "list" #[] e1) := ⟨_, get?_update_seq ho fun _ => #[]⟩
 have ho2 : (((s.heap.update a (Obj.mapSeq fun _ => #[])).push (seqObj "tuple" vs.toArray 0)).push (seqObj "list" #[] 0)).get? a = some (seqObj "list" #[] e1) :=
  Heap.get?_push_of_some _ (Heap.get?_push_of_some _ ho1)
 rw [list_sort_plain]
 refine wpAny_bind (listItems_at ho rfl (wpAny_bind (listUpdate_at ho rfl ?_ (hz) (Nat.zero_le _))))
 refine wpAny_bind (seqEpoch_at ho1 rfl (wpAny_bind (wpAny_newTuple ?_ (hz))))
 refine wpAny_bind (wpAny_newList (wpAny_holding ?_) (Nat.zero_le _))
 have hs : vs.toArray.size < 2 := by exact h2
 dsimp only
 rw [if_pos hs, if_pos hs]
 refine wpAny_bind (wpAny_pure ?_)
 rw [StateT.run_pure]
 refine wpAny_bind (wpAny_pure (wpAny_bind (seqEpoch_at ho2 rfl ?_)))
 have hout : (arrOf (SortSt.mk' general' (vs.toArray.zip vs.toArray) #[] 7 none)).map (·.2) = vs.toArray := by
  show ((vs.toArray.zip vs.toArray).map (·.2)) = _
  apply Array.toList_inj.mp
  simp [List.map_snd_zip]
 dsimp only
 rw [hout]
 refine wpAny_bind (listUpdate_at ho2 rfl ?_ (Nat.zero_le _) (by rw [List.size_toArray]; exact Nat.le_succ_of_le hz))
 simp only [bne_self_eq_false, Bool.false_eq_true, if_false]
 exact wpAny_pure h
theorem sorted_small {l : Addr} {vs : List Value} {Q : Value → Shared → Prop} (hl : s.heap.IsList l vs.toArray) (h2 : vs.length < 2) (h : Q (.ref (s.heap.objs.size + 1)) { s with heap := sortedAll s.heap vs vs.toArray }) :
  wpAny (model prog w) A (call (.builtin "sorted") [.ref l]) Q E s := by
 have hz : vs.length ≤ sizeLine := by rw [sizeLine_eq]; lia
 refine Calls.call_function_entry kind_sorted plain_sorted entry_sorted (args_sorted1 _) ?_
 unfold Builtin.«sorted»
 refine wpAny_bind (m := checkCount "sorted" 1 1 _) (wpAny_pure (wpAny_bind (collect_list hl ?_ (hz))))
 refine wpAny_bind (wpAny_newList ?_ (hz))
 have hsz : ((s.heap.push (seqObj "list" #[] 0)).update s.heap.objs.size (Obj.mapSeq (· ++ vs.toArray))).objs.size = s.heap.objs.size + 1 := by rw [Heap.size_update, size_push']
 have hoL : (((s.heap.push (seqObj "list" #[] 0)).update s.heap.objs.size (Obj.mapSeq (· ++ vs.toArray))).push (seqObj "list" vs.toArray 0)).get? (s.heap.objs.size + 1) = some (seqObj "list" vs.toArray 0) := by
  rw [← hsz]; exact Heap.get?_push_size _ rfl
 show wpAny _ _ _ _ _ { s with heap := ((s.heap.push (seqObj "list" #[] 0)).update s.heap.objs.size (Obj.mapSeq (· ++ vs.toArray))).push (seqObj "list" vs.toArray 0) }
 rw [hsz]
 exact wpAny_bind (wpAny_holding (wpAny_call_entry slot_list_sort ⟨_, hoL, rfl⟩ entry_list_sort (sort_small hoL h2 ⟨_, rfl, wpAny_pure ⟨_, rfl, h⟩⟩) (args_list_sort _)))
end
theorem kat_lt_pair {prog : Program} {w : World} {A : Around} {E : Value → Shared → Prop} {s : Shared} {x y : Addr} {n k : Nat} {a b c d : Int} {t1 t2 t3 t4 : Tok} {Q : Bool → Shared → Prop} (hx : s.heap.get? x = some (tupOf #[.int a t1, .int b t2] n)) (hy : s.heap.get? y = some (tupOf #[.int c t3, .int d t4] k))
  (h : Q (decide (a < c ∨ (a = c ∧ b < d))) s) : wpAny (model prog w) A (keyLt' (tuples' true) (.ref x) (.ref y)) Q E s := by
 refine kat_lt hx rfl hy rfl (kat_cons (wpAny_eqBool_int (kat_go (fun e1 => kat_yes (kat_cons (wpAny_eqBool_int (kat_go (fun e2 => kat_yes (kat_nil ?_)) fun e2 => kat_no (kat_one _ _ (lt_int ?_)))))) fun e1 => kat_no ?_)))
 ·rw [beq_iff_eq] at e1 e2
  have : decide (a < c ∨ (a = c ∧ b < d)) = false := decide_eq_false (by lia)
  rw [this] at h
  exact h
 ·rw [beq_iff_eq] at e1
  have : decide (a < c ∨ (a = c ∧ b < d)) = decide (b < d) := by by_cases q : b < d <;> simp [q, e1]
  rw [this] at h
  exact h
 ·have e1 : a ≠ c := fun q => by rw [q] at e1; simp at e1
  have : decide (a < c ∨ (a = c ∧ b < d)) = decide (a < c) := by by_cases q : a < c <;> simp [q, e1]
  rw [this] at h
  exact oneLt_int h
section
variable {g : G} {W : Wd}
theorem pairV_some {h : Nat → Option AObj} {v : V} {q : PV} (e : pairV h v = some q) : q.2 = v ∧ ∃ i, v = .ref i ∧ h i = some (.tup [.int q.1.1, .int q.1.2]) := by
 unfold pairV at e
 cases hr : refOf v with
 | none => rw [hr] at e; exact zN e
 | some i =>
  rw [hr] at e
  dsimp only at e
  cases ht : tupAt h i with
  | none => rw [ht] at e; exact zN e
  | some xs =>
   rw [ht] at e
   match xs, e with
   | [a, b], e =>
    obtain ⟨p, hp, rfl⟩ := Option.map_eq_some_iff.mp e
    obtain ⟨x, y⟩ := p
    obtain ⟨rfl, rfl⟩ := intPair_some hp
    exact ⟨rfl, i, rO hr, tupAt_some ht⟩
   | [], e => nomatch e
   | [_], e => nomatch e
   | _ :: _ :: _ :: _, e => nomatch e
theorem pairs_all {h : Nat → Option AObj} : ∀ {xs : List V} {ps : List PV}, optAll (xs.map (pairV h)) = some ps → xs = ps.map (·.2) ∧ ∀ q ∈ ps, ∃ i, q.2 = .ref i ∧ h i = some (.tup [.int q.1.1, .int q.1.2])
 | [], _, e => by obtain rfl := sj e; exact ⟨rfl, fun _ h => zL h⟩
 | v :: xs, ps, e => by
  rw [List.map_cons] at e
  cases q : pairV h v with
  | none => rw [q] at e; exact zN e
  | some p =>
   rw [q] at e
   have e : (optAll (xs.map (pairV h))).map (p :: ·) = some ps := e
   obtain ⟨qs, e1, rfl⟩ := Option.map_eq_some_iff.mp e
   obtain ⟨h1, h2⟩ := pairs_all e1
   obtain ⟨h3, i, h4, h5⟩ := pairV_some q
   refine ⟨by rw [h1, List.map_cons, h3], fun z hz => ?_⟩
   rcases List.mem_cons.mp hz with rfl | hz
   ·exact ⟨i, h3.trans h4, h5⟩
   ·exact h2 z hz
theorem Inv.allocAt {c : Cx} {fr : Frs} {pins : List (Addr × Obj)} {σ : Nat → Option AObj} {h : Heap} {L : Addr} {m : Str → Option Value} (I : Inv c ((L, m) :: fr) pins W σ h) {h' : Heap} {q : Addr} {ob : Obj} {o : AObj} {rest : List (Addr × Obj)} (hq : W.lab q = none) (hb : c.base.objs.size ≤ q)
  (F : Fr c.base L h' m) (N : News c.base L h' ((q, ob) :: rest)) (hback : ∀ h' L', News c.base L' h' rest → ∀ a o, W.lab a ≠ none → a ≠ L → a ≠ h.objs.size → h.get? a = some o → h'.get? a = some o)
  (hn : ∀ fs, o ≠ .inst fs) (ho : h'.get? q = some ob → OAt c (W.add q 0 false) h' W.n o) (hw : o.own := by trivial) : Inv c ((L, m) :: fr) pins (W.add q 0 false) (upd σ W.n o) h' := by
 have hx := I.unlab_size (Nat.le_refl h.objs.size)
 have hk : ∀ a o, W.lab a ≠ none → a ≠ L → a ≠ h.objs.size → h.get? a = some o → h'.get? a = some o := hback h' L fun p hp => N p (.tail _ hp)
 obtain ⟨k, hf⟩ := I.keepOf F hk (fun t ht => by rw [hx] at ht; exact zN ht)
 exact (I.ofKeep hx k rfl hf).add hq hb (fun x => zF x) (fun ⟨fs, e⟩ => absurd e (hn fs)) (ho (N _ (.head _)).1) hw
theorem vs_getD {W : Wd} {xs : List V} {us : List Value} (h : VsRel W xs us) (i : Nat) : VRel W (xs.getD i .none) (us.getD i .none) := by
 rw [List.getD_eq_getElem?_getD, List.getD_eq_getElem?_getD]
 cases q : xs[i]? with
 | none => rw [h.none q]; rfl
 | some v => obtain ⟨u, e, r⟩ := h.get q; rw [e]; exact r
theorem vs_maps {W : Wd} {xs : List V} {us : List Value} (h : VsRel W xs us) : ∀ l : List Nat, VsRel W (l.map fun i => xs.getD i .none) (l.map fun i => us.getD i .none)
 | [] => trivial
 | i :: l => ⟨vs_getD h i, vs_maps h l⟩
theorem sortP_short : ∀ {ps : List PV}, ps.length < 2 → sortP ps = ps
 | [], _ => rfl
 | [_], _ => rfl
 | _ :: _ :: _, h => by simp at h; lia
theorem sim_sorted {o : V} {u : Value} (hv : VRel W o u) : Sim g W (call (.builtin "sorted") [u]) (sortedV o) VR := by
 intro A W₁ mm st s Q E hA hx hS hP
 replace hP := Post.get hP; obtain ⟨a, ha, hP⟩ := hP
 replace hP := Post.get hP; obtain ⟨xs, ho, hP⟩ := hP
 replace hP := Post.get hP; obtain ⟨ps, hps, hP⟩ := hP
 replace hP := Post.ite hP; obtain ⟨⟨h64, hnd⟩, hP⟩ := hP
 obtain rfl := rO ha
 obtain ⟨hi, rfl⟩ := hv.ext hx
 obtain ⟨vs, hL, hr⟩ := hS.list ho
 obtain ⟨rfl, hpq⟩ := pairs_all hps
 have hlen : ps.length = vs.length := by have := hr.length; rwa [List.length_map] at this
 have done : ∀ {h' : Heap} {D : Addr}, VRel (W₁.add D 0 false) (.ref st.next) (.ref D) → Inv g.c ((g.L, mm) :: g.fr) g.pins (W₁.add D 0 false) (upd st.heap W₁.n (.list ((sortP ps).map (·.2)))) h' → Q (.ref D) { s with heap := h' } := fun {h' D} hD I =>
  hP _ mm _ _ (W₁.ext_add _ _ _) ⟨by rw [hS.next]; exact I, congrArg (· + 1) hS.next, hS.loc.ext (W₁.ext_add _ _ _)⟩ Same.heap hD
 have hD : ∀ D : Addr, VRel (W₁.add D 0 false) (.ref st.next) (.ref D) := fun D => by rw [hS.next]; exact ⟨Nat.lt_succ_self _, by rw [Wd.ρ_add]⟩
 by_cases h2 : ps.length < 2
 ·refine sorted_small hL (by lia) (done (hD _) ?_)
  obtain ⟨e, he⟩ := sortedAll_at s.heap vs vs.toArray
  exact (hS.inv.grow fun b o e => sortedAll_old e).add (hS.inv.unlab_size (Nat.le_succ _)) (Nat.le_succ_of_le hS.inv.sz) (fun x => zF x) (fun ⟨fs, e⟩ => (by contradiction))
   ⟨vs, e, by rw [Wd.ρ_add]; exact he, by rw [sortP_short h2]; exact hr.ext (W₁.ext_add _ _ _)⟩
 ·obtain ⟨rest, N, hne, hlt, hmem⟩ := hS.inv.captureM s.heap.objs.size
  have hback : ∀ h' L', News g.c.base L' h' rest → ∀ a o, W₁.lab a ≠ none → a ≠ g.L → a ≠ s.heap.objs.size → s.heap.get? a = some o → h'.get? a = some o := fun h' L' N a o h1 h2 h3 e => (N (a, o) (hmem a o h1 h2 h3 e)).1
  have own : ∀ j q, st.heap j = some (.tup q) → (∃ vs n, s.heap.get? (W₁.ρ j) = some (tupOf vs.toArray n) ∧ VsRel W₁ q vs) ∧ W₁.lab (W₁.ρ j) = some (.own j) := fun j q e => ⟨hS.inv.own j _ e, hS.inv.lown j _ e trivial⟩
  have lL := hS.inv.lfr _ (.head _)
  refine kat_sorted hS.inv.toFr N hL (by lia) (by lia) fun D e1 h' F' N' hltD => ?_
  obtain ⟨nD1, nD2, nD3⟩ := N' _ (.head _)
  have N0 : News g.c.base g.L h' rest := fun p hp => N' p (.tail _ hp)
  have tups : ∀ q ∈ ps, ∃ j n t1 t2, q.2 = .ref j ∧ h'.get? (W₁.ρ j) = some (tupOf #[.int q.1.1 t1, .int q.1.2 t2] n) := by
   intro q hq
   obtain ⟨j, hj, hjh⟩ := hpq q hq
   obtain ⟨⟨us, n, hat, hru⟩, hlab⟩ := own j _ hjh
   match us, hru, hat with
   | [x, y], ⟨⟨t1, e1⟩, ⟨t2, e2⟩, _⟩, hat =>
    subst e1; subst e2
    exact ⟨j, n, t1, t2, hj, hback h' _ N0 _ _ (nL hlab) (ne_of_lab hlab lL (fun h => (by contradiction))) (fun z => by rw [z, hS.inv.unlab_size (Nat.le_refl _)] at hlab; exact zN hlab) hat⟩
   | [], h, _ => exact h.elim
   | [_], h, _ => exact h.2.elim
   | _ :: _ :: _ :: _, h, _ => exact h.2.2.elim
  have at_ : ∀ i, i < ps.length → ∃ x n t1 t2, vs.getD i .none = .ref x ∧ h'.get? x = some (tupOf #[.int (ps.getD i pvD).1.1 t1, .int (ps.getD i pvD).1.2 t2] n) := fun i hi => by
   have e : ps.getD i pvD = ps[i] := by rw [List.getD_eq_getElem?_getD, List.getElem?_eq_getElem hi]; rfl
   obtain ⟨j, n, t1, t2, hj, hat⟩ := tups _ (List.getElem_mem hi)
   have hvi := vs_getD hr i
   have e2 : (ps.map (·.2)).getD i .none = .ref j := by rw [List.getD_eq_getElem?_getD, List.getElem?_map, List.getElem?_eq_getElem hi]; exact hj
   rw [e2] at hvi
   exact ⟨W₁.ρ j, n, t1, t2, hvi.2, by rw [e]; exact hat⟩
  have kts : ∀ (l : List PV) (us : List Value), (∀ q ∈ l, q ∈ ps) → VsRel W₁ (l.map (·.2)) us → ∃ fs, KatTups h' us fs ∧ fs.length = l.length ∧ ∀ f ∈ fs, ∃ z t, f = .int z t := by
   intro l
   induction l with
   | nil => intro us _ h; cases us with
    | nil => exact ⟨[], trivial, rfl, fun _ h => zL h⟩
    | cons _ _ => exact h.elim
   | cons q l ih =>
    intro us hq h
    cases us with
    | nil => exact h.elim
    | cons u us =>
     obtain ⟨j, n, t1, t2, hj, hat⟩ := tups q (hq q (.head _))
     obtain ⟨fs, k1, k2, k3⟩ := ih us (fun z hz => hq z (.tail _ hz)) h.2
     have h1 : VRel W₁ q.2 u := h.1
     rw [hj] at h1
     refine ⟨.int q.1.1 t1 :: fs, ?_, congrArg (· + 1) k2, fun f hf => ?_⟩
     ·rw [h1.2]; exact .cons hat rfl rfl rfl k1
     ·rcases List.mem_cons.mp hf with rfl | hf
      ·exact ⟨_, _, rfl⟩
      ·exact k3 f hf
  obtain ⟨fs, k1, k2, k3⟩ := kts ps vs (fun _ h => h) hr
  refine kat_kind (T := .type "int") k1 (by lia) (fun v hv => by obtain ⟨z, t, rfl⟩ := k3 v hv; exact Looks.of_pure rfl) (by decide) ?_
  obtain ⟨M, hM0, hM⟩ := bound_of ps
  have hget : ∀ i, i < ps.length → -M ≤ (ps.getD i pvD).1.2 ∧ (ps.getD i pvD).1.2 ≤ M := fun i hi => by
   have e : ps.getD i pvD = ps[i] := by rw [List.getD_eq_getElem?_getD, List.getElem?_eq_getElem hi]; rfl
   rw [e]; exact hM _ (List.getElem_mem hi)
  have inj : ∀ i j, i < ps.length → j < ps.length → keyB (2 * M + 1) (ps.getD i pvD) = keyB (2 * M + 1) (ps.getD j pvD) → i = j := fun i j hi hj e => by
   have a1 := key_lt (hget i hi) (hget j hj)
   have a2 := key_lt (hget j hj) (hget i hi)
   have ei : ps.getD i pvD = ps[i] := by rw [List.getD_eq_getElem?_getD, List.getElem?_eq_getElem hi]; rfl
   have ej : ps.getD j pvD = ps[j] := by rw [List.getD_eq_getElem?_getD, List.getElem?_eq_getElem hj]; rfl
   rw [ei, ej] at e a1 a2
   refine nodup_key hnd hi hj (Prod.ext ?_ ?_) <;> lia
  have tri := tri_sort (n := ps.length) (r := fun i => keyB (2 * M + 1) (ps.getD i pvD)) (by lia) inj
  rw [← hlen]
  refine Tri.wp (J := fun s' => ∃ tk, s' = { s with heap := h', toks := tk }) (fun i j C s' hi hj hJ hC => ?_) (fun p s' hp hJ => ?_) tri ⟨s.toks, rfl⟩
  ·obtain ⟨tk, rfl⟩ := hJ
   obtain ⟨x, n1, t1, t2, e1, a1⟩ := at_ i hi
   obtain ⟨y, n2, t3, t4, e2, a2⟩ := at_ j hj
   show wpAny _ _ (keyLt' (tuples' true) (vs.getD i Value.none) (vs.getD j Value.none)) C _ _
   rw [e1, e2]
   refine kat_lt_pair a1 a2 ?_
   have := hC _ ⟨tk, rfl⟩
   rwa [show decide (keyB (2 * M + 1) (ps.getD i pvD) < keyB (2 * M + 1) (ps.getD j pvD)) = _ from decide_eq_decide.mpr (key_lt (hget i hi) (hget j hj))] at this
  ·obtain ⟨tk, rfl⟩ := hJ
   refine KasFin.intro (news := (D, seqObj "list" #[] e1) :: rest) (g := fun o => (D, o) :: rest) F' N' (.head fun p hp q => absurd (hltD p hp) (by rw [q]; exact Nat.lt_irrefl _)) fun h'' c F'' N'' => ?_
   have lD : W₁.lab D = none := by
    cases q : W₁.lab D with
    | none => rfl
    | some t =>
     obtain ⟨_, oD, hoD⟩ := hS.inv.new D (nL q)
     exact absurd (hltD _ (hmem D oD (nL q) nD2 (fun z => by rw [z, hS.inv.unlab_size (Nat.le_refl _)] at q; exact zN q) hoD)) (Nat.lt_irrefl _)
   have bD : g.c.base.objs.size ≤ D := by
    have l := hS.inv.lown _ _ (listAt_some ho) trivial
    obtain ⟨b1, ol, hol⟩ := hS.inv.new _ (nL l)
    exact Nat.le_of_lt (Nat.lt_of_le_of_lt (b1.2 (by rw [l]; simp)) (hltD _ (hmem _ ol (nL l) (ne_of_lab l lL (fun h => (by contradiction))) (fun z => by rw [z, hS.inv.unlab_size (Nat.le_refl _)] at l; exact zN l) hol)))
   have I' := hS.inv.allocAt (o := .list ((sortP ps).map (·.2))) lD bD F'' N'' hback (fun _ e => (by contradiction)) fun e => ⟨p.toList.map fun i => vs.getD i .none, c, by rw [Wd.ρ_add]; exact e, by
    rw [← out_sorted hnd hM hp.1 hp.2, List.map_map]
    have := (vs_maps hr p.toList).ext (W₁.ext_add D 0 false)
    have em : (fun i => (ps.map (·.2)).getD i V.none) = ((·.2) ∘ fun i => ps.getD i pvD) := by
     funext i
     show (ps.map (·.2)).getD i V.none = (ps.getD i pvD).2
     rw [List.getD_eq_getElem?_getD, List.getD_eq_getElem?_getD, List.getElem?_map]
     cases ps[i]? <;> rfl
    rwa [em] at this⟩
   exact hP _ mm _ _ (W₁.ext_add _ _ _) ⟨by rw [hS.next]; exact I', congrArg (· + 1) hS.next, hS.loc.ext (W₁.ext_add _ _ _)⟩ Same.mk' (hD D)
end
end
section
section
variable {g : G} {W : Wd} {ev : AEnv} {env : Env}
theorem sliceTail {M : Model} {A : Around} {E : Value → Shared → Prop} {s : Shared} {value : Expr} {lower upper : Option Expr} {p : Pos} {o i : Value} {T id : String} {Q : Value → Shared → Prop} (hl : typeLookup (.type T) "__getitem__" = pure (some (.builtin id))) (hT : s.TypeIs o T)
  (h : wpAny M A (getItem o i) (fun r s₃ => wpAny M A (letTemporaryGo value o r) (fun _ s₄ => Q r s₄) E s₃) E s) : wpAny M A (subscriptTail value (.Slice lower upper none p) o i) Q E s := by
 unfold subscriptTail
 have fin : wpAny M A (operate [i, o] (getItem o i)) (fun r s₃ => wpAny M A (letTemporaryGo value o r >>= fun _ => pure r) Q E s₃) E s :=
  wpAny_operating (wpAny_mono h (fun r s₃ h₃ => wpAny_bind (wpAny_mono h₃ (fun _ s₄ h₄ => wpAny_pure h₄) fun _ _ x => x)) fun _ _ x => x)
 first
  | (refine wpAny_bind ?_; rw [getitemInPython_of_ne hT.not_modules]; refine wpAny_bind (wpAny_specialOf hT hl ?_); first | exact wpAny_pure (wpAny_bind fin) | exact wpAny_bind (wpAny_pure (wpAny_bind fin)) | exact wpAny_bind fin)
  | (refine wpAny_bind (wpAny_specialOf hT hl ?_); first | exact wpAny_bind (wpAny_pure (wpAny_bind fin)) | exact wpAny_bind fin)
theorem lowB_some {v : V} {l : Nat} (e : lowB v = some l) : (v = .none ∧ l = 0) ∨ v = .int (l : Int) := by
 by_cases h : v = .none
 ·subst h; exact .inl ⟨rfl, (sj e).symm⟩
 ·have q : lowB v = natB v := by cases v <;> first | rfl | exact absurd rfl h
  rw [q] at e
  exact .inr (natB_some e).2
theorem sim_slice {v a b : V} {u za zb : Value} {value : Expr} {lo up : Option Expr} {p : Pos} (hv : VRel W v u) (ha : VRel W a za) (hb : VRel W b zb) :
  SimT g W (fun A (Q : Value → Shared → Prop) E s => wpAny (model g.c.prog g.c.w) A (newFields "slice" [za, zb, .none]) (fun i s₂ => wpAny (model g.c.prog g.c.w) A (subscriptTail value (.Slice lo up none p) u i) Q E s₂) E s) (sliceV v a b) VR := by
 intro A W₁ mm st s Q E hA hx hS hP
 replace hP := Post.get hP; obtain ⟨i, hi, hP⟩ := hP
 replace hP := Post.get hP; obtain ⟨l, hl, hP⟩ := hP
 replace hP := Post.get hP; obtain ⟨y, hy, hP⟩ := hP
 replace hP := Post.get hP; obtain ⟨xs, ho, hP⟩ := hP
 replace hP := Post.ite hP; obtain ⟨h2, hP⟩ := hP
 obtain rfl := rO hi
 obtain ⟨_, rfl⟩ := natB_some hy
 obtain ⟨hi, rfl⟩ := hv.ext hx
 obtain ⟨t, rfl⟩ := hb
 obtain ⟨vs, hL, hrel⟩ := hS.seq ho
 have hlen := hrel.length
 have key : ∃ o, IsPart za o ∧ VsRel W₁ ((xs.take y).drop l) (slicePick vs.toArray o (some (y : Int)) none).toList := by
  rcases lowB_some hl with ⟨rfl, rfl⟩ | rfl
  ·obtain rfl : za = .none := ha
   exact ⟨none, .none, vs_pick (b := (y : Int)) hrel (Int.natCast_nonneg y)⟩
  ·obtain ⟨t', rfl⟩ := ha
   exact ⟨some (l : Int), .int _ t', vs_pick2 (a := (l : Int)) (b := (y : Int)) hrel (Int.natCast_nonneg l) (Int.natCast_nonneg y)⟩
 obtain ⟨o, hpart, hvr⟩ := key
 unfold newFields
 refine wpAny_newObj_type ?_ (by size_fits)
 refine sliceTail list_getitem_lookup (Heap.IsList.typeIs (s := { s with heap := s.heap.push { cls := .type "slice", data := .fields [za, .int (y : Int) t, .none].toArray } }) (hL.push _))
  (wpAny_getItem_list_slice (hL.push _) (Heap.IsSliceOf.new ..) hpart (.int (y : Int) t) .none (fun h => zN h) (wpAny_letTemporaryGo ?_) (by rw [List.size_toArray, sizeLine_eq]; lia))
 have hS₁ := hS.push { cls := .type "slice", data := .fields [za, .int (y : Int) t, .none].toArray }
 have hS₂ := hS₁.alloc (ob := { cls := .type "list", data := .seq (slicePick vs.toArray o (some (y : Int)) none) }) (o := .list ((xs.take y).drop l)) (fun _ e => (by contradiction)) ⟨(slicePick vs.toArray o (some (y : Int)) none).toList, 0, by rw [Wd.ρ_add]; exact Heap.get?_push_size _ rfl, hvr.ext (W₁.ext_add _ _ _)⟩
 exact hP _ mm _ _ (W₁.ext_add _ _ _) hS₂ Same.heap hS₁.ref
theorem denEach_len {P : PI} {Φ : Phi} : ∀ es : List Expr, (denEach P Φ ev es).length = es.length
 | [] => rfl
 | e :: r => by show (denE P Φ ev e :: denEach P Φ ev r).length = _; rw [List.length_cons, denEach_len r, List.length_cons]
theorem noStars_of {es : List Expr} (h : noStars es = true) : es.length < 25 ∧ (es.all fun e => !starred e) = true := by
 unfold noStars at h
 rw [Bool.and_eq_true] at h
 exact ⟨of_decide_eq_true h.1, h.2⟩
theorem evalEach_len : ∀ es : List Expr, (evalEach es env).length = es.length
 | [] => rfl
 | e :: r => congrArg (· + 1) (evalEach_len r)
theorem E_const {c : PySem.Const} {k : Nat} {p : Pos} : Sim g W (eval (.Constant c k p) env) (constM c) VR := by
 cases c with
 | none => exact Sim.pure fun _ _ => rfl
 | bool b => exact Sim.pure fun _ _ => rfl
 | int i => exact sim_int
 | str x => exact sim_text
 | bytes b => exact sim_bytes
 | _ => exact Sim.fail
theorem E_unary {op : UnaryOp} {x : Expr} {p : Pos} {m : M V} (h : Sim g W (eval x env) m VR) : Sim g W (eval (.UnaryOp op x p) env) (m >>= unM op) VR := by
 rw [arm_eval_UnaryOp]
 refine h.bind fun W₁ v u hx hv => Sim.standAt (Sim.holding ?_)
 cases op with
 | Not => exact Sim.holding (Sim.tail (k := fun b => V.bool !b) (f := fun b => Value.bool !b) (sim_truthy hv) fun W' b a _ hb W'' _ => by subst hb; rfl)
 | USub =>
  intro A W₂ mm st s Q E hA hx hS hP
  replace hP := Post.get hP; obtain ⟨y, hy, hP⟩ := hP
  obtain rfl := iO hy
  obtain ⟨t, rfl⟩ := hv
  exact neg_int (hP W₂ mm _ _ (Ext.refl _) (hS.toks _) Same.toks ⟨_, rfl⟩)
 | _ => exact Sim.fail
theorem E_bin {op : Operator} {l r : Expr} {p : Pos} {ml mr : M V} (hl : Sim g W (eval l env) ml VR) (hr : ∀ W', Ext W W' → Sim g W' (eval r env) mr VR) : Sim g W (eval (.BinOp l op r p) env) (ml >>= fun a => mr >>= fun b => binV op a b) VR := by
 rw [arm_eval_BinOp]
 refine hl.bind fun W₁ v u hx hv => (Sim.holding (hr W₁ hx)).bind fun W₂ w z hx₂ hw => Sim.standAt (Sim.operate (sim_bin (hv.ext hx₂) hw))
theorem E_if {t b o : Expr} {p : Pos} {mt : M Bool} {mb mo : M V} (ht : Sim g W (PySem.isTrue t env (eval t env)) mt (fun _ b b' => b' = b)) (hb : ∀ W', Ext W W' → Sim g W' (eval b env) mb VR) (ho : ∀ W', Ext W W' → Sim g W' (eval o env) mo VR) :
  Sim g W (eval (.IfExp t b o p) env) (mt >>= fun c => if c = true then mb else mo) VR := by
 rw [arm_eval_IfExp]
 refine ht.bind fun W₁ c c' hx hc => ?_
 subst hc
 cases c' with
 | true => exact hb W₁ hx
 | false => exact ho W₁ hx
theorem E_compare (D : Gd g) (O : EnvOk g W ev env) {l : Expr} {ops : List CmpOp} {cs : List Expr} {p : Pos} {ml : M V} (hl : Sim g W (eval l env) ml VR) (hc : ∀ W', Ext W W' → SimEach g W' (evalEach cs env) (denEach g.c.P (phi g.c.P g.d) ev cs)) :
  Sim g W (eval (.Compare l ops cs p) env) (ml >>= fun a => chainV g.c.P (phi g.c.P g.d) ev.hd a ops (denEach g.c.P (phi g.c.P g.d) ev cs)) VR := by
 rw [arm_eval_Compare, O.hd]
 exact hl.bind fun W₁ v u hx hv => sim_chain D ops hv (sim_marked ops cs (hc W₁ hx))
theorem T_compare (D : Gd g) (O : EnvOk g W ev env) {l : Expr} {ops : List CmpOp} {cs : List Expr} {p : Pos} {ml : M V} {whole : Sem Value} (hl : Sim g W (eval l env) ml VR) (hc : ∀ W', Ext W W' → SimEach g W' (evalEach cs env) (denEach g.c.P (phi g.c.P g.d) ev cs)) :
  Sim g W (PySem.isTrue (.Compare l ops cs p) env whole) (ml >>= fun a => testV g.c.P (phi g.c.P g.d) ev.hd a ops (denEach g.c.P (phi g.c.P g.d) ev cs)) (fun _ b b' => b' = b) := by
 rw [arm_isTrue_Compare, O.hd]
 exact hl.bind fun W₁ v u hx hv => sim_test D ops hv (sim_marked ops cs (hc W₁ hx))
theorem elts_fit {es : List Expr} (h : es.length < 25) {us : List Value} (e : us.length = (evalEach es env).length) : us.length ≤ sizeLine := by
 rw [e, evalEach_len, sizeLine_eq]; lia
theorem E_list {P : PI} {Φ : Phi} {es : List Expr} {p : Pos} (h : SimEach g W (evalEach es env) (denEach P Φ ev es)) : Sim g W (eval (.List es p) env) (if noStars es = true then denEs P Φ ev es >>= fun vs => alRef (.list vs) else failM) VR := by
 refine Sim.ite fun hs => ?_
 obtain ⟨h1, h2⟩ := noStars_of hs
 rw [denEs_all, arm_eval_List, starEach_plain es h2]
 exact Sim.standAt ((sim_spliced h).bind fun W₁ vs us hx hv => sim_newList hv.1 (elts_fit h1 hv.2))
theorem E_tuple {P : PI} {Φ : Phi} {es : List Expr} {k : Nat} {p : Pos} (h : SimEach g W (evalEach es env) (denEach P Φ ev es)) : Sim g W (eval (.Tuple es k p) env) (if noStars es = true then denEs P Φ ev es >>= fun vs => alRef (.tup vs) else failM) VR := by
 refine Sim.ite fun hs => ?_
 obtain ⟨h1, h2⟩ := noStars_of hs
 rw [denEs_all, arm_eval_Tuple, starEach_plain es h2]
 exact Sim.standAt ((sim_spliced h).bind fun W₁ vs us hx hv => sim_newTuple hv.1 (elts_fit h1 hv.2))
theorem base_plain {o : Expr} (h : plainBase o = true) (n : Str) (whole : Sem Value) : attributeBase o n env whole = whole := by
 cases o with
 | Call f as ks p => cases f <;> first | rfl | (cases as <;> first | rfl | (cases ks <;> first | rfl | exact zF h))
 | _ => rfl
theorem E_attr (D : Gd g) (O : EnvOk g W ev env) {v : Expr} {n : Str} {p : Pos} {mv : M V} (h : Sim g W (eval v env) mv VR) : Sim g W (eval (.Attribute v n p) env) (if plainBase v = true then mv >>= fun o => attrV g.c.P (phi g.c.P g.d) ev.hd o n else failM) VR := by
 refine Sim.ite fun hs => ?_
 rw [arm_eval_Attribute, base_plain hs, O.hd]
 refine h.bind fun W₁ o u hx ho => Sim.standAt ?_
 refine Sim.tailT (Sim.holding (sim_attr D.C D.F (Nat.le_trans D.k (by decide)) ho)) fun W₂ b a hx₂ hb => ?_
 exact (Sim.pure fun W' hx' => hb.ext hx' : Sim g W₂ (pure a : Sem Value) (pure b : M V) VR).via fun A Q E s x => wpAny_bind (wpAny_letTemporaryGo x)
theorem E_slice {v : Expr} {lo up : Option Expr} {q p : Pos} {mv ma mb : M V} (hv : Sim g W (eval v env) mv VR) (ha : ∀ W', Ext W W' → Sim g W' (valueOrNone (evalOpt lo env)) ma VR) (hb : ∀ W', Ext W W' → Sim g W' (valueOrNone (evalOpt up env)) mb VR) :
  Sim g W (eval (.Subscript v (.Slice lo up none q) p) env) (mv >>= fun o => ma >>= fun a => mb >>= fun b => sliceV o a b) VR := by
 refine SimT.via (T := fun A Q E s => wpAny (model g.c.prog g.c.w) A (eval v env) (fun o s₁ => wpAny (model g.c.prog g.c.w) A (valueOrNone (evalOpt lo env)) (fun a s₂ => wpAny (model g.c.prog g.c.w) A (valueOrNone (evalOpt up env)) (fun b s₃ =>
  wpAny (model g.c.prog g.c.w) A (newFields "slice" [a, b, .none]) (fun i s₄ => wpAny (model g.c.prog g.c.w) A (subscriptTail v (.Slice lo up none q) o i) Q E s₄) E s₃) E s₂) E s₁) E s) ?_ ?_
 ·intro A Q E s _ h
  refine Subscript_ (wpAny_mono h (fun o s₁ h₁ => ?_) fun _ _ x => x)
  rw [arm_eval_Slice]
  refine wpAny_bind (wpAny_mono h₁ (fun a s₂ h₂ => wpAny_bind (wpAny_holding (wpAny_mono h₂ (fun b s₃ h₃ => ?_) fun _ _ x => x))) fun _ _ x => x)
  exact wpAny_bind (wpAny_holding (wpAny_pure h₃))
 ·exact SimT.seq hv.toT fun W₁ o u hx ho => SimT.seq (ha W₁ hx).toT fun W₂ a za hx₂ haR => SimT.seq (hb W₂ (hx.trans hx₂)).toT fun W₃ b zb hx₃ hbR => sim_slice ((ho.ext hx₂).ext hx₃) (haR.ext hx₃) hbR
theorem E_sub {v i : Expr} {p : Pos} {mv mi : M V} (hs : ∀ o k, subscripted i false o k = operate [o, k] (getItem o k)) (hv : Sim g W (eval v env) mv VR) (hi : ∀ W', Ext W W' → Sim g W' (eval i env) mi VR) :
  Sim g W (eval (.Subscript v i p) env) (mv >>= fun o => mi >>= fun k => subV o k) VR :=
 SimT.via (T := fun A Q E s => wpAny (model g.c.prog g.c.w) A (eval v env) (fun o s₁ => wpAny (model g.c.prog g.c.w) A (eval i env) (fun k s₂ => wpAny (model g.c.prog g.c.w) A (subscriptTail v i o k) Q E s₂) E s₁) E s) (fun A Q E s _ h => Subscript_ h)
  (SimT.seq hv.toT fun W₁ o u hx ho => SimT.seq (hi W₁ hx).toT fun W₂ k z hx₂ hk => (sim_sub (ho.ext hx₂) hk hs).toT)
theorem boot_len : bootBuiltins "len" = some (.builtin "len") := by decide +kernel
theorem boot_abs : bootBuiltins "abs" = some (.builtin "abs") := by decide +kernel
theorem boot_isinstance : bootBuiltins "isinstance" = some (.builtin "isinstance") := by decide +kernel
theorem boot_int : bootBuiltins "int" = some (.type "int") := by decide +kernel
end
end
section
noncomputable def SimPairs (g : G) (W : Wd) : List (Sem Value × Sem Value) → List (M V) → List (M V) → Prop
 | [], [], [] => True
 | p :: ps, k :: ks, v :: vs => Sim g W p.1 k VR ∧ Sim g W p.2 v VR ∧ SimPairs g W ps ks vs
 | _, _, _ => False
noncomputable def evOpts (env : Env) : List (Option Expr) → List (Sem Value)
 | [] => []
 | some e :: r => eval e env :: evOpts env r
 | none :: r => evOpts env r
section
variable {g : G} {W : Wd} {ev : AEnv} {env : Env} {P : PI} {Φ : Phi}
theorem SimPairs.start {W W' : Wd} (x : Ext W W') : ∀ {ts : List (Sem Value × Sem Value)} {ks vs : List (M V)}, SimPairs g W ts ks vs → SimPairs g W' ts ks vs
 | [], [], [], _ => trivial
 | _ :: _, _ :: _, _ :: _, h => ⟨h.1.start x, h.2.1.start x, SimPairs.start x h.2.2⟩
 | [], [], _ :: _, h => h.elim
 | [], _ :: _, _, h => h.elim
 | _ :: _, [], _, h => h.elim
 | _ :: _, _ :: _, [], h => h.elim
theorem simPairs_of {f : Sem Value → Sem Value} (hf : ∀ {W t m}, Sim g W t m VR → Sim g W (f t) m VR) : ∀ {ts us : List (Sem Value)} {ks vs : List (M V)}, SimEach g W ts ks → SimEach g W us vs → ts.length = us.length → SimPairs g W (ts.zip (us.map f)) ks vs
 | [], [], [], [], _, _, _ => trivial
 | _ :: _, _ :: _, _ :: _, _ :: _, h, h', e => ⟨h.1, hf h'.1, simPairs_of hf h.2 h'.2 (Nat.succ.inj e)⟩
 | [], _, _ :: _, _, h, _, _ => h.elim
 | _ :: _, _, [], _, h, _, _ => h.elim
 | _, [], _, _ :: _, _, h, _ => h.elim
 | _, _ :: _, _, [], _, h, _ => h.elim
 | [], _ :: _, _, _, _, _, e => (by contradiction)
 | _ :: _, [], _, _, _, _, e => (by contradiction)
noncomputable def PR (W : Wd) (p : List V × List V) (us : List (Value × Value)) : Prop := VsRel W p.1 (us.map (·.1)) ∧ VsRel W p.2 (us.map (·.2))
theorem sim_evalPairs : ∀ {W : Wd} {ts : List (Sem Value × Sem Value)} {ks vs : List (M V)}, SimPairs g W ts ks vs → Sim g W (evalPairs ts) (pairsM ks vs) PR
 | W, [], [], [], _ => Sim.pure fun _ _ => ⟨trivial, trivial⟩
 | W, t :: ts, k :: ks, v :: vs, h => by
  show Sim g W (t.1 >>= fun kv => holding [kv] t.2 >>= fun vv => holding [kv, vv] (evalPairs ts) >>= fun r => pure ((kv, vv) :: r)) (k >>= fun a => v >>= fun b => pairsM ks vs >>= fun p => pure (a :: p.1, b :: p.2)) _
  refine h.1.bind fun W₁ a u hx ha => (Sim.holding (h.2.1.start hx)).bind fun W₂ b z hx₂ hb => ?_
  exact Sim.tail (k := fun p : List V × List V => (a :: p.1, b :: p.2)) (f := fun r => (u, z) :: r) (Sim.holding (sim_evalPairs ((h.2.2.start hx).start hx₂))) fun W' p r hx' hr W'' hx'' => ⟨⟨((ha.ext hx₂).ext hx').ext hx'', hr.1.ext hx''⟩, (hb.ext hx').ext hx'', hr.2.ext hx''⟩
 | _, [], [], _ :: _, h => h.elim
 | _, [], _ :: _, _, h => h.elim
 | _, _ :: _, [], _, h => h.elim
 | _, _ :: _, _ :: _, [], h => h.elim
theorem St.newDic {m : Str → Option Value} {st : S} {s : Shared} (hS : St g W m st s) {D : Addr} {h' : Heap} {tk : Nat} {o : AObj} (hn : ∀ fs, o ≠ .inst fs) (hw : o.own) (hl : W.lab D = some .pin) (hne : ∀ p ∈ g.pins, p.1 ∉ [D]) (hb : g.c.base.objs.size ≤ D) (hs : Heap.SameBut D s.heap h') (ho : OAt g.c ((W.unl [D]).add D 0 false) h' W.n o) :
  St g ((W.unl [D]).add D 0 false) m { st with heap := upd st.heap st.next o, next := st.next + 1 } { s with heap := h', toks := tk } := by
 have I := hS.inv.dropPins (h' := h') (Is := [D]) (fun a ha => by rw [smp ha]; exact hl) hne fun a o ha e => (hs.2 a fun q => ha (q ▸ .head _)).trans e
 have I' := I.add (a := D) (d := 0) (two := false) (o := o) (if_pos (.head _)) hb (fun x => zF x) (fun ⟨fs, e⟩ => absurd e (hn fs)) ho hw
 have hx := (W.ext_unl [D]).trans (Wd.ext_add (W.unl [D]) D 0 false)
 exact ⟨by rw [hS.next]; exact I', congrArg (· + 1) hS.next, hS.loc.ext hx⟩
theorem dict_run {ks : List (Option Expr)} {vs : List Expr} {pos : Pos} {ts : List (Sem Value × Sem Value)} {mk mv : List (M V)} (hshape : (evalEachOpt ks env).zip ((evalEach vs env).map fun v => do let x ← v; standAt pos; pure x) = ts.map fun p => (some p.1, p.2)) (h0 : ts ≠ []) (hlen : ts.length ≤ 15)
  (hp : ∀ ps W', Ext W W' → SimPairs (g.pin ps) W' ts mk mv) {K : Type} [DecidableEq K] (knd : KeyKind g.c.prog g.c.w K) {A : Around} {W₁ : Wd} {mm : Str → Option Value} {st : S} {s : Shared} {Q : Value → Shared → Prop} {E : Value → Shared → Prop}
  (hA : AOk g A) (hx : Ext W W₁) (hS : St g W₁ mm st s) (hP : Post g W₁ s VR Q E ((pairsM mk mv >>= fun p => dictM p.1 p.2) st))
  (hfin : ∀ p st₁ W₂ mm₁ s₁ us, pairsM mk mv st = .ok p st₁ → St g W₂ mm₁ st₁ s₁ → PR W₂ p us → W₂.lab s.heap.objs.size = some .pin → (∀ p ∈ g.pins, p.1 ∉ [s.heap.objs.size]) → g.c.base.objs.size ≤ s.heap.objs.size → Post g W₂ s₁ VR Q E (dictM p.1 p.2 st₁) →
   ∃ kvs, Carries knd us kvs ∧ ∀ h' tk, h'.DictOf knd s.heap.objs.size (merged [] kvs) → Heap.SameBut s.heap.objs.size s₁.heap h' → Q (.ref s.heap.objs.size) { s₁ with heap := h', toks := tk }) :
  wpAny (model g.c.prog g.c.w) A (eval (.Dict ks vs pos) env) Q E s := by
 refine wpAny_Dict_pairs (knd := knd) hshape h0 hlen ?_
 generalize hob : ({ cls := .type "dict", data := .dict #[] } : Obj) = ob
 have hun := hS.inv.unlab_size (Nat.le_refl s.heap.objs.size)
 have hnew : (s.heap.push ob).get? s.heap.objs.size = some ob := Heap.get?_push_size _ (by rw [← hob]; rfl)
 have one : ∀ {P : Addr → Prop}, P s.heap.objs.size → ∀ a ∈ [s.heap.objs.size], P a := fun h a ha => by obtain rfl := smp ha; exact h
 have hS₁ := (hS.push ob).lbl (Is := [s.heap.objs.size]) (one hun) (one (base_none hS.inv.sz)) (one ⟨_, hnew⟩)
 have hx₁ := W₁.ext_lbl [s.heap.objs.size]
 have hne : ∀ p ∈ g.pins, p.1 ∉ [s.heap.objs.size] := fun p hp q => by
  have h1 := hS.inv.lpin p hp
  rw [smp q, hun] at h1; exact zN h1
 refine sim_evalPairs (hp (pinsAt [s.heap.objs.size] (s.heap.push ob)) _ (hx.trans hx₁)) A _ mm st _ _ _ hA.pin (Ext.refl _) (hS₁.pinUp fun a ha => lbl_in ha) ?_
 rw [bR] at hP
 revert hP hfin
 cases pairsM mk mv st with
 | fail => exact fun hP => hP.elim
 | exc x st' => exact fun hP _ W' mm' s' e hx' hS' hs' ht => hP W' mm' s' e (hx₁.trans hx') hS'.pinDown (Same.heap.trans hs') ht
 | ok p st₁ =>
  intro hP hfin W₂ mm₁ s₁ us hx₂ hS₂ hs₂ hr
  obtain ⟨hkeep, hl⟩ := hS₂.pinned (one ⟨_, hnew⟩)
  obtain ⟨kvs, hc, hq⟩ := hfin p st₁ W₂ mm₁ s₁ us rfl hS₂.pinDown hr (hl _ (.head _)) hne hS.inv.sz (Post.move (r := dictM p.1 p.2 st₁) hP (hx₁.trans hx₂) (Same.heap.trans hs₂))
  refine ⟨kvs, hc, ?_, fun h' a b => hq h' _ a b⟩
  have hD := Heap.DictOf.new (knd := knd) s.heap
  rw [hob] at hD
  exact dictOf_keeps hD fun o e => (hkeep _ (.head _)).trans e
theorem prel_merged {α : Type} [DecidableEq α] {W : Wd} : ∀ (ns : List α) {xs : List V} {us : List Value} {es : List (α × V)} {kvs : List (α × Value)}, PRel W es kvs → VsRel W xs us → PRel W ((ns.zip xs).foldl (fun es p => putF p.1 p.2 es) es) (merged kvs (ns.zip us))
 | [], _, _, _, _, h, _ => h
 | _ :: _, [], [], _, _, h, _ => h
 | n :: ns, v :: xs, u :: us, es, kvs, h, hr => prel_merged ns (prel_put hr.1 h) hr.2
 | _ :: _, [], _ :: _, _, _, _, hr => hr.elim
 | _ :: _, _ :: _, [], _, _, _, hr => hr.elim
theorem carries_ints {prog : Program} {w : World} {W : Wd} : ∀ {xs : List V} {us : List (Value × Value)} {ns : List Int}, intsV xs = some ns → VsRel W xs (us.map (·.1)) → Carries (intKind prog w) us (ns.zip (us.map (·.2)))
 | [], [], _, e, _ => by obtain rfl := sj e; trivial
 | v :: xs, u :: us, ns, e, h => by
  unfold intsV at e
  cases q : intOf v with
  | none => rw [q] at e; exact zN e
  | some x =>
   rw [q] at e
   obtain rfl := iO q
   obtain ⟨ms, e1, rfl⟩ := Option.map_eq_some_iff.mp e
   obtain ⟨⟨t, h1⟩, h2⟩ := h
   refine ⟨?_, rfl, carries_ints e1 h2⟩
   rw [show u.1 = _ from h1]; simp [intKind, Value.isInt]
 | [], _ :: _, _, _, h => h.elim
 | _ :: _, [], _, _, h => h.elim
theorem carries_strs {prog : Program} {w : World} {W : Wd} : ∀ {xs : List V} {us : List (Value × Value)} {ns : List Str}, optAll (xs.map strOf) = some ns → VsRel W xs (us.map (·.1)) → Carries (strKind prog w) us (ns.zip (us.map (·.2)))
 | [], [], _, e, _ => by obtain rfl := sj e; trivial
 | v :: xs, u :: us, ns, e, h => by
  rw [List.map_cons] at e
  cases q : strOf v with
  | none => rw [q] at e; exact zN e
  | some x =>
   rw [q] at e
   have e : (optAll (xs.map strOf)).map (x :: ·) = some ns := e
   obtain rfl := strOf_some q
   obtain ⟨ms, e1, rfl⟩ := Option.map_eq_some_iff.mp e
   obtain ⟨⟨t, h1⟩, h2⟩ := h
   refine ⟨?_, rfl, carries_strs e1 h2⟩
   rw [show u.1 = _ from h1]; exact strKind_is prog w x t
 | [], _ :: _, _, _, h => h.elim
 | _ :: _, [], _, _, h => h.elim
theorem evOpts_some : ∀ {ks : List (Option Expr)}, (ks.all fun k => k.isSome) = true → evalEachOpt ks env = (evOpts env ks).map some ∧ (evOpts env ks).length = ks.length
 | [], _ => ⟨rfl, rfl⟩
 | some e :: r, h => ⟨congrArg (some (eval e env) :: ·) (evOpts_some (ks := r) h).1, congrArg (· + 1) (evOpts_some (ks := r) h).2⟩
 | none :: _, h => zF h
theorem E_dict {ks : List (Option Expr)} {vs : List Expr} {pos : Pos} (hk : (ks.all fun k => k.isSome) = true → ∀ ps W', Ext W W' → SimEach (g.pin ps) W' (evOpts env ks) (denEachOpt P Φ ev ks)) (hv : ∀ ps W', Ext W W' → SimEach (g.pin ps) W' (evalEach vs env) (denEach P Φ ev vs)) :
  Sim g W (eval (.Dict ks vs pos) env) (if dictForm ks vs = true then pairsM (denEachOpt P Φ ev ks) (denEach P Φ ev vs) >>= fun p => dictM p.1 p.2 else failM) VR := by
 refine Sim.ite fun hf => ?_
 unfold dictForm at hf
 simp only [Bool.and_eq_true, decide_eq_true_eq, beq_iff_eq] at hf
 obtain ⟨⟨⟨h1, h2⟩, h3⟩, h4⟩ := hf
 obtain ⟨e1, e2⟩ := evOpts_some (env := env) h4
 have hl : (evOpts env ks).length = (evalEach vs env).length := by rw [e2, h3, evalEach_len]
 have hz : ((evOpts env ks).zip ((evalEach vs env).map fun v => (do let x ← v; standAt pos; pure x : Sem Value))).length = ks.length := by rw [List.length_zip, List.length_map, ← hl, e2, Nat.min_self]
 have hshape : (evalEachOpt ks env).zip ((evalEach vs env).map fun v => (do let x ← v; standAt pos; pure x : Sem Value)) = ((evOpts env ks).zip ((evalEach vs env).map fun v => (do let x ← v; standAt pos; pure x : Sem Value))).map fun p => (some p.1, p.2) := by
  rw [e1, List.zip_map_left]; rfl
 have h0 : (evOpts env ks).zip ((evalEach vs env).map fun v => (do let x ← v; standAt pos; pure x : Sem Value)) ≠ [] := fun q => by
  rw [q] at hz
  cases ks with
  | nil => exact zF h1
  | cons _ _ => exact (by contradiction)
 have hp : ∀ ps W', Ext W W' → SimPairs (g.pin ps) W' ((evOpts env ks).zip ((evalEach vs env).map fun v => (do let x ← v; standAt pos; pure x : Sem Value))) (denEachOpt P Φ ev ks) (denEach P Φ ev vs) := fun ps W' hx =>
  simPairs_of (f := fun v => (do let x ← v; standAt pos; pure x : Sem Value)) (fun h => Sim.tailT h fun W₁ b a _ hr => Sim.standAt (Sim.pure fun _ hx => hr.ext hx)) (hk h4 ps W' hx) (hv ps W' hx) hl
 intro A W₁ mm st s Q E hA hx hS hP
 have hlen : ((evOpts env ks).zip ((evalEach vs env).map fun v => (do let x ← v; standAt pos; pure x : Sem Value))).length ≤ 15 := by rw [hz]; lia
 cases hr : pairsM (denEachOpt P Φ ev ks) (denEach P Φ ev vs) st with
 | fail => rw [bR, hr] at hP; exact hP.elim
 | exc x st' => exact dict_run hshape h0 hlen hp (intKind g.c.prog g.c.w) hA hx hS hP fun p st₁ _ _ _ _ e => by rw [hr] at e; contradiction
 | ok p st₁ =>
  cases hi : intsV p.1 with
  | some ns =>
   refine dict_run hshape h0 hlen hp (intKind g.c.prog g.c.w) hA hx hS hP fun p' st₁' W₂ mm₁ s₁ us e hS₂ hr₂ hl hne hb hP' => ?_
   rw [hr] at e; obtain ⟨rfl, rfl⟩ := R.ok.inj e
   refine ⟨_, carries_ints hi hr₂.1, fun h' tk hD hs => ?_⟩
   unfold dictM at hP'
   rw [hi] at hP'
   obtain ⟨ep, hD⟩ := hD.dictAt
   have hxb := W₂.ext_bump ep
   have hSb : St g (W₂.bump ep) mm₁ { st₁ with next := st₁.next + 1 } s₁ := ⟨hS₂.inv.bump ep, congrArg (· + 1) hS₂.next, hS₂.loc.ext hxb⟩
   have hxa := ((W₂.bump ep).ext_unl [s.heap.objs.size]).trans (Wd.ext_add ((W₂.bump ep).unl [s.heap.objs.size]) s.heap.objs.size 0 false)
   have hSn := hSb.newDic (D := s.heap.objs.size) (h' := h') (tk := tk) (o := .dictI ((ns.zip p.2).foldl (fun es p => putF p.1 p.2 es) []) st₁.next) (fun _ e => (by contradiction)) trivial hl hne hb hs ⟨?_, _, ?_, prel_merged ns (es := []) (kvs := []) ⟨rfl, trivial⟩ (hr₂.2.ext (hxb.trans hxa))⟩
   ·refine hP' _ mm₁ _ _ (hxb.trans hxa) hSn Same.mk' ⟨?_, ?_⟩
    ·rw [hS₂.next]; exact Nat.lt_succ_self _
    ·rw [hS₂.next]; exact (congrArg Value.ref (Wd.ρ_add ((W₂.bump ep).unl [s.heap.objs.size]) s.heap.objs.size 0 false)).symm
   ·rw [hS₂.next]; exact Nat.lt_succ_of_lt (Nat.lt_succ_self _)
   ·rw [hS₂.next, hxa.eq W₂.n (Nat.lt_succ_self _), show (W₂.bump ep).ρ W₂.n = ep from if_pos rfl, show (((W₂.bump ep).unl [s.heap.objs.size]).add s.heap.objs.size 0 false).ρ (W₂.bump ep).n = s.heap.objs.size from Wd.ρ_add ((W₂.bump ep).unl [s.heap.objs.size]) s.heap.objs.size 0 false]
    exact hD
  | none =>
   refine dict_run hshape h0 hlen hp (strKind g.c.prog g.c.w) hA hx hS hP fun p' st₁' W₂ mm₁ s₁ us e hS₂ hr₂ hl hne hb hP' => ?_
   rw [hr] at e; obtain ⟨rfl, rfl⟩ := R.ok.inj e
   unfold dictM at hP'
   rw [hi] at hP'
   dsimp only at hP'
   cases hstr : optAll (p.1.map strOf) with
   | none => rw [hstr] at hP'; exact hP'.elim
   | some ns =>
    rw [hstr] at hP'
    refine ⟨_, carries_strs hstr hr₂.1, fun h' tk hD hs => ?_⟩
    have hxa := (W₂.ext_unl [s.heap.objs.size]).trans (Wd.ext_add (W₂.unl [s.heap.objs.size]) s.heap.objs.size 0 false)
    have hSn := hS₂.newDic (D := s.heap.objs.size) (h' := h') (tk := tk) (o := .dictS ((ns.zip p.2).foldl (fun es p => putF p.1 p.2 es) [])) (fun _ e => (by contradiction)) trivial hl hne hb hs ⟨_, ?_, prel_merged ns (es := []) (kvs := []) ⟨rfl, trivial⟩ (hr₂.2.ext hxa)⟩
    ·refine hP' _ mm₁ _ _ hxa hSn Same.mk' ⟨?_, ?_⟩
     ·rw [hS₂.next]; exact Nat.lt_succ_self _
     ·rw [hS₂.next]; exact (congrArg Value.ref (Wd.ρ_add (W₂.unl [s.heap.objs.size]) s.heap.objs.size 0 false)).symm
    ·rw [show ((W₂.unl [s.heap.objs.size]).add s.heap.objs.size 0 false).ρ W₂.n = s.heap.objs.size from Wd.ρ_add (W₂.unl [s.heap.objs.size]) s.heap.objs.size 0 false]
     exact hD
end
end
section
section
variable {g : G} {W : Wd} {ev : AEnv} {env : Env}
theorem kw_each {pp : Pos} : ∀ {kws : List Keyword} {ks : List (M V)}, SimEach g W (evalEach (kws.map (·.value)) env) ks → SimEach g W ((backToKw pp (keywordEach kws env)).map (·.2)) ks
 | [], [], _ => trivial
 | ⟨n, e, p⟩ :: r, m :: ms, h => ⟨Sim.tailT h.1 fun W₁ b a _ hr => Sim.standAt (Sim.pure fun _ hx => hr.ext hx), kw_each (kws := r) h.2⟩
 | [], _ :: _, h => h.elim
 | ⟨_, _, _⟩ :: _, [], h => h.elim
theorem kw_names {pp : Pos} : ∀ kws : List Keyword, (backToKw pp (keywordEach kws env)).map (·.1) = kws.map (·.arg)
 | [] => rfl
 | ⟨n, e, p⟩ :: r => congrArg (n :: ·) (kw_names r)
theorem kw_all {pp : Pos} : ∀ {kws : List Keyword}, (kws.all fun k => k.arg.isSome) = true → (backToKw pp (keywordEach kws env)).all (·.1.isSome) = true
 | [], _ => rfl
 | ⟨none, e, p⟩ :: r, h => zF h
 | ⟨some n, e, p⟩ :: r, h => kw_all (kws := r) h
theorem E_method (D : Gd g) (O : EnvOk g W ev env) {o : Expr} {n : Str} {ap pp : Pos} {args : List Expr} {kws : List Keyword} {mo : M V} (ho : Sim g W (eval o env) mo VR) (ha : ∀ W', Ext W W' → SimEach g W' (evalEach args env) (denEach g.c.P (phi g.c.P g.d) ev args))
  (hk : ∀ W', Ext W W' → SimEach g W' (evalEach (kws.map (·.value)) env) (denEach g.c.P (phi g.c.P g.d) ev (kws.map (·.value)))) :
  Sim g W (eval (.Call (.Attribute o n ap) args kws pp) env) (if ((ap.endLine == pp.line) && plainBase o && noStars args && namedKws kws) = true then
    mo >>= fun ov => calleeM g.c.P ov n >>= fun k => denEs g.c.P (phi g.c.P g.d) ev args >>= fun vs => denKws g.c.P (phi g.c.P g.d) ev kws >>= fun kw => methodM g.c.P (phi g.c.P g.d) ev.hd k.1 k.2 n vs kw
   else failM) VR := by
 refine Sim.ite fun hc => ?_
 rw [Bool.and_eq_true, Bool.and_eq_true, Bool.and_eq_true] at hc
 obtain ⟨⟨⟨hl, h1⟩, h2⟩, h3⟩ := hc
 obtain ⟨h4, h5⟩ := noStars_of h2
 unfold namedKws at h3
 rw [Bool.and_eq_true, decide_eq_true_eq] at h3
 obtain ⟨h6, h7⟩ := h3
 rw [arm_eval_Call, base_plain h1, starEach_plain args h5]
 refine ho.bind fun W₁ v u hx hv => Sim.standAt ?_
 have hform : methodCallForm (args.length + kws.length) ((evalEach args env).map fun t => (false, t)) (backToKw pp (keywordEach kws env)) = true := by
  unfold methodCallForm
  have e1 : ((evalEach args env).map fun t => ((false, t) : Bool × Sem Value)).all (!·.1) = true := by simp
  rw [e1, kw_all h7, Bool.true_and, Bool.true_and, decide_eq_true_eq]
  split <;> lia
 have hpos : methodCallPos true o env ap pp = pure pp := by
  unfold methodCallPos
  simp [hl]
 unfold methodCall
 rw [hform]
 refine (Sim.holding (sim_callee D hv)).bind fun W₂ k p hx₂ hr => ?_
 obtain ⟨f, first⟩ := p
 show Sim g W₂ (methodCallPos true o env ap pp >>= fun callPos => callWith callPos f first _ _) _ _
 rw [hpos, pure_bind, denEs_all, denKws_kwM, O.hd]
 refine sim_callWith D.C (k := fun vs kw => methodM g.c.P (phi g.c.P g.d) g.hd k.1 k.2 n vs kw) (kw_names kws) (kw_all h7) (fun h X => keeps_callee hr h X) (ha W₂ (hx.trans hx₂)) (fun W' hx' => kw_each (hk W' ((hx.trans hx₂).trans hx'))) fun W₃ vs us kv kw hx₃ hvs hkw => ?_
 obtain ⟨hi, h8, h9⟩ := hr
 exact sim_method D (k := k) (p := (f, first)) ⟨ltl hi hx₃.le, by rw [h8, hx₃.eq _ hi], h9⟩ hvs hkw
theorem plain_calls {α : Type} {ms : List (M V)} {k : List V → M α} : (allM ms >>= fun vs => kwM [] [] >>= fun kv => match kv with | [] => k vs | _ => failM) = allM ms >>= k := congrArg (allM ms >>= ·) (funext fun vs => rfl)
theorem sim_plainT {γ δ : Type} (D : Gd g) {f : Value} {pos : Pos} {args : List Expr} {k : List V → M δ} {R : Wd → δ → γ → Prop} {T : Value → Around → (γ → Shared → Prop) → (Value → Shared → Prop) → Shared → Prop} (hs : (args.all fun e => !starred e) = true)
  (hkeep : ∀ h, g.c.K.In h → ∃ k, (k = Keeper.frame ∨ k = Keeper.machine ∨ k = Keeper.boundFrame) ∧ Looks (model g.c.prog g.c.w) h (keeperOf f) k)
  (ha : SimEach g W (evalEach args env) (denEach g.c.P (phi g.c.P g.d) ev args)) (hc : ∀ W₁ vs us, Ext W W₁ → VsRel W₁ vs us → SimT g W₁ (fun A Q E s => wpAny (model g.c.prog g.c.w) A (call f us []) (fun v s' => T v A Q E s') E s) (k vs) R) :
  SimT g W (fun A Q E s => wpAny (model g.c.prog g.c.w) A (callWith pos f [] (backTo pos (starEach args env)) (backToKw pos (keywordEach [] env))) (fun v s' => T v A Q E s') E s) (denEs g.c.P (phi g.c.P g.d) ev args >>= k) R := by
 rw [starEach_plain args hs, denEs_all, ← plain_calls]
 refine sim_callT D.C (first := []) (kws := []) rfl rfl hkeep ha (fun _ _ => trivial) fun W₁ vs us kv kw hx hv hkw => ?_
 match kv, kw, hkw with
 | [], [], _ => exact hc W₁ vs us hx hv
 | _ :: _, _ :: _, _ => exact fun _ _ _ _ _ _ _ _ _ _ h => h.elim
 | [], _ :: _, h => exact h.elim
 | _ :: _, [], h => exact h.elim
theorem sim_callPlain (D : Gd g) {f : Value} {pos : Pos} {args : List Expr} {k : List V → M V} (hs : (args.all fun e => !starred e) = true)
  (hkeep : ∀ h, g.c.K.In h → ∃ k, (k = Keeper.frame ∨ k = Keeper.machine ∨ k = Keeper.boundFrame) ∧ Looks (model g.c.prog g.c.w) h (keeperOf f) k)
  (ha : SimEach g W (evalEach args env) (denEach g.c.P (phi g.c.P g.d) ev args)) (hc : ∀ W₁ vs us, Ext W W₁ → VsRel W₁ vs us → Sim g W₁ (call f us []) (k vs) VR) :
  Sim g W (callWith pos f [] (backTo pos (starEach args env)) (backToKw pos (keywordEach [] env))) (denEs g.c.P (phi g.c.P g.d) ev args >>= k) VR := sim_plainT (T := fun v _ Q _ s => Q v s) D hs hkeep ha hc
theorem pre_unit {α β : Type} {t : Sem α} {f : α → Sem Value} {a : α} {m : M V} (h1 : Sim g W t (pure () : M Unit) (fun _ _ u => u = a)) (h2 : ∀ W₁, Ext W W₁ → Sim g W₁ (f a) m VR) : Sim g W (t >>= f) m VR := by
 have e : m = (pure () >>= fun _ => m : M V) := by funext st; rfl
 rw [e]
 exact h1.bind fun W₁ _ u hx hu => by subst hu; exact h2 W₁ hx
theorem pre_unitT {t : Sem Value} {f : Value → Sem Value} {a : Value} {m : M V} (h1 : Sim g W t (pure () : M Unit) (fun _ _ u => u = a)) (h2 : ∀ W₁, Ext W W₁ → Sim g W₁ (f a) m VR) : SimT g W (fun A Q E s => wpAny (model g.c.prog g.c.w) A t (fun a s' => wpAny (model g.c.prog g.c.w) A (f a) Q E s') E s) m VR := by
 have e : m = (pure () >>= fun _ => m : M V) := by funext st; rfl
 rw [e]
 exact SimT.seq (T' := fun a A Q E s => wpAny (model g.c.prog g.c.w) A (f a) Q E s) h1.toT fun W₁ _ u hx hu => by subst hu; exact h2 W₁ hx
theorem E_isinst (D : Gd g) (O : EnvOk g W ev env) {np pos : Pos} {args : List Expr} (hg : isGlobal ev ("isinstance" : Str) = true) (h5 : (args.all fun e => !starred e) = true) (ha : ∀ W', Ext W W' → SimEach g W' (evalEach args env) (denEach g.c.P (phi g.c.P g.d) ev args)) :
  Sim g W (eval (.Call (.Name "isinstance" np) args [] pos) env) (isiM ev args (denEach g.c.P (phi g.c.P g.d) ev args)) VR := by
 match args, ha, h5 with
 | [], _, _ => exact Sim.fail
 | [_], _, _ => exact Sim.fail
 | _ :: _ :: _ :: _, _, _ => exact Sim.fail
 | [e, t], ha, h5 =>
  show Sim g W (eval (.Name "isinstance" np) env >>= fun fv => callWith pos fv [] (backTo pos (starEach [e, t] env)) (backToKw pos (keywordEach [] env))) (match globE ev t with | some n => denE g.c.P (phi g.c.P g.d) ev e >>= fun v => isinstV v n | none => failM) VR
  cases hge : globE ev t with
  | none => exact Sim.fail
  | some n =>
   obtain ⟨q, hn, rfl⟩ : ∃ q, isGlobal ev n = true ∧ t = .Name n q := by
    unfold globE at hge
    split at hge
    ·rename_i x hx
     obtain ⟨q, rfl⟩ := nameE_some hx
     by_cases hz : isGlobal ev x = true
     ·rw [if_pos hz] at hge; obtain rfl := sj hge; exact ⟨q, hz, rfl⟩
     ·rw [if_neg hz] at hge; exact zN hge
    ·exact zN hge
   refine pre_unit (β := Unit) (sim_boot D.C O hg (D.C.frees "isinstance" (by decide)) boot_isinstance (by decide) (by decide)) fun W₁ hx₁ => ?_
   have O₁ := O.ext hx₁
   rw [starEach_plain _ h5]
   refine SimT.via (T := fun A Q E s => wpAny (model g.c.prog g.c.w) A (eval e env) (fun v s₁ => wpAny (model g.c.prog g.c.w) A (eval (.Name n q) env) (fun z s₂ => wpAny (model g.c.prog g.c.w) A (call (.builtin "isinstance") [v, z]) Q E s₂) E s₁) E s) ?_ ?_
   ·intro A Q E s _ h
    refine callWith_of (P := fun _ => True) rfl (fun h _ => keeps_builtin h) ?_
    refine evalArgs_kw rfl ?_
    show wpAny _ A (eval e env >>= fun v => (pure [v] : Sem (List Value)) >>= fun here => holding here (eval (.Name n q) env >>= fun v => (pure [v] : Sem (List Value)) >>= fun here => holding here (pure []) >>= fun r => pure (here ++ r)) >>= fun r => pure (here ++ r)) _ E s
    refine wpAny_bind (wpAny_mono h (fun v s₁ h₁ => wpAny_bind (wpAny_pure (wpAny_bind (wpAny_holding (wpAny_bind (wpAny_mono h₁ (fun z s₂ h₂ => ?_) fun _ _ x => x)))))) fun _ _ x => x)
    exact wpAny_bind (wpAny_pure (wpAny_bind (wpAny_holding (wpAny_pure (wpAny_pure (wpAny_pure (wpAny_pure ⟨trivial, h₂⟩)))))))
   ·refine SimT.seq (ha W₁ hx₁).1.toT fun W₂ v u hx₂ hv => ?_
    have O₂ := O₁.ext hx₂
    by_cases h1 : n = ("int" : Str)
    ·subst h1
     exact pre_unitT (f := fun z => call (.builtin "isinstance") [u, z]) (sim_boot D.C O₂ hn (D.C.frees "int" (by decide)) boot_int (by decide) (by decide)) fun W₃ hx₃ => sim_isint D.C (hv.ext hx₃)
    ·by_cases h2 : n = ("Stream" : Str)
     ·subst h2
      exact pre_unitT (f := fun z => call (.builtin "isinstance") [u, z]) (sim_glob D.C O₂ hn D.C.stream (by decide)) fun W₃ hx₃ => sim_isstream D.C (hv.ext hx₃)
     ·have e : isinstV v n = failM := by
       funext st
       unfold isinstV
       rw [if_neg h1, if_neg h2]
       rfl
      rw [e]; exact fun _ _ _ _ _ _ _ _ _ _ h => h.elim
theorem E_callName (D : Gd g) (O : EnvOk g W ev env) {f : Str} {np pos : Pos} {args : List Expr} {kws : List Keyword} (ha : ∀ W', Ext W W' → SimEach g W' (evalEach args env) (denEach g.c.P (phi g.c.P g.d) ev args)) :
  Sim g W (eval (.Call (.Name f np) args kws pos) env) (if (isGlobal ev f && kws.isEmpty && noStars args) = true then
    (if f = ("isinstance" : Str) then isiM ev args (denEach g.c.P (phi g.c.P g.d) ev args)
    else if knownFn g.c.P f = true then denEs g.c.P (phi g.c.P g.d) ev args >>= fun vs => callName g.c.P (phi g.c.P g.d) ev f vs else failM)
   else failM) VR := by
 refine Sim.ite fun hc => ?_
 rw [Bool.and_eq_true, Bool.and_eq_true] at hc
 obtain ⟨⟨hg, hk⟩, hs⟩ := hc
 obtain rfl := List.isEmpty_iff.mp hk
 obtain ⟨h4, h5⟩ := noStars_of hs
 by_cases hi : f = ("isinstance" : Str)
 ·subst hi
  rw [if_pos rfl]
  exact E_isinst D O hg h5 ha
 rw [if_neg hi]
 refine Sim.ite fun hkn => ?_
 have go : ∀ {fv : Value} {k : List V → M V}, Sim g W (eval (.Name f np) env) (pure () : M Unit) (fun _ _ u => u = fv) → (∀ h, g.c.K.In h → ∃ k, (k = Keeper.frame ∨ k = Keeper.machine ∨ k = Keeper.boundFrame) ∧ Looks (model g.c.prog g.c.w) h (keeperOf fv) k) →
   (∀ W₁ vs us, Ext W W₁ → VsRel W₁ vs us → Sim g W₁ (call fv us []) (k vs) VR) → Sim g W (eval (.Call (.Name f np) args [] pos) env) (denEs g.c.P (phi g.c.P g.d) ev args >>= k) VR := fun {fv k} h1 h2 h3 =>
  pre_unit (β := Unit) (t := eval (.Name f np) env) (f := fun fv => callWith pos fv [] (backTo pos (starEach args env)) (backToKw pos (keywordEach [] env))) h1 fun W₁ hx => sim_callPlain D h5 h2 (ha W₁ hx) fun W₂ vs us hx₂ hv => h3 W₂ vs us (hx.trans hx₂) hv
 unfold callName
 by_cases hc : (g.c.P.code (.glob f)).isSome = true
 ·simp only [if_pos hc]
  obtain ⟨code, hcd⟩ := Option.isSome_iff_exists.mp hc
  obtain ⟨fa, hfa, hfn⟩ := D.C.fn _ _ hcd
  have hdb : (f == ("__debug__" : Str)) = false := by
   rw [beq_eq_false_iff_ne]
   rintro rfl
   rw [D.C.dbg] at hcd; exact zN hcd
  rw [O.hd]
  exact go (sim_glob D.C O hg hfa hdb) (fun h X => keeps_K (keep_fn hfn) h X) fun W₂ vs us hx₂ hvs => sim_fn D hcd hfn hvs trivial
 ·simp only [if_neg hc]
  by_cases h1 : f = ("Stream" : Str)
  ·subst h1
   simp only [if_pos rfl]
   rw [O.hd]
   exact go (sim_glob D.C O hg D.C.stream (by decide)) (fun h X => keeps_K D.C.keep h X) fun W₂ vs us hx₂ hvs => sim_new D hvs
  ·simp only [if_neg h1]
   by_cases h2 : f = ("len" : Str)
   ·subst h2
    simp only [if_pos rfl]
    exact go (sim_boot D.C O hg (D.C.frees "len" (by decide)) boot_len (by decide) (by decide)) (fun h X => keeps_builtin h) fun W₂ vs us hx₂ hvs => one_sim (G := fun us => call (.builtin "len") us []) (fun _ => rfl) (fun v u h => sim_len h) hvs
   ·simp only [if_neg h2]
    by_cases h3 : f = ("abs" : Str)
    ·subst h3
     simp only [if_pos rfl]
     exact go (sim_boot D.C O hg (D.C.frees "abs" (by decide)) boot_abs (by decide) (by decide)) (fun h X => keeps_builtin h) fun W₂ vs us hx₂ hvs => one_sim (G := fun us => call (.builtin "abs") us []) (fun _ => rfl) (fun v u h => sim_abs h) hvs
    ·simp only [if_neg h3]
     by_cases h4 : f = ("sorted" : Str)
     ·subst h4
      simp only [if_pos rfl]
      exact go (sim_boot D.C O hg (D.C.frees "sorted" (by decide)) boot_sorted (by decide) (by decide)) (fun h X => keeps_builtin h) fun W₂ vs us hx₂ hvs => one_sim (G := fun us => call (.builtin "sorted") us []) (fun _ => rfl) (fun v u h => sim_sorted h) hvs
     ·exact absurd hkn (by unfold knownFn; simp [hc, h1, h2, h3, h4])
end
end
section
section
variable {g : G} {W : Wd} {ev : AEnv} {env : Env}
theorem tD {e : Expr} {m : M V} {t : Sem Value} (h : Sim g W t m VR) (he : PySem.isTrue e env t = (t >>= fun v => standAt e.pos >>= fun _ => holding [v] (truthy v)) := by rfl) : Sim g W (PySem.isTrue e env t) (truthM m) (fun _ b b' => b' = b) := by
 rw [he]
 exact h.bind fun W₁ v u hx hv => Sim.standAt (Sim.holding (sim_truthy hv))
theorem sim_next {op : BoolOp} {b : Bool} {m : M Bool} {t : Sem Bool} (h : Sim g W t m (fun _ b b' => b' = b)) : Sim g W (match op, b with | .And, false => pure false | .Or, true => pure true | _, _ => t) (boolNext op b m) (fun _ b b' => b' = b) := by
 cases op <;> cases b <;> first | exact h | exact Sim.pure fun _ _ => rfl
end
mutual
theorem sX : ∀ (e : Expr) {g : G} {W : Wd} {ev : AEnv} {env : Env}, Gd g → EnvOk g W ev env → Sim g W (eval e env) (denE g.c.P (phi g.c.P g.d) ev e) VR
 | .Constant c k p, _, _, _, _, D, O => E_const
 | .Name x p, _, _, _, _, D, O => sim_load O
 | .UnaryOp op x p, _, _, _, _, D, O => E_unary (sX x D O)
 | .BinOp l op r p, _, _, _, _, D, O => E_bin (sX l D O) fun W' hx => sX r D (O.ext hx)
 | .IfExp t b o p, _, _, _, _, D, O => E_if (snd_T t D O (sX t D O)) (fun W' hx => sX b D (O.ext hx)) (fun W' hx => sX o D (O.ext hx))
 | .Compare l ops cs p, _, _, _, _, D, O => E_compare D O (sX l D O) fun W' hx => snd_Each cs D (O.ext hx)
 | .List es p, _, _, _, _, D, O => E_list (snd_Each es D O)
 | .Tuple es k p, _, _, _, _, D, O => E_tuple (snd_Each es D O)
 | .Attribute v n p, _, _, _, _, D, O => E_attr D O (sX v D O)
 | .Subscript v i p, g, W, ev, env, D, O => by
  refine Sim.ite fun hst => ?_
  cases i with
  | Slice lo up st q =>
   obtain rfl := Option.isNone_iff_eq_none.mp hst
   exact E_slice (sX v D O) (fun W' hx => snd_Opt lo D (O.ext hx)) fun W' hx => snd_Opt up D (O.ext hx)
  | _ => exact E_sub (fun _ _ => rfl) (sX v D O) fun W' hx => sX _ D (O.ext hx)
 | .Call f args kws p, g, W, ev, env, D, O => by
  cases f with
  | Attribute o n ap => exact E_method D O (sX o D O) (fun W' hx => snd_Each args D (O.ext hx)) fun W' hx => snd_Kws kws D (O.ext hx)
  | Name x np => exact E_callName D O fun W' hx => snd_Each args D (O.ext hx)
  | _ => exact Sim.fail
 | .ListComp elt gens sc p, g, W, ev, env, D, O => snd_Comp gens D O fun C fr ps W' hx O' => sX elt (g := gc g C fr ps) D.gc O'
 | .Dict ks vs p, g, W, ev, env, D, O => E_dict (fun h ps W' hx => snd_Opts ks h (g := g.pin ps) D.pin (O.ext hx).pin) (fun ps W' hx => snd_Each vs (g := g.pin ps) D.pin (O.ext hx).pin)
 | .BoolOp .., _, _, _, _, _, _ => Sim.fail
 | .NamedExpr .., _, _, _, _, _, _ => Sim.fail
 | .Lambda .., _, _, _, _, _, _ => Sim.fail
 | .Set .., _, _, _, _, _, _ => Sim.fail
 | .SetComp .., _, _, _, _, _, _ => Sim.fail
 | .DictComp .., _, _, _, _, _, _ => Sim.fail
 | .GeneratorExp .., _, _, _, _, _, _ => Sim.fail
 | .Await .., _, _, _, _, _, _ => Sim.fail
 | .Yield .., _, _, _, _, _, _ => Sim.fail
 | .YieldFrom .., _, _, _, _, _, _ => Sim.fail
 | .FormattedValue .., _, _, _, _, _, _ => Sim.fail
 | .JoinedStr .., _, _, _, _, _, _ => Sim.fail
 | .Starred .., _, _, _, _, _, _ => Sim.fail
 | .Slice .., _, _, _, _, _, _ => Sim.fail
theorem snd_T : ∀ (e : Expr) {g : G} {W : Wd} {ev : AEnv} {env : Env} {m : M V}, Gd g → EnvOk g W ev env → Sim g W (eval e env) m VR → Sim g W (PySem.isTrue e env (eval e env)) (denT g.c.P (phi g.c.P g.d) ev e m) (fun _ b b' => b' = b)
 | .UnaryOp op x p, g, W, ev, env, m, D, O, h => by
  cases op with
  | Not =>
   rw [arm_isTrue_UnaryOp]
   exact Sim.tail (k := fun b => !b) (f := fun b => !b) (snd_T x D O (sX x D O)) fun W' b a _ hb W'' _ => by subst hb; rfl
  | _ => exact tD h
 | .BoolOp op vs p, _, _, _, _, _, D, O, h => snd_Bool op vs D O
 | .IfExp t b o p, _, _, _, _, _, D, O, h => Sim.fail
 | .Compare l ops cs p, _, _, _, _, _, D, O, h => T_compare D O (sX l D O) fun W' hx => snd_Each cs D (O.ext hx)
 | .Constant .., _, _, _, _, _, D, O, h => tD h
 | .Name .., _, _, _, _, _, D, O, h => tD h
 | .BinOp .., _, _, _, _, _, D, O, h => tD h
 | .List .., _, _, _, _, _, D, O, h => tD h
 | .Tuple .., _, _, _, _, _, D, O, h => tD h
 | .Dict .., _, _, _, _, _, D, O, h => tD h
 | .Attribute .., _, _, _, _, _, D, O, h => tD h
 | .Subscript .., _, _, _, _, _, D, O, h => tD h
 | .Call .., _, _, _, _, _, D, O, h => tD h
 | .ListComp .., _, _, _, _, _, D, O, h => tD h
 | .NamedExpr .., _, _, _, _, _, D, O, h => tD h
 | .Lambda .., _, _, _, _, _, D, O, h => tD h
 | .Set .., _, _, _, _, _, D, O, h => tD h
 | .SetComp .., _, _, _, _, _, D, O, h => tD h
 | .DictComp .., _, _, _, _, _, D, O, h => tD h
 | .GeneratorExp .., _, _, _, _, _, D, O, h => tD h
 | .Await .., _, _, _, _, _, D, O, h => tD h
 | .Yield .., _, _, _, _, _, D, O, h => tD h
 | .YieldFrom .., _, _, _, _, _, D, O, h => tD h
 | .FormattedValue .., _, _, _, _, _, D, O, h => tD h
 | .JoinedStr .., _, _, _, _, _, D, O, h => tD h
 | .Starred .., _, _, _, _, _, D, O, h => tD h
 | .Slice .., _, _, _, _, _, D, O, h => tD h
theorem snd_Bool : ∀ (op : BoolOp) (es : List Expr) {g : G} {W : Wd} {ev : AEnv} {env : Env}, Gd g → EnvOk g W ev env → Sim g W (allTrue op es env) (denBool g.c.P (phi g.c.P g.d) ev op es) (fun _ b b' => b' = b)
 | op, [], _, _, _, _, D, O => Sim.pure fun _ _ => rfl
 | op, e :: r, g, W, ev, env, D, O => by
  rw [arm_allTrue_cons]
  refine (snd_T e D O (sX e D O)).bind fun W₁ b b' hx hb => ?_
  subst hb
  have ih := snd_Bool op r D (O.ext hx)
  cases op <;> cases b' <;> first | exact ih | exact Sim.pure fun _ _ => rfl
theorem snd_Each : ∀ (es : List Expr) {g : G} {W : Wd} {ev : AEnv} {env : Env}, Gd g → EnvOk g W ev env → SimEach g W (evalEach es env) (denEach g.c.P (phi g.c.P g.d) ev es)
 | [], _, _, _, _, _, _ => trivial
 | e :: r, _, _, _, _, D, O => ⟨sX e D O, snd_Each r D O⟩
theorem snd_Kws : ∀ (es : List Keyword) {g : G} {W : Wd} {ev : AEnv} {env : Env}, Gd g → EnvOk g W ev env → SimEach g W (evalEach (es.map (·.value)) env) (denEach g.c.P (phi g.c.P g.d) ev (es.map (·.value)))
 | [], _, _, _, _, _, _ => trivial
 | ⟨n, e, p⟩ :: r, _, _, _, _, D, O => ⟨sX e D O, snd_Kws r D O⟩
theorem snd_Opts : ∀ (es : List (Option Expr)) (h : (es.all fun k => k.isSome) = true) {g : G} {W : Wd} {ev : AEnv} {env : Env}, Gd g → EnvOk g W ev env → SimEach g W (evOpts env es) (denEachOpt g.c.P (phi g.c.P g.d) ev es)
 | [], _, _, _, _, _, _, _ => trivial
 | some e :: r, h, _, _, _, _, D, O => ⟨sX e D O, snd_Opts r h D O⟩
 | none :: r, h, _, _, _, _, D, O => zF h
theorem snd_Opt : ∀ (e : Option Expr) {g : G} {W : Wd} {ev : AEnv} {env : Env}, Gd g → EnvOk g W ev env → Sim g W (valueOrNone (evalOpt e env)) (denOpt g.c.P (phi g.c.P g.d) ev e) VR
 | none, _, _, _, _, _, _ => Sim.pure fun _ _ => rfl
 | some e, _, _, _, _, D, O => sX e D O
theorem snd_Ifs : ∀ (ifs : List Expr) {g : G} {W : Wd} {ev : AEnv} {env : Env}, Gd g → EnvOk g W ev env → ∀ c ∈ ifs, ∀ W', Ext W W' → Sim g W' (PySem.isTrue c env (eval c env)) (denT g.c.P (phi g.c.P g.d) ev c (denE g.c.P (phi g.c.P g.d) ev c)) (fun _ b b' => b' = b)
 | [], _, _, _, _, _, _, c, hc, _, _ => zL hc
 | e :: r, _, _, _, _, D, O, c, hc, W', hx => by
  by_cases q : c = e
  ·rw [q]; exact snd_T e D (O.ext hx) (sX e D (O.ext hx))
  ·exact snd_Ifs r D O c ((List.mem_cons.mp hc).resolve_left q) W' hx
theorem snd_Comp : ∀ (gens : List Comprehension) {g : G} {W : Wd} {ev : AEnv} {env : Env} {elt : Expr} {sc : Scope} {p : Pos} {me : M V}, Gd g → EnvOk g W ev env →
  (∀ C fr ps W', Ext W W' → EnvOk (gc g C fr ps) W' (compEnv ev sc) (cE sc env C) → Sim (gc g C fr ps) W' (eval elt (cE sc env C)) me VR) →
  Sim g W (eval (.ListComp elt gens sc p) env) (denComp g.c.P (phi g.c.P g.d) ev sc me gens) VR
 | [], _, _, _, _, _, _, _, _, D, O, h => Sim.fail
 | ⟨t, it, ifs, a⟩ :: r, g, W, ev, env, elt, sc, p, me, D, O, h => by
  refine Sim.ite fun hc => ?_
  rw [Bool.and_eq_true, Bool.and_eq_true, Bool.and_eq_true] at hc
  obtain ⟨⟨⟨h1, h2⟩, h4⟩, h5⟩ := hc
  obtain rfl : a = 0 := beq_iff_eq.mp h1
  obtain rfl := List.isEmpty_iff.mp h2
  by_cases hset : ∃ es k q, it = .Set es k q
  ·obtain ⟨es, k, q, rfl⟩ := hset
   exact Sim.never fun st => rfl
  ·exact E_comp D.C O (compOk_of h4) (folded_pure fun es k q e => hset ⟨es, k, q, e⟩) (sX it D O) (fun C fr ps W' hx O' => sim_tests ifs (snd_Ifs ifs (g := gc g C fr ps) D.gc O')) h
end
end
section
section
variable {g : G} {W : Wd} {ev : AEnv} {env : Env}
theorem interactive_no (O : EnvOk g W ev env) : interactive env = false := by unfold interactive; rw [O.kind]; rfl
theorem swaps_none {e : Expr} {l : Nat} (h : (!isComp e) = true) (t : Option Expr) : swapsWith e t l env = pure false := by
 cases e <;> first | rfl | nomatch h
theorem S_expr (O : EnvOk g W ev env) {e : Expr} {p : Pos} {m : M V} (h : Sim g W (eval e env) m VR) : Sim g W (exec (.Expr e p) env) (if (!isComp e) = true then m >>= fun _ => pure .next else failM) FlowRel :=
 Sim.ite fun hc => SimT.via (T := fun A (Q : PySem.Flow → Shared → Prop) E s => wpAny (model g.c.prog g.c.w) A (eval e env) (fun _ => Q .next) E s) (fun A Q E s _ h => wpAny_Expr_any h (interactive_no O) (swaps_none hc _))
  (SimT.seq (T' := fun _ _ (Q : PySem.Flow → Shared → Prop) _ s => Q .next s) (R' := FlowRel) h.toT fun W₁ v u hx hv => SimT.ret (b := Flow.next) fun W' _ => rfl)
theorem S_return {e : Expr} {p : Pos} {m : M V} (h : Sim g W (eval e env) m VR) : Sim g W (exec (.Return (some e) p) env) (m >>= fun v => pure (.ret v)) FlowRel :=
 SimT.via (T := fun A (Q : PySem.Flow → Shared → Prop) E s => wpAny (model g.c.prog g.c.w) A (eval e env) (fun v => Q (.ret v)) E s) (fun A Q E s _ h => wpAny_Return_some h)
  (SimT.seq (T' := fun u _ (Q : PySem.Flow → Shared → Prop) _ s => Q (.ret u) s) (R' := FlowRel) h.toT fun W₁ v u hx hv => SimT.ret (b := Flow.ret v) fun W' hx' => ⟨u, rfl, hv.ext hx'⟩)
theorem S_if {t : Expr} {b o : List Stmt} {p : Pos} {mt : M Bool} {mb mo : M Flow} (ht : Sim g W (PySem.isTrue t env (eval t env)) mt (fun _ b b' => b' = b)) (hb : ∀ W', Ext W W' → Sim g W' (execs b env) mb FlowRel) (ho : ∀ W', Ext W W' → Sim g W' (execs o env) mo FlowRel) :
  Sim g W (exec (.If t b o p) env) (mt >>= fun c => if c = true then mb else mo) FlowRel := by
 rw [arm_exec_If]
 refine Sim.standAt (ht.bind fun W₁ c c' hx hc => ?_)
 subst hc
 cases c' with
 | true => exact hb W₁ hx
 | false => exact ho W₁ hx
theorem sim_aug {op : Operator} {x y : Int} {t t' : Tok} : Sim g W (inplaceOp op (.int x t) (.int y t')) (augI op x y) VR := by
 intro A W₁ mm st s Q E hA hx hS hP
 cases op with
 | Add => exact iadd_int (hP W₁ mm _ _ (Ext.refl _) (hS.toks _) Same.toks ⟨_, rfl⟩)
 | Sub => exact isub_int (hP W₁ mm _ _ (Ext.refl _) (hS.toks _) Same.toks ⟨_, rfl⟩)
 | _ => exact hP.elim
theorem S_aug (O : EnvOk g W ev env) {t : Expr} {p : Pos} {op : Operator} {e : Expr} (h : ∀ W', Ext W W' → Sim g W' (eval e env) (denE g.c.P (phi g.c.P g.d) ev e) VR) : Sim g W (exec (.AugAssign t op e p) env) (augM g.c.P (phi g.c.P g.d) ev t op e) FlowRel := by
 unfold augM
 cases hn : nameE t with
 | none => exact Sim.fail
 | some x =>
  obtain ⟨np, rfl⟩ := nameE_some hn
  rw [arm_exec_AugAssign]
  refine Sim.standAt ((sim_loadName O).bind fun W₁ a u hx ha => (Sim.holding (h W₁ hx)).bind fun W₂ b z hx₂ hb => Sim.standAt ?_)
  intro A W₃ mm st s Q E hA hx₃ hS hP
  replace hP := Post.get hP; obtain ⟨⟨i, j⟩, hij, hP⟩ := hP
  obtain ⟨rfl, rfl⟩ := intPair_some hij
  obtain ⟨t1, rfl⟩ := ha
  obtain ⟨t2, rfl⟩ := hb
  exact ((Sim.operate (sim_aug (W := W₃))).bind fun W₄ c y hx₄ hc => Sim.standAt ((sim_bindName (O.ext (((hx.trans hx₂).trans hx₃).trans hx₄)) hc).bind fun W₅ _ _ _ _ => (Sim.pure fun _ _ => rfl : Sim g W₅ (pure PySem.Flow.next) (pure Flow.next) FlowRel))) A W₃ mm st s Q E hA (Ext.refl _) hS hP
theorem S_assert (O : EnvOk g W ev env) {t : Expr} {p : Pos} (ht : Sim g W (PySem.isTrue t env (eval t env)) (denT g.c.P (phi g.c.P g.d) ev t (denE g.c.P (phi g.c.P g.d) ev t)) (fun _ b b' => b' = b)) : Sim g W (exec (.Assert t none p) env) (assertM g.c.P (phi g.c.P g.d) ev t) FlowRel := by
 intro A W₁ mm st s Q E hA hx hS hP
 replace hP := Post.itn hP; obtain ⟨hhd, hP⟩ := hP
 refine wpAny_Assert_new (hd_none hA (by rw [← O.hd]; simpa using hhd)) (ht A W₁ mm st s _ _ hA hx hS (hP.bind fun b st' W' mm' s' b' _ hS' _ hb hP' => ?_))
 obtain rfl : b' = b := hb
 cases b' with
 | true => exact hP' W' mm' s' _ (Ext.refl _) hS' (Same.refl _) rfl
 | false =>
  intro h' e hn
  obtain ⟨hS₂, hT⟩ := thrown_new (x := .assertion) (tk := s'.toks) hS' (clsIs_of (by decide)) hn
  exact hP' W' mm' _ _ (Ext.refl _) hS₂ Same.heap hT
theorem oneStr_some {args : List Expr} (h : oneStr args = true) : ∃ x k q, args = [.Constant (.str x) k q] := by
 match args, h with
 | [], h => exact zF h
 | _ :: _ :: _, h => exact zF h
 | [a], h =>
  cases a <;> first | exact zF h | skip
  rename_i c k q
  cases c <;> first | exact zF h | exact ⟨_, _, _, rfl⟩
theorem raiseOf_some {e : Expr} {f : Str} (h : raiseOf e = some f) : ∃ np x k q cp, e = .Call (.Name f np) [.Constant (.str x) k q] [] cp := by
 cases e <;> first | exact zN h | skip
 ·rename_i f args kws cp
  have h : (if (oneStr args && kws.isEmpty) = true then nameE f else none) = some _ := h
  by_cases hc : (oneStr args && kws.isEmpty) = true
  ·rw [if_pos hc] at h
   rw [Bool.and_eq_true] at hc
   obtain ⟨np, rfl⟩ := nameE_some h
   obtain ⟨x, k, q, rfl⟩ := oneStr_some hc.1
   obtain rfl := List.isEmpty_iff.mp hc.2
   exact ⟨np, x, k, q, cp, rfl⟩
  ·rw [if_neg hc] at h; exact zN h
theorem S_raise (D : Gd g) (O : EnvOk g W ev env) {e c : Option Expr} {p : Pos} : Sim g W (exec (.Raise e c p) env) (raiseM ev e c) FlowRel := by
 unfold raiseM
 cases he : e.bind raiseOf with
 | none => exact Sim.fail
 | some f =>
  refine Sim.ite fun hc => ?_
  obtain ⟨h1, rfl, h3, h4⟩ := hc
  obtain rfl := Option.isNone_iff_eq_none.mp h4
  obtain ⟨e, rfl, he⟩ := Option.bind_eq_some_iff.mp he
  obtain ⟨np, x, k, q, cp, rfl⟩ := raiseOf_some he
  intro A W₁ mm st s Q E hA hx hS hP
  obtain ⟨mg, hmg, C, Bn, newE, inN, bmN, B, nid, ini, bmB, hC, Fn, hBn, FB, Ow⟩ := D.C.weight
  obtain ⟨tl, N, nm, q', bs, hdct, sn, sub, ab, col, dd, k0, k1, k2, k3, k5, mN, hCo, hN, hni, T⟩ := (Ow.keeps fun b o e => hS.inv.stays b o e).obj
  refine wpAny_Raise_call_subU (C := C) (nm := nm) (q := q') (N := N) (bs := bs) (bm := tl) (hdct := hdct) (sn := sn) (sub := sub) (ab := ab) (col := col) (dd := dd) (k0 := k0) (k1 := k1) (k2 := k2) (k3 := k3) (k5 := k5)
   Fn hBn FB (mN := mN) (T.hasType FB.hasBase) (hd_none hA (O.hd ▸ h3)) rfl hni ?_
  refine Name_function_global O.kind (glob_kind O h1) (loadGlobal_global (mg := mg) ?_ (mg_of D.C.X hmg hC) ⟨rfl, ?_⟩) (by decide)
  ·rw [O.globals]; exact hmg.keeps hS.inv.stays
  ·refine Calls.evalArgs_plain (Calls.spliced_cons (Constant_str (k := k) (pos := q) (Calls.spliced_nil ⟨rfl, by rw [sizeLine_eq]; show 1 ≤ _; decide, hCo, hN, T, ?_⟩)))
   intro h' e hm
   obtain ⟨t, h4, h5, h6⟩ := hm.there
   obtain ⟨u1, u2⟩ := hS.inv.unlab_none hm.new
   exact hP W₁ mm _ _ (Ext.refl _) ⟨hS.inv.grow hm.keeps, hS.next, hS.loc⟩ Same.mk' ⟨e, _, _, rfl, u1, u2, h4, by unfold clsIs; rw [if_pos rfl]; exact ⟨C, rfl, hC⟩, rfl, rfl, .inl rfl⟩
theorem EnvOk.fr (O : EnvOk g W ev env) {fr : Frs} : EnvOk { g with fr := fr } W ev env := ⟨O.kind, O.names, O.globals, O.builtins, O.locals, O.cells, O.hd⟩
theorem sim_released {α : Type} {t : Sem α} {f : α → Sem Unit} {m : M Unit} {R : Wd → Unit → α → Prop} (h : Sim g W t m R) (hf : ∀ A Q E s a, Q () s → wpAny (model g.c.prog g.c.w) A (f a) Q E s) : Sim g W (t >>= f) m (fun _ _ _ => True) :=
 Sim.tailT h fun W₂ b _ _ _ => fun A W₃ mm st s Q E hA hx hS hP => hf _ _ _ _ _ (hP W₃ mm s _ (Ext.refl _) hS (Same.refl _) trivial)
theorem sim_assign (D : Gd g) (O : EnvOk g W ev env) {t e : Expr} {v : V} {u : Value} (hv : VRel W v u) (hp : ¬ (isTup e && isTup t) = true) : Sim g W (swappedStores [t] e env >>= fun sw => assignStores env u sw ((assignEach [t] env).map (·.2))) (assignV g.c.P (phi g.c.P g.d) ev t v >>= fun _ => pure .next) FlowRel := by
 have key : swappedStores [t] e env = pure none → assignAll u ((assignEach [t] env).map (·.2)) = assign t env u → Sim g W (assign t env u) (assignV g.c.P (phi g.c.P g.d) ev t v) (fun _ _ _ => True) →
   Sim g W (swappedStores [t] e env >>= fun sw => assignStores env u sw ((assignEach [t] env).map (·.2))) (assignV g.c.P (phi g.c.P g.d) ev t v >>= fun _ => pure .next) FlowRel := fun h1 h2 h3 => by
  rw [h1, pure_bind]
  show Sim g W (assignAll u ((assignEach [t] env).map (·.2)) >>= fun _ => (pure PySem.Flow.next : Sem PySem.Flow)) _ _
  rw [h2]
  exact h3.bind fun W₂ _ _ _ _ => Sim.pure fun _ _ => rfl
 cases t with
 | Name x p => exact key rfl rfl (by rw [PySem.assign_Name]; exact Sim.standAt (sim_bindName O hv))
 | Tuple es k p => exact key (by cases e <;> first | rfl | exact absurd rfl hp) rfl (sim_target O hv)
 | Attribute o n p =>
  refine key rfl rfl ?_
  rw [arm_assign_Attribute]
  refine (Sim.holding (sX o D O)).bind fun W₁ ov z hx ho => Sim.standAt ?_
  rw [O.hd]
  exact sim_released (Sim.holding (sim_setAttr D.C D.F (Nat.le_trans D.k (by decide)) ho (hv.ext hx))) fun _ _ _ _ _ q => wpAny_release q
 | Subscript o i p =>
  refine key rfl rfl ?_
  rw [arm_assign_Subscript]
  refine (Sim.holding (sX o D O)).bind fun W₁ ov z hx ho => (Sim.holding (sX i D (O.ext hx))).bind fun W₂ iv y hx₂ hi => Sim.standAt ?_
  exact sim_released (Sim.holding (sim_setSub (ho.ext hx₂) hi ((hv.ext hx).ext hx₂))) fun _ _ _ _ _ q => wpAny_release q
 | _ => exact Sim.never fun st => rfl
theorem sim_swap (O : EnvOk g W ev env) {x y : Str} {v : V} {u : Value} (hv : VRel W v u) : Sim g W (unpackItems u 2 none >>= fun items => assignInOrder (([x, y] : List Str).reverse.map fun n => bindName env n) items.reverse) (swapV ev x y v) (fun _ _ _ => True) := by
 intro A W₁ mm st s Q E hA hx hS hP
 replace hP := Post.get hP; obtain ⟨i, hi, hP⟩ := hP
 obtain rfl := rO hi
 obtain ⟨hi, rfl⟩ := hv.ext hx
 replace hP := Post.get hP; obtain ⟨xs, ho, hP⟩ := hP
 replace hP := Post.get hP; obtain ⟨⟨a, b⟩, hab, hP⟩ := hP
 obtain rfl := two_some hab
 obtain ⟨vs, n, hat, hr⟩ := hS.inv.own i _ (tupAt_some ho)
 match vs, hr, hat with
 | [u, z], hr, hat =>
  refine wpAny_bind (unpackItems_tupleH (items := #[u, z]) (hdAt hA hS) ⟨_, hat, rfl, n, rfl⟩ fun h' hx' => ?_)
  have hS' : St g W₁ mm st { s with heap := h' } := ⟨hS.inv.grow fun a o e => hx' a o (Nat.ne_of_lt (Heap.lt_size e)) e, hS.next, hS.loc⟩
  have hsim : Sim g W₁ (PySem.holding [u] (bindName env y z) >>= fun _ => PySem.holding [] (bindName env x u) >>= fun _ => pure ()) (storeV ev y b >>= fun _ => storeV ev x a) (fun _ _ _ => True) :=
   Sim.bind (R := fun _ _ _ => True) (Sim.holding (sim_bindName (O.ext hx) hr.2.1)) fun W₂ _ _ hx₂ _ => Sim.tailT (R := fun _ _ _ => True) (Sim.holding (sim_bindName (O.ext (hx.trans hx₂)) (hr.1.ext hx₂))) fun _ _ _ _ _ => Sim.pure fun _ _ => trivial
  exact hsim A W₁ mm st _ _ _ hA (Ext.refl _) hS' (hP.move (Ext.refl _) Same.heap)
 | [], hr, _ => exact hr.elim
 | [_], hr, _ => exact hr.2.elim
 | _ :: _ :: _ :: _, hr, _ => exact hr.2.2.elim
theorem starred_any (es : List Expr) : es.any starred = es.any fun | .Starred .. => true | _ => false := by
 refine congrArg es.any (funext fun e => ?_)
 cases e <;> rfl
theorem swapped_pair (O : EnvOk g W ev env) {x y : Str} {p q : Pos} {k : Nat} {r : Pos} {v : Expr} (h : swapOk ev x y (.Tuple [.Name x p, .Name y q] k r) v = true) : swappedStores [.Tuple [.Name x p, .Name y q] k r] v env = pure (some [x, y]) ∧ isComp v = false := by
 unfold swapOk at h
 simp only [Bool.and_eq_true, bne_iff_ne, beq_iff_eq] at h
 obtain ⟨⟨⟨⟨h1, h2⟩, h3⟩, h4⟩, h5⟩ := h
 cases v with
 | Tuple es k' r' =>
  refine ⟨?_, rfl⟩
  unfold twoE at h5
  by_cases hl : es.length = 2
  ·dsimp only at h5
   rw [if_pos hl] at h5
   simp only [Bool.and_eq_true, Bool.not_eq_true'] at h5
   obtain ⟨⟨h5, h6⟩, h7⟩ := h5
   rw [starred_any] at h5
   have hline : p.line = q.line := beq_iff_eq.mp h1
   have hb : env.blockKind = .function := by unfold Env.blockKind; rw [O.kind]; rfl
   have hx : env.kindOf x = some .local := (kindOf_eq O x).trans h3
   have hy : env.kindOf y = some .local := (kindOf_eq O y).trans h4
   unfold swappedStores
   have hd : (([x, y] : List Str).eraseDups).length = 2 := by
    have : (y == x) = false := beq_eq_false_iff_ne.mpr (Ne.symm h2)
    simp [List.eraseDups_cons, this]
   simp only [hl, hb, h5, h6, h7, List.filterMap_cons, List.filterMap_nil, hx, hy, hline, List.length_cons, List.length_nil, List.head?_cons]
   simp [hd, Expr.pos, hline]
   exact fun e he hs => absurd hs (List.any_eq_false.mp h5 e he)
  ·dsimp only at h5
   rw [if_neg hl] at h5; exact zF h5
 | _ => exact zF h5
theorem S_pair (D : Gd g) (O : EnvOk g W ev env) {t v : Expr} {p : Pos} : Sim g W (exec (.Assign [t] v p) env) (pairAsg g.c.P (phi g.c.P g.d) ev t v) FlowRel := by
 unfold pairAsg
 cases ht : tup2 t with
 | none => exact Sim.fail
 | some xy =>
  obtain ⟨x, y⟩ := xy
  refine Sim.ite fun hc => ?_
  obtain ⟨px, py, k, r, rfl⟩ := tup2_some ht
  obtain ⟨h1, h2⟩ := swapped_pair O hc
  rw [arm_exec_Assign]
  refine Sim.standAt ?_
  rw [show swapsWithSole [.Tuple [.Name x px, .Name y py] k r] v p.line env = pure false from (show swapsWith v (some (.Tuple [.Name x px, .Name y py] k r)) p.line env = pure false from swaps_none (by rw [h2]; rfl) _), pure_bind, if_neg Bool.false_ne_true]
  refine (sX v D O).bind fun W₁ w u hx hw => ?_
  rw [h1, pure_bind]
  show Sim g W₁ (PySem.rule "assign.swapped-stores" >>= fun _ => unpackItems u 2 none >>= fun items => assignInOrder (([x, y] : List Str).reverse.map fun n => bindName env n) items.reverse >>= fun _ => (pure PySem.Flow.next : Sem PySem.Flow)) _ _
  refine Sim.rule ?_
  rw [← bind_assoc]
  exact (sim_swap (O.ext hx) hw).bind fun W₂ _ _ _ _ => Sim.pure fun _ _ => rfl
theorem compStore (D : CxOk g.c) (O : EnvOk g W ev env) {elt it t : Expr} {ifs : List Expr} {sc : Scope} {pos p0 : Pos} (K : CompOk ev sc) {mi : M V} {mt : M Bool} {me : M V} {x : Str} {p : Pos}
  (hset : ∀ x, foldedSetIterable it env x = pure x) (hi : Sim g W (eval it env) mi VR)
  (ht : ∀ C fr ps W', Ext W W' → EnvOk (gc g C fr ps) W' (compEnv ev sc) (cE sc env C) → Sim (gc g C fr ps) W' (ifsT ifs (cE sc env C)) mt (fun _ b b' => b' = b))
  (he : ∀ C fr ps W', Ext W W' → EnvOk (gc g C fr ps) W' (compEnv ev sc) (cE sc env C) → Sim (gc g C fr ps) W' (eval elt (cE sc env C)) me VR) :
  Sim g W (comprehension (.ListComp elt [⟨t, it, ifs, 0⟩] sc pos) sc env p0 (newList []) false (eval it env) (some fun v => assignAll v ((assignEach [.Name x p] env).map (·.2)))) (mi >>= fun y => compRest (compEnv ev sc) t mt me y >>= fun v => storeV ev x v) (fun _ _ _ => True) := by
 refine sim_compUse D O K hset hi ht he ?_
 intro A W₁ C m' mm s Dd r st₁ Q E hA hx hS hD hP
 show wpAny _ A (assign (.Name x p) env (.ref Dd)) _ E s
 rw [PySem.assign_Name]
 have hs : Sim { g with fr := (C, m') :: g.fr } W₁ (PySem.standAt p >>= fun _ => bindName env x (.ref Dd)) (storeV ev x r) (fun _ _ _ => True) := Sim.standAt (sim_bindName (g := { g with fr := (C, m') :: g.fr }) ((O.ext hx).fr) hD)
 refine hs A W₁ mm st₁ s _ _ ⟨fun e he => ⟨(hA.fo e he).1, let ⟨L, a, b⟩ := (hA.fo e he).2; ⟨L, a, (List.mem_cons.mp b).elim (fun q => q ▸ .head _) (fun q => .tail _ (.tail _ q))⟩⟩, hA.frames, hA.hd, hA.k, hA.depth, hA.units⟩ (Ext.refl _) hS ?_
 revert hP
 cases q : storeV ev x r st₁ with
 | fail => exact id
 | exc y st₂ => exact (storeV_nox _ _ _ q).elim
 | ok b st₂ => exact fun hP W₂ mm₂ s₂ _ hx₂ hS₂ hs₂ _ => ⟨m', hS₂.inv.frs (C, m') (.tail _ (.head _)), fun h' hs' => hP (W₂.unl [C]) mm₂ _ _ (hx₂.trans (W₂.ext_unl [C])) (hS₂.dropComp hs') (hs₂.trans Same.heap) trivial⟩
theorem S_assignComp (D : Gd g) (O : EnvOk g W ev env) {elt : Expr} {gens : List Comprehension} {sc : Scope} {cp : Pos} {x : Str} {p : Pos} :
  Sim g W (evalThenUse (.ListComp elt gens sc cp) env (fun v => assignAll v ((assignEach [.Name x p] env).map (·.2))) >>= fun _ => (pure PySem.Flow.next : Sem PySem.Flow))
   (denComp g.c.P (phi g.c.P g.d) ev sc (denE g.c.P (phi g.c.P g.d) (compEnv ev sc) elt) gens >>= fun v => storeV ev x v >>= fun _ => pure .next) FlowRel := by
 match gens with
 | [] => exact Sim.never fun st => rfl
 | ⟨t, it, ifs, a⟩ :: r =>
  rw [show denComp g.c.P (phi g.c.P g.d) ev sc (denE g.c.P (phi g.c.P g.d) (compEnv ev sc) elt) (⟨t, it, ifs, a⟩ :: r) = (if ((a == 0) && r.isEmpty && compOk ev sc && !ev.hd) = true then denE g.c.P (phi g.c.P g.d) ev it >>= fun y => compRest (compEnv ev sc) t (denAll g.c.P (phi g.c.P g.d) (compEnv ev sc) ifs) (denE g.c.P (phi g.c.P g.d) (compEnv ev sc) elt) y else failM) from rfl]
  by_cases hc : ((a == 0) && r.isEmpty && compOk ev sc && !ev.hd) = true
  ·rw [if_pos hc]
   rw [Bool.and_eq_true, Bool.and_eq_true, Bool.and_eq_true] at hc
   obtain ⟨⟨⟨h1, h2⟩, h4⟩, h5⟩ := hc
   obtain rfl : a = 0 := beq_iff_eq.mp h1
   obtain rfl := List.isEmpty_iff.mp h2
   by_cases hset : ∃ es k q, it = .Set es k q
   ·obtain ⟨es, k, q, rfl⟩ := hset
    exact Sim.never fun st => rfl
   ·rw [show ∀ (mi : M V) (f : V → M V), ((mi >>= f) >>= fun v => storeV ev x v >>= fun _ => pure Flow.next) = ((mi >>= fun y => f y >>= fun v => storeV ev x v) >>= fun _ => (pure Flow.next : M Flow)) from fun mi f => (bind_assoc' _ _ _).trans ((congrArg (mi >>= ·) (funext fun y => (bind_assoc' _ _ _).symm)).trans (bind_assoc' _ _ _).symm)]
    rw [show evalThenUse (.ListComp elt [⟨t, it, ifs, 0⟩] sc cp) env (fun v => assignAll v ((assignEach [.Name x p] env).map (·.2))) = (comprehension (.ListComp elt [⟨t, it, ifs, 0⟩] sc cp) sc env (firstIterPos [⟨t, it, ifs, 0⟩] cp) (newList []) false (eval it env) (some fun v => assignAll v ((assignEach [.Name x p] env).map (·.2))) >>= fun _ => (pure PUnit.unit : Sem PUnit)) from by rw [arm_evalThenUse_ListComp]; rfl, bind_assoc]
    refine (compStore D.C O (compOk_of h4) (folded_pure fun es k q e => hset ⟨es, k, q, e⟩) (sX it D O) (fun C fr ps W' hx O' => sim_tests ifs (snd_Ifs ifs (g := gc g C fr ps) D.gc O')) fun C fr ps W' hx O' => sX elt (g := gc g C fr ps) D.gc O').bind fun W₁ _ _ _ _ => ?_
    rw [pure_bind]
    exact Sim.pure fun _ _ => rfl
  ·rw [if_neg hc]; exact Sim.never fun st => rfl
theorem swaps_bool (v : Expr) (t : Expr) (l : Nat) : ∃ b, swapsWith v (some t) l env = pure b ∧ (b = true → (∃ x p, t = .Name x p) ∧ isComp v = true) := by
 by_cases hc : (!isComp v) = true
 ·exact ⟨false, swaps_none hc _, fun q => zF q⟩
 ·have hc : isComp v = true := by
   rw [Bool.not_eq_true', Bool.not_eq_false] at hc; exact hc
  rw [hc]
  by_cases hn : ∃ x p, t = .Name x p
  ·obtain ⟨x, p, rfl⟩ := hn
   cases v <;> first | exact zF hc | exact ⟨_, rfl, fun _ => ⟨⟨x, p, rfl⟩, rfl⟩⟩
  ·refine ⟨false, ?_, fun q => zF q⟩
   cases v <;> first | exact zF hc | (cases t <;> first | rfl | exact absurd ⟨_, _, rfl⟩ hn)
theorem isComp_some {v : Expr} (h : ¬ (!isComp v) = true) : (∃ elt gens sc cp, v = .ListComp elt gens sc cp) ∨ ∀ st, denE g.c.P (phi g.c.P g.d) ev v st = .fail := by
 cases v <;> first | exact absurd rfl h | exact .inr fun _ => rfl | exact .inl ⟨_, _, _, _, rfl⟩
theorem S_assign (D : Gd g) (O : EnvOk g W ev env) {ts : List Expr} {v : Expr} {p : Pos} : Sim g W (exec (.Assign ts v p) env) (asgM g.c.P (phi g.c.P g.d) ev ts v) FlowRel := by
 match ts with
 | [] => exact Sim.fail
 | _ :: _ :: _ => exact Sim.fail
 | [t] =>
  show Sim g W _ (if (isTup v && isTup t) = true then pairAsg g.c.P (phi g.c.P g.d) ev t v else denE g.c.P (phi g.c.P g.d) ev v >>= fun x => assignV g.c.P (phi g.c.P g.d) ev t x >>= fun _ => pure .next) _
  by_cases hp : (isTup v && isTup t) = true
  ·rw [if_pos hp]; exact S_pair D O
  rw [if_neg hp, arm_exec_Assign]
  refine Sim.standAt ?_
  show Sim g W (swapsWith v (some t) p.line env >>= fun b => if b = true then (evalThenUse v env (fun v => assignAll v ((assignEach [t] env).map (·.2))) >>= fun _ => (pure PySem.Flow.next : Sem PySem.Flow)) else
   (eval v env >>= fun u => swappedStores [t] v env >>= fun sw => assignStores env u sw ((assignEach [t] env).map (·.2)))) _ _
  obtain ⟨b, hb, hbt⟩ := swaps_bool (env := env) v t p.line
  rw [hb, pure_bind]
  cases b with
  | false => exact (sX v D O).bind fun W₁ x u hx hv => sim_assign D (O.ext hx) hv hp
  | true =>
   obtain ⟨⟨x, q, rfl⟩, hc⟩ := hbt rfl
   rcases isComp_some (g := g) (ev := ev) (v := v) (by rw [hc]; decide) with ⟨elt, gens, sc, cp, rfl⟩ | hf
   ·exact S_assignComp D O
   ·refine Sim.never fun st => ?_
    rw [bR, hf]
end
end
section
section
variable {g : G} {W : Wd} {ev : AEnv} {env : Env}
theorem exec_For_plain {t it : Expr} {b : List Stmt} {p : Pos} (hset : ∀ x, foldedSetIterable it env x = pure x) :
  exec (.For t it b [] p) env = (standAt p >>= fun _ => eval it env >>= fun x => standAt it.pos >>= fun _ => PySem.holding [x] (pyIter x) >>= fun i => runOwn (.forLoop t i b [] env) env) := by
 rw [arm_exec_For]
 refine congrArg (standAt p >>= ·) (funext fun _ => congrArg (eval it env >>= ·) (funext fun x => ?_))
 rw [hset, pure_bind]
theorem callN_some {it : Expr} {f : Str} {args : List Expr} (h : callN it = some (f, args)) : ∃ np cp, it = .Call (.Name f np) args [] cp := by
 cases it <;> first | exact zN h | skip
 ·rename_i f' args' kws cp
  have h : (if kws.isEmpty = true then (nameE f').map fun n => (n, args') else none) = some _ := h
  by_cases hk : kws.isEmpty = true
  ·rw [if_pos hk] at h
   obtain rfl := List.isEmpty_iff.mp hk
   obtain ⟨n, hn, e⟩ := Option.map_eq_some_iff.mp h
   cases e
   obtain ⟨np, rfl⟩ := nameE_some hn
   exact ⟨np, _, rfl⟩
  ·rw [if_neg hk] at h; exact zN h
theorem boot_range : bootBuiltins "range" = some (.type "range") := by decide +kernel
theorem S_for (D : Gd g) (T : EnvTop g env) (O : EnvOk g W ev env) {t it : Expr} {b : List Stmt} {p : Pos} {mb : M Flow} (hb : ∀ ps W', Ext W W' → Sim (g.pin ps) W' (execs b env) mb FlowRel) :
  Sim g W (exec (.For t it b [] p) env) (denFor g.c.P (phi g.c.P g.d) ev t it mb) FlowRel := by
 have gen : Sim g W (exec (.For t it b [] p) env) (forM ev t (denE g.c.P (phi g.c.P g.d) ev it) mb) FlowRel := by
  by_cases hset : ∃ es k q, it = .Set es k q
  ·obtain ⟨es, k, q, rfl⟩ := hset
   exact Sim.never fun st => rfl
  ·rw [exec_For_plain (folded_pure fun es k q e => hset ⟨es, k, q, e⟩)]
   exact Sim.standAt ((sX it D O).bind fun W₁ v u hx hv => Sim.standAt (sim_forVal D.C T (O.ext hx) (fun ps W' hx' => hb ps W' (hx.trans hx')) hv))
 unfold denFor
 cases hc : callN it with
 | none => exact gen
 | some q =>
  obtain ⟨f, args⟩ := q
  dsimp only
  by_cases h : isGlobal ev f = true ∧ f = ("range" : Str)
  ·rw [if_pos h]
   refine Sim.ite fun hs => ?_
   obtain ⟨hg, rfl⟩ := h
   obtain ⟨np, cp, rfl⟩ := callN_some hc
   obtain ⟨h4, h5⟩ := noStars_of hs.1
   rw [exec_For_plain fun _ => rfl]
   refine Sim.standAt ?_
   have e0 : forRange ev t (denEs g.c.P (phi g.c.P g.d) ev args) mb = (pure () >>= fun _ => forRange ev t (denEs g.c.P (phi g.c.P g.d) ev args) mb : M Flow) := by funext st; rfl
   rw [e0]
   show Sim g W ((eval (.Name "range" np) env >>= fun fv => callWith cp fv [] (backTo cp (starEach args env)) (backToKw cp (keywordEach [] env))) >>= fun x' => standAt cp >>= fun _ => PySem.holding [x'] (pyIter x') >>= fun i => runOwn (.forLoop t i b [] env) env) _ _
   rw [bind_assoc]
   refine (sim_boot D.C O hg (D.C.frees "range" (by decide)) boot_range (by decide) (by decide)).bind fun W₀ _ fv hx0 hfv => ?_
   subst hfv
   intro A W₁ mm st s Q E hA hx hS hP
   refine wpAny_bind (sim_plainT (T := fun v A (Q : PySem.Flow → Shared → Prop) E s => wpAny (model g.c.prog g.c.w) A (standAt cp >>= fun _ => PySem.holding [v] (pyIter v) >>= fun i => runOwn (.forLoop t i b [] env) env) Q E s) D h5 (fun h _ => keeps_type h) (snd_Each args D (O.ext hx0)) (fun W₂ vs us hx₂ hv => ?_) A W₁ mm st s Q E hA hx hS hP)
   exact fun A W mm st s Q E hA hx hS hP => wpAny_mono (sim_rangeCall (by rw [← O.hd]; exact hs.2) T (O.ext (hx0.trans hx₂)) (fun ps W' hx' => hb ps W' ((hx0.trans hx₂).trans hx')) hv A W mm st s Q E hA hx hS hP) (fun v s' h => wpAny_bind (wpAny_standAt h)) fun _ _ x => x
  ·rw [if_neg h]; exact gen
noncomputable def gh (g : G) (ps : List (Addr × Obj)) : G := { g with hd := true, pins := ps ++ g.pins }
theorem EnvOk.gh (O : EnvOk g W ev env) {ps : List (Addr × Obj)} : EnvOk (gh g ps) W (withHd ev true) env := ⟨O.kind, O.names, O.globals, O.builtins, O.locals, O.cells, rfl⟩
theorem Gd.gh (D : Gd g) {ps : List (Addr × Obj)} : Gd (gh g ps) := ⟨D.C, D.F, D.k⟩
theorem EnvTop.gh (T : EnvTop g env) {ps : List (Addr × Obj)} : EnvTop (gh g ps) env := ⟨T.fo, T.top⟩
theorem St.ghDown {ps : List (Addr × Obj)} {mm : Str → Option Value} {st : S} {s : Shared} (h : St (Mine.gh g ps) W mm st s) : St g W mm st s := ⟨Inv.pinDown h.inv, h.next, h.loc⟩
theorem AOk.gh {A : Around} (hA : AOk g A) {a : Addr} {oe : Obj} {vs : Array Value} {h : Heap} {Is : List Addr} (hi : a ∈ Is) (h1 : h.get? a = some oe) (h2 : oe.data = .fields vs) (h3 : vs[2]? = some .none) : AOk (Mine.gh g (pinsAt Is h)) (A.mark (some (.ref a))) :=
 ⟨hA.fo, hA.frames, .inr ⟨rfl, a, oe, vs, rfl, List.mem_append_left _ (pinsAt_mem hi h1), h2, h3, (Array.getElem?_eq_some_iff.mp h3).1⟩, hA.k, hA.depth, hA.units⟩
theorem FlowRel.ext {W W' : Wd} (x : Ext W W') {f : Flow} {f' : PySem.Flow} (h : FlowRel W f f') : FlowRel W' f f' := by
 cases f with
 | ret v => obtain ⟨u, e, hv⟩ := h; exact ⟨u, e, hv.ext x⟩
 | _ => exact h
theorem Post.thru {g' : G} {s : Shared} {st : S} {m : M Flow} {r : S → R Flow} {Q Q' : PySem.Flow → Shared → Prop} {E E' : Value → Shared → Prop} (hP : Post g W s FlowRel Q E (thruM m r st))
  (h : ∀ st' W' mm' s', Ext W W' → St g' W' mm' st' s' → Same s s' → Post g W' s' FlowRel Q E (r st') → Q' .next s') : Post g' W s FlowRel Q' E' (m st) := by
 unfold thruM at hP
 revert hP
 cases m st with
 | fail => exact id
 | exc x st' => exact False.elim
 | ok f st' =>
  cases f with
  | next => exact fun hP W' mm' s' a hx hS hs hr => by obtain rfl : a = .next := hr; exact h st' W' mm' s' hx hS hs (Post.move (r := r st') hP hx hs)
  | _ => exact False.elim
theorem sim_passOn {A : Around} {m : Str → Option Value} {st : S} {s : Shared} {x : X} {e : Value} {E : Value → Shared → Prop} {Q : PySem.Flow → Shared → Prop} {n : String} (hS : St g W m st s) (ht : ThrownT g.c W s.heap x e)
  (h : ∀ s', St g W m st s' → Same s s' → ThrownT g.c W s'.heap x e → E e s') : wpAny (model g.c.prog g.c.w) A (PySem.passOn n e env) Q E s := by
 have ht' := ht
 obtain ⟨a, oe, vs, Tb, oT, ts, rfl, h1, h2, h3, h4, h5, h6, k1, _⟩ := ht
 unfold PySem.passOn
 refine wpAny_bind (wpAny_field h3 h5 k1 ?_)
 rw [if_neg (fun h => nomatch h)]
 exact wpAny_bind (sim_flight hS ht' fun s' hS' hs' ht'' => wpAny_throw (h s' hS' hs' ht''))
theorem S_fin (T : EnvTop g env) {b : List Stmt} {f₀ : Stmt} {fs : List Stmt} {p : Pos} {mb mf mf' : M Flow} (hb : Sim g W (execs b env) mb FlowRel) (h1 : ∀ W', Ext W W' → Sim g W' (execs (f₀ :: fs) env) mf FlowRel)
  (h2 : ∀ ps W', Ext W W' → Sim (gh g ps) W' (execs (f₀ :: fs) env) mf' FlowRel) : Sim g W (exec (.Try b [] [] (f₀ :: fs) p) env) (finM mb mf mf') FlowRel := by
 intro A W₁ mm st s Q E hA hx hS hP
 refine wpAny_Try_finally (hb A W₁ mm st s _ _ hA hx hS ?_)
 unfold finM at hP
 revert hP
 cases mb st with
 | fail => exact id
 | ok f st' =>
  intro hP W' mm' s' f' hx' hS' hs' hf
  have key : wpAny (model g.c.prog g.c.w) A (execs (f₀ :: fs) env) (fun g s' => match g with | .next => Q f' s' | g => Q g s') (notedBy (model g.c.prog g.c.w) A env (cameBackBy (model g.c.prog g.c.w) A env E)) s' :=
   h1 W' (hx.trans hx') A W' mm' st' s' _ _ hA (Ext.refl _) hS' ((Post.move (r := thruM mf (fun s'' => .ok f s'') st') hP hx' hs').thru fun st'' W'' mm'' s'' hx'' hS'' hs'' hP'' => hP'' W'' mm'' s'' f' (Ext.refl _) hS'' (Same.refl _) (hf.ext hx''))
  cases f with
  | next => obtain rfl : f' = .next := hf; exact wpAny_execs_nil key
  | brk => obtain rfl : f' = .brk := hf; exact key
  | cont => obtain rfl : f' = .cont := hf; exact key
  | ret v => obtain ⟨u, rfl, hv⟩ := hf; exact key
 | exc x st' =>
  intro hP W' mm' s' e hx' hS' hs' ht
  obtain ⟨rest, L, q1, q2⟩ := T.top
  refine sim_noteFrame hA.frames T.fo q1 q2 hS' ht fun s₂ hS₂ hs₂ ht₂ => ⟨?_, sim_noteFrame hA.frames T.fo q1 q2 hS₂ ht₂.thrown fun s₃ hS₃ hs₃ ht₃ => sim_flight hS₃ ht₃ fun s₁ hS₁ hs₁ ht₁ => ?_⟩
  ·obtain ⟨a, _, _, _, _, _, rfl, _⟩ := ht₂; exact ref_ne_byPass a
  have hss := ((hs'.trans hs₂).trans hs₃).trans hs₁
  obtain ⟨a, oe, vs, Tb, oT, ts, rfl, t1, t2, t3, t4, t5, t6, k1, k2, k3, k4, k5, k6, k7⟩ := ht₁
  have two : ∀ {P : Addr → Prop}, P a → P Tb → ∀ q ∈ [a, Tb], P q := fun ha hb q hq => by
   rcases List.mem_cons.mp hq with rfl | hq
   ·exact ha
   ·rw [smp hq]; exact hb
  have hS₂ := (hS₁.lbl (Is := [a, Tb]) (two t1 k3) (two t2 k4) (two ⟨_, t3⟩ ⟨_, k5⟩)).pinUp (Is := [a, Tb]) fun q hq => lbl_in hq
  have hx₂ := W'.ext_lbl [a, Tb]
  have hS₃ : St (gh g (pinsAt [a, Tb] s₁.heap)) (W'.lbl [a, Tb]) mm' st' s₁ := ⟨hS₂.inv, hS₂.next, hS₂.loc⟩
  refine h2 _ (W'.lbl [a, Tb]) ((hx.trans hx').trans hx₂) _ (W'.lbl [a, Tb]) mm' st' s₁ _ _ (hA.gh (.head _) t3 t5 t6) (Ext.refl _) hS₃ ((Post.move (r := thruM mf' (fun s'' => .exc x s'') st') hP (hx'.trans hx₂) hss).thru fun st₄ W₄ mm₄ s₄ hx₄ hS₄ hs₄ hP₄ => ?_)
  obtain ⟨hkeep, hl⟩ := St.pinned (g := g) (W := W₄) (m := mm₄) (st := st₄) (s := s₄) (Is := [a, Tb]) (h₀ := s₁.heap) ⟨hS₄.inv, hS₄.next, hS₄.loc⟩ (two ⟨_, t3⟩ ⟨_, k5⟩)
  have hne : ∀ p ∈ g.pins, p.1 ∉ [a, Tb] := fun p hp q => by
   have l := hS₁.inv.lpin p hp
   exact two (P := fun z => W'.lab z = some .pin → False) (fun q => by rw [t1] at q; exact zN q) (fun q => by rw [k3] at q; exact zN q) _ q l
  have hS₅ : St g (W₄.unl [a, Tb]) mm₄ st₄ s₄ := ⟨hS₄.ghDown.inv.dropPins hl hne fun _ _ _ e => e, hS₄.next, hS₄.loc.ext (W₄.ext_unl [a, Tb])⟩
  exact sim_passOn hS₅ ⟨a, oe, vs, Tb, oT, ts, rfl, if_pos (.head _), t2, (hkeep a (.head _)).trans t3, t4, t5, t6, k1, k2, if_pos (.tail _ (.head _)), k4, (hkeep Tb (.tail _ (.head _))).trans k5, k6, k7⟩
   fun s₆ hS₆ hs₆ ht₆ => hP₄ (W₄.unl [a, Tb]) mm₄ s₆ _ (W₄.ext_unl [a, Tb]) hS₆ hs₆ ht₆.thrown
end
end
section
theorem sub_xT : ∀ x y : X, x ≠ .weight → y ≠ .weight → isSubtype (.type (xT x)) (.type (xT y)) = pure (decide (x = y))
 | .index, .index, _, _ => by show isSubtype (.type "IndexError") (.type "IndexError") = pure true; rw [isSubtype_type]; kernel_rfl
 | .index, .value, _, _ => by show isSubtype (.type "IndexError") (.type "ValueError") = pure false; rw [isSubtype_type]; kernel_rfl
 | .index, .assertion, _, _ => by show isSubtype (.type "IndexError") (.type "AssertionError") = pure false; rw [isSubtype_type]; kernel_rfl
 | .value, .index, _, _ => by show isSubtype (.type "ValueError") (.type "IndexError") = pure false; rw [isSubtype_type]; kernel_rfl
 | .value, .value, _, _ => by show isSubtype (.type "ValueError") (.type "ValueError") = pure true; rw [isSubtype_type]; kernel_rfl
 | .value, .assertion, _, _ => by show isSubtype (.type "ValueError") (.type "AssertionError") = pure false; rw [isSubtype_type]; kernel_rfl
 | .assertion, .index, _, _ => by show isSubtype (.type "AssertionError") (.type "IndexError") = pure false; rw [isSubtype_type]; kernel_rfl
 | .assertion, .value, _, _ => by show isSubtype (.type "AssertionError") (.type "ValueError") = pure false; rw [isSubtype_type]; kernel_rfl
 | .assertion, .assertion, _, _ => by show isSubtype (.type "AssertionError") (.type "AssertionError") = pure true; rw [isSubtype_type]; kernel_rfl
 | .weight, _, h, _ => absurd rfl h
 | _, .weight, _, h => absurd rfl h
theorem isExc_xT : ∀ y : X, y ≠ .weight → isSubtype (.type (xT y)) (.type "BaseException") = pure true
 | .index, _ => PySem.F.isExc_IndexError
 | .value, _ => PySem.F.isExc_ValueError
 | .assertion, _ => PySem.F.isExc_AssertionError
 | .weight, h => absurd rfl h
theorem notTuple_xT : ∀ y : X, y ≠ .weight → isSubtype (.type ((Manifest.find? (xT y)).elim "type" fun x => x.metatype)) (.type "tuple") = pure false
 | .index, _ => PySem.F.notTuple_IndexError
 | .value, _ => PySem.F.notTuple_ValueError
 | .assertion, _ => PySem.F.notTuple_AssertionError
 | .weight, h => absurd rfl h
theorem cls_xT {c : Cx} {x : X} {v : Value} (hx : x ≠ .weight) (h : clsIs c x v) : v = .type (xT x) := by
 unfold clsIs at h; rwa [if_neg hx] at h
theorem excOf_some {n : Str} {y : X} (h : excOf n = some y) : (y = .weight ∧ n = ("BadWeightError" : Str)) ∨ (y ≠ .weight ∧ bootBuiltins n = some (.type (xT y)) ∧ n ≠ "__name__" ∧ (n == ("__debug__" : Str)) = false ∧ n ∈ (["len", "abs", "isinstance", "int", "sorted", "range", "IndexError", "ValueError", "AssertionError"] : List Str)) := by
 unfold excOf at h
 by_cases h1 : n = ("IndexError" : Str)
 ·subst h1; rw [if_pos rfl] at h; obtain rfl := sj h
  exact .inr ⟨nofun, PyProof.Rows.Boot.«IndexError», by decide, by decide, by decide⟩
 rw [if_neg h1] at h
 by_cases h2 : n = ("ValueError" : Str)
 ·subst h2; rw [if_pos rfl] at h; obtain rfl := sj h
  exact .inr ⟨nofun, PyProof.Rows.Boot.«ValueError», by decide, by decide, by decide⟩
 rw [if_neg h2] at h
 by_cases h3 : n = ("AssertionError" : Str)
 ·subst h3; rw [if_pos rfl] at h; obtain rfl := sj h
  exact .inr ⟨nofun, PyProof.Rows.Boot.«AssertionError», by decide, by decide, by decide⟩
 rw [if_neg h3] at h
 by_cases h4 : n = ("BadWeightError" : Str)
 ·subst h4; rw [if_pos rfl] at h; obtain rfl := sj h
  exact .inl ⟨rfl, rfl⟩
 rw [if_neg h4] at h; exact zN h
section
variable {g : G} {W : Wd} {ev : AEnv} {env : Env}
theorem H_clause (D : Gd g) (O : EnvOk g W ev env) {n : Str} {np pos : Pos} {b : Stmt} {bs : List Stmt} {rest : List ExceptHandler} {y : X} (hy : excOf n = some y) (hg : isGlobal ev n = true)
  {x : X} {e : Value} {A : Around} {W₁ : Wd} {mm : Str → Option Value} {st : S} {s : Shared} {Q : PySem.Flow → Shared → Prop} {E : Value → Shared → Prop} (hS : St g W₁ mm st s) (ht : ThrownT g.c W₁ s.heap x e)
  (hit : x = y → ∀ s', St g W₁ mm st s' → Same s s' → ThrownT g.c W₁ s'.heap x e → wpAny (model g.c.prog g.c.w) (A.mark (some e)) (execs (b :: bs) env) Q (notedBy (model g.c.prog g.c.w) (A.mark (some e)) env (cameBackBy (model g.c.prog g.c.w) A env E)) s')
  (miss : x ≠ y → (x ≠ .weight ∧ y ≠ .weight) ∧ wpAny (model g.c.prog g.c.w) A (handleBy e env rest) Q E s) :
  wpAny (model g.c.prog g.c.w) A (handleBy e env (.ExceptHandler (some (.Name n np)) none (b :: bs) pos :: rest)) Q E s := by
 have ht' := ht
 obtain ⟨a, oe, vs, Tb, oT, ts, rfl, h1, h2, h3, h4, h5, h6, k1, k2, k3, k4, k5, k6, k7⟩ := ht
 have suite : x = y → codeAny (model g.c.prog g.c.w) (A.mark (some (.ref a))) (.handlers (.ref a) [.ExceptHandler none none (b :: bs) pos] env) (fun r s₂ => match r with
   | .ok f => Q f s₂
   | .error x => cameBackBy (model g.c.prog g.c.w) A env E x s₂) s := fun hxy =>
  codeAny_handlers_suite (sim_flight hS ht' fun s' hS' hs' ht'' => hit hxy s' hS' hs' ht'')
 obtain ⟨mg, mb, hmg, hmb, hbt⟩ := D.C.g
 refine wpAny_handleBy_cons (codeAny_handlers_test ?_) (by intro q; contradiction)
 rcases excOf_some hy with ⟨rfl, rfl⟩ | ⟨hyw, hbn, hn1, hn2, hmem⟩
 ·obtain ⟨mg', hmg', C, Bn, newE, inN, bmN, B, nid, ini, bmB, hC, Fn, hBn, FB, Ow⟩ := D.C.weight
  obtain ⟨tl, N, nm, q', bs', hdct, sn, sub, ab, col, dd, kk0, kk1, kk2, kk3, kk5, mN, hCo, hN, hni, T⟩ := (Ow.keeps fun b o e => hS.inv.stays b o e).obj
  have hxw : x = .weight := by
   cases q : decide (x = X.weight) with
   | true => exact of_decide_eq_true q
   | false => exact absurd rfl (miss (of_decide_eq_false q)).1.2
  subst hxw
  obtain ⟨C', hcl, hC'⟩ : ∃ a, oe.cls = .ref a ∧ nsIn g.c.K mainGlobals "BadWeightError" = some (some (.ref a)) := by unfold clsIs at h4; rwa [if_pos rfl] at h4
  have hCC : C' = C := by rw [hC] at hC'; cases hC'; rfl
  subst hCC
  refine Name_function_global O.kind (glob_kind O hg) (loadGlobal_global (mg := mg') ?_ (mg_of D.C.X hmg' hC) ?_) (by decide)
  ·rw [O.globals]; exact hmg'.keeps hS.inv.stays
  ·obtain ⟨hh, gg, dd', tt, os⟩ := s
   exact wpAny_excMatches_sub_self hCo h3 hcl (T.hasType FB.hasBase) (suite rfl)
 ·have hfree := D.C.frees n hmem
  have hxw : x ≠ .weight := fun q => by
   by_cases hxy : x = y
   ·exact hyw (hxy ▸ q)
   ·exact (miss hxy).1.1 q
  refine Name_function_global O.kind (glob_kind O hg) (loadGlobal_builtin (mg := mg) (mb := mb) ?_ (mg_none_of D.C.X hmg hfree) ?_ ((hbt n hn1).trans hbn) ?_) hn2
  ·rw [O.globals]; exact hmg.keeps hS.inv.stays
  ·rw [O.builtins]; exact hmb.keeps hS.inv.stays
  ·refine wpAny_excMatches_type (X := xT x) (b := decide (x = y)) ⟨oe, h3, cls_xT hxw h4⟩ (isExc_xT y hyw) (notTuple_xT y hyw) (sub_xT x y hxw hyw) ?_
   by_cases hxy : x = y
   ·rw [decide_eq_true hxy]; exact suite hxy
   ·rw [decide_eq_false hxy]; exact (miss hxy).2
noncomputable def caught (h : Option (M Flow)) (x : X) : M Flow := match h with
 | some k => k
 | none => fun st => .exc x st
noncomputable def HandlersOk (g : G) (W : Wd) (ev : AEnv) (env : Env) (hs : List ExceptHandler) : Prop :=
 ∀ (x : X) (e : Value) (A : Around) (W₁ : Wd) (mm : Str → Option Value) (st : S) (s : Shared) (Q : PySem.Flow → Shared → Prop) (E : Value → Shared → Prop), AOk g A → Ext W W₁ → St g W₁ mm st s → ThrownT g.c W₁ s.heap x e →
  Post g W₁ s FlowRel Q E (caught (denHs g.c.P (phi g.c.P g.d) ev hs x) x st) → wpAny (model g.c.prog g.c.w) A (handleBy e env hs) Q E s
theorem hs_nil : HandlersOk g W ev env [] := fun x e A W₁ mm st s Q E hA hx hS ht hP =>
 wpAny_handleBy_nil (sim_passOn hS ht fun s' hS' hs' ht' => hP W₁ mm s' e (Ext.refl _) hS' hs' ht'.thrown)
theorem handles_some {t : Option Expr} {y : X} (h : handles ev t = some y) : ∃ n np, t = some (.Name n np) ∧ isGlobal ev n = true ∧ excOf n = some y := by
 unfold handles at h
 cases q : t.bind nameE with
 | none => rw [q] at h; exact zN h
 | some n =>
  rw [q] at h
  by_cases hg : isGlobal ev n = true
  ·obtain ⟨e, rfl, he⟩ := Option.bind_eq_some_iff.mp q
   obtain ⟨np, rfl⟩ := nameE_some he
   exact ⟨n, np, rfl, hg, (if_pos hg).symm.trans h⟩
  ·exact zN ((if_neg hg).symm.trans h)
theorem hs_cons (D : Gd g) (T : EnvTop g env) (O : EnvOk g W ev env) {t : Option Expr} {n : Option Str} {pos : Pos} {b : List Stmt} {rest : List ExceptHandler}
  (hb : ∀ ps W', Ext W W' → Sim (gh g ps) W' (execs b env) (denSs g.c.P (phi g.c.P g.d) (withHd ev true) b) FlowRel) (hr : HandlersOk g W ev env rest) : HandlersOk g W ev env (.ExceptHandler t n b pos :: rest) := by
 intro x e A W₁ mm st s Q E hA hx hS ht hP₀
 have hP : Post g W₁ s FlowRel Q E (caught (clauseM (handles ev t) (n.isNone && !b.isEmpty) x (denSs g.c.P (phi g.c.P g.d) (withHd ev true) b) (denHs g.c.P (phi g.c.P g.d) ev rest x)) x st) := hP₀
 clear hP₀
 unfold clauseM at hP
 cases hy : handles ev t with
 | none => rw [hy] at hP; exact hP.elim
 | some y =>
  rw [hy] at hP
  dsimp only at hP
  by_cases hok : (n.isNone && !b.isEmpty) = true
  case neg => rw [if_neg hok] at hP; exact hP.elim
  rw [if_pos hok] at hP
  obtain ⟨c1, c2⟩ := Bool.and_eq_true_iff.mp hok
  obtain rfl := Option.isNone_iff_eq_none.mp c1
  obtain ⟨nm, np, rfl, hg, hex⟩ := handles_some hy
  cases b with
  | nil => nomatch c2
  | cons b0 bs =>
   refine H_clause D (O.ext hx) hex hg hS ht ?_ ?_
   ·intro hxy s₁ hS₁ hs₁ ht₁
    rw [if_pos hxy] at hP
    obtain ⟨a, oe, vs, Tb, oT, ts, rfl, t1, t2, t3, t4, t5, t6, _⟩ := ht₁
    have one : ∀ {P : Addr → Prop}, P a → ∀ q ∈ [a], P q := fun h q hq => by rw [smp hq]; exact h
    have hS₂ := (hS₁.lbl (Is := [a]) (one t1) (one t2) (one ⟨_, t3⟩)).pinUp (Is := [a]) fun q hq => lbl_in hq
    have hx₂ := W₁.ext_lbl [a]
    have hS₃ : St (gh g (pinsAt [a] s₁.heap)) (W₁.lbl [a]) mm st s₁ := ⟨hS₂.inv, hS₂.next, hS₂.loc⟩
    have hAh := hA.gh (Is := [a]) (.head _) t3 t5 t6
    refine hb _ (W₁.lbl [a]) (hx.trans hx₂) _ (W₁.lbl [a]) mm st s₁ _ _ hAh (Ext.refl _) hS₃ ?_
    have hP := Post.move (r := denSs g.c.P (phi g.c.P g.d) (withHd ev true) (b0 :: bs) st) hP hx₂ hs₁
    revert hP
    cases denSs g.c.P (phi g.c.P g.d) (withHd ev true) (b0 :: bs) st with
    | fail => exact id
    | ok f st₄ => exact fun hP W₄ mm₄ s₄ f' hx₄ hS₄ hs₄ hf => hP W₄ mm₄ s₄ f' hx₄ hS₄.ghDown hs₄ hf
    | exc y st₄ => exact fun hP W₄ mm₄ s₄ e' hx₄ hS₄ hs₄ ht₄ => T.gh.noted hAh hS₄ ht₄ fun s₅ hS₅ hs₅ ht₅ => sim_cameBack (g := gh g (pinsAt [a] s₁.heap)) hS₅ ht₅ fun s₆ hS₆ hs₆ ht₆ => hP W₄ mm₄ s₆ e' hx₄ hS₆.ghDown ((hs₄.trans hs₅).trans hs₆) ht₆.thrown
   ·intro hxy
    rw [if_neg hxy] at hP
    by_cases hw : x = .weight ∨ y = .weight
    ·rw [if_pos hw] at hP; exact hP.elim
    ·rw [if_neg hw] at hP
     rw [not_or] at hw
     exact ⟨hw, hr x e A W₁ mm st s Q E hA hx hS ht hP⟩
theorem S_try (T : EnvTop g env) {b : List Stmt} {h : ExceptHandler} {hs : List ExceptHandler} {p : Pos} {mb : M Flow} (hb : Sim g W (execs b env) mb FlowRel) (hH : HandlersOk g W ev env (h :: hs)) :
  Sim g W (exec (.Try b (h :: hs) [] [] p) env) (tryM mb (denHs g.c.P (phi g.c.P g.d) ev (h :: hs))) FlowRel := by
 intro A W₁ mm st s Q E hA hx hS hP
 refine wpAny_Try_except (hb A W₁ mm st s _ _ hA hx hS ?_)
 unfold tryM at hP
 revert hP
 cases mb st with
 | fail => exact id
 | ok f st' =>
  intro hP W' mm' s' f' hx' hS' hs' hf
  have := hP W' mm' s' f' hx' hS' hs' hf
  cases f with
  | next => obtain rfl : f' = .next := hf; exact wpAny_execs_nil this
  | brk => obtain rfl : f' = .brk := hf; exact this
  | cont => obtain rfl : f' = .cont := hf; exact this
  | ret v => obtain ⟨u, rfl, hv⟩ := hf; exact this
 | exc x st' =>
  intro hP W' mm' s' e hx' hS' hs' ht
  obtain ⟨rest, L, q1, q2⟩ := T.top
  refine sim_noteFrame hA.frames T.fo q1 q2 hS' ht fun s₂ hS₂ hs₂ ht₂ => sim_flight hS₂ ht₂ fun s₃ hS₃ hs₃ ht₃ => ?_
  refine hH x e A W' mm' st' s₃ Q E hA (hx.trans hx') hS₃ ht₃ (Post.move (r := caught (denHs g.c.P (phi g.c.P g.d) ev (h :: hs) x) x st') ?_ hx' ((hs'.trans hs₂).trans hs₃))
  revert hP
  show Post g W₁ s FlowRel Q E (match denHs g.c.P (phi g.c.P g.d) ev (h :: hs) x with | some k => k st' | none => .exc x st') → _
  cases denHs g.c.P (phi g.c.P g.d) ev (h :: hs) x <;> exact id
end
mutual
theorem snd_S : ∀ (s : Stmt) {g : G} {W : Wd} {ev : AEnv} {env : Env}, Gd g → EnvTop g env → EnvOk g W ev env → Sim g W (exec s env) (denS g.c.P (phi g.c.P g.d) ev s) FlowRel
 | .Expr e p, _, _, _, _, D, T, O => S_expr O (sX e D O)
 | .Return e p, _, _, _, _, D, T, O => match e with
  | none => Sim.fail
  | some e => S_return (sX e D O)
 | .Assign ts v p, _, _, _, _, D, T, O => S_assign D O
 | .If t b o p, _, _, _, _, D, T, O => S_if (snd_T t D O (sX t D O)) (fun W' hx => snd_Ss b D T (O.ext hx)) (fun W' hx => snd_Ss o D T (O.ext hx))
 | .While t b o p, _, _, _, _, D, T, O => Sim.ite fun h => by
  obtain rfl := List.isEmpty_iff.mp h
  exact sim_while T (snd_T t D O (sX t D O)) (snd_Ss b D T O)
 | .For t it b o p, g, W, ev, env, D, T, O => Sim.ite fun h => by
  obtain rfl := List.isEmpty_iff.mp h
  exact S_for D T O fun ps W' hx => snd_Ss b (D.pin (ps := ps)) T.pin (O.ext hx).pin
 | .Raise e c p, _, _, _, _, D, T, O => S_raise D O
 | .Continue p, _, _, _, _, D, T, O => Sim.standAt (Sim.pure fun _ _ => rfl)
 | .AugAssign t op e p, _, _, _, _, D, T, O => S_aug O fun W' hx => sX e D (O.ext hx)
 | .Assert t m p, _, _, _, _, D, T, O => Sim.ite fun h => by
  obtain rfl := Option.isNone_iff_eq_none.mp h
  exact S_assert O (snd_T t D O (sX t D O))
 | .Try b hs o f p, g, W, ev, env, D, T, O => Sim.ite fun h => by
  obtain ⟨h1, h2⟩ := Bool.and_eq_true_iff.mp h
  obtain rfl := List.isEmpty_iff.mp h1
  cases f with
  | nil =>
   refine Sim.ite fun h3 => ?_
   cases hs with
   | nil => nomatch h3
   | cons c r => exact S_try T (snd_Ss b D T O) (snd_Hs (c :: r) D T O)
  | cons f0 fs =>
   refine Sim.ite fun h3 => ?_
   obtain rfl := List.isEmpty_iff.mp h3
   exact S_fin T (snd_Ss b D T O) (fun W' hx => snd_Ss (f0 :: fs) D T (O.ext hx)) fun ps W' hx => snd_Ss (f0 :: fs) (g := gh g ps) D.gh T.gh (O.ext hx).gh
 | .Pass .., _, _, _, _, _, _, _ => Sim.fail
 | .FunctionDef .., _, _, _, _, _, _, _ => Sim.fail
 | .AsyncFunctionDef .., _, _, _, _, _, _, _ => Sim.fail
 | .ClassDef .., _, _, _, _, _, _, _ => Sim.fail
 | .Delete .., _, _, _, _, _, _, _ => Sim.fail
 | .TypeAlias .., _, _, _, _, _, _, _ => Sim.fail
 | .AnnAssign .., _, _, _, _, _, _, _ => Sim.fail
 | .AsyncFor .., _, _, _, _, _, _, _ => Sim.fail
 | .With .., _, _, _, _, _, _, _ => Sim.fail
 | .AsyncWith .., _, _, _, _, _, _, _ => Sim.fail
 | .Match .., _, _, _, _, _, _, _ => Sim.fail
 | .TryStar .., _, _, _, _, _, _, _ => Sim.fail
 | .Import .., _, _, _, _, _, _, _ => Sim.fail
 | .ImportFrom .., _, _, _, _, _, _, _ => Sim.fail
 | .Global .., _, _, _, _, _, _, _ => Sim.fail
 | .Nonlocal .., _, _, _, _, _, _, _ => Sim.fail
 | .Break .., _, _, _, _, _, _, _ => Sim.fail
theorem snd_Ss : ∀ (ss : List Stmt) {g : G} {W : Wd} {ev : AEnv} {env : Env}, Gd g → EnvTop g env → EnvOk g W ev env → Sim g W (execs ss env) (denSs g.c.P (phi g.c.P g.d) ev ss) FlowRel
 | [], _, _, _, _, D, T, O => Sim.pure fun _ _ => rfl
 | s :: r, _, _, _, _, D, T, O => by
  rw [arm_execs_cons]
  refine (snd_S s D T O).bind fun W₁ f f' hx hf => ?_
  cases f with
  | next => obtain rfl : f' = .next := hf; exact snd_Ss r D T (O.ext hx)
  | brk => obtain rfl : f' = .brk := hf; exact Sim.pure fun _ _ => rfl
  | cont => obtain rfl : f' = .cont := hf; exact Sim.pure fun _ _ => rfl
  | ret v => obtain ⟨u, rfl, hv⟩ := hf; exact Sim.pure fun _ hx' => ⟨u, rfl, hv.ext hx'⟩
theorem snd_Hs : ∀ (hs : List ExceptHandler) {g : G} {W : Wd} {ev : AEnv} {env : Env}, Gd g → EnvTop g env → EnvOk g W ev env → HandlersOk g W ev env hs
 | [], _, _, _, _, D, T, O => hs_nil
 | .ExceptHandler t n b p :: r, g, W, ev, env, D, T, O => hs_cons D T O (fun ps W' hx => snd_Ss b (g := gh g ps) D.gh T.gh (O.ext hx).gh) (snd_Hs r D T O)
end
end
theorem lookup_rev {α : Type} {x : Str} : ∀ {l : List (Str × α)}, (l.map (·.1)).Nodup → l.reverse.lookup x = l.lookup x
 | [], _ => rfl
 | (y, v) :: r, h => by
  rw [List.map_cons, List.nodup_cons] at h
  rw [List.reverse_cons, List.lookup_append, lookup_rev h.2, List.lookup_cons, List.lookup_cons]
  cases q : x == y with
  | false => cases r.lookup x <;> rfl
  | true =>
   rw [beq_iff_eq] at q
   subst q
   cases e : r.lookup x with
   | none => rfl
   | some u => exact absurd (List.mem_map.mpr ⟨_, Mine.mem_of_lookup e, rfl⟩) h.1
theorem zip_lookup {W : Wd} {x : Str} : ∀ {ps : List Str} {vs : List V} {us : List Value} {v : V}, VsRel W vs us → (ps.zip vs).lookup x = some v → ∃ u, (ps.zip us).lookup x = some u ∧ VRel W v u
 | [], _, _, _, _, h => by exact zN h
 | _ :: _, [], [], _, _, h => by exact zN h
 | p :: ps, w :: vs, z :: us, v, hr, h => by
  rw [List.zip_cons_cons, List.lookup_cons] at h ⊢
  cases q : x == p with
  | true => rw [q] at h; obtain rfl := sj h; exact ⟨z, rfl, hr.1⟩
  | false => rw [q] at h; exact zip_lookup hr.2 h
 | _ :: _, [], _ :: _, _, h, _ => h.elim
 | _ :: _, _ :: _, [], _, h, _ => h.elim
theorem zip_keys {α : Type} : ∀ (ps : List Str) (us : List α), ((ps.zip us).map (·.1)).Sublist ps
 | [], _ => .slnil
 | p :: ps, [] => List.nil_sublist _
 | p :: ps, u :: us => (zip_keys ps us).cons_cons p
theorem fnSim_zero (c : Cx) : FnSim c 0 := by
 intro f code fa g W vs us kw kw' hc hfn hgc hgd hv hk A W₁ mm st s Rr hA hx hS hP
 have : callF c.P (phi c.P 0) g.hd f vs kw st = .fail := by
  unfold callF
  rw [hc]
  dsimp only
  cases bindV code vs kw with
  | none => rfl
  | some _ => rfl
 rw [this] at hP
 exact hP.elim
noncomputable def backR : PySem.Flow → Value
 | .ret v => v
 | _ => .none
theorem back_flow {W : Wd} {f : Flow} {f' : PySem.Flow} (h : FlowRel W f f') : VRel W (backV f) (backR f') := by
 cases f with
 | next => obtain rfl : f' = .next := h; rfl
 | brk => obtain rfl : f' = .brk := h; rfl
 | cont => obtain rfl : f' = .cont := h; rfl
 | ret v => obtain ⟨u, rfl, hv⟩ := h; exact hv
noncomputable def gcall (g : G) (d : Nat) (env : Env) (L : Addr) (mm : Str → Option Value) : G := { c := g.c, d, k := 0, hd := g.hd, pins := g.pins, fenvs := env :: g.fenvs, L, fr := (g.L, mm) :: g.fr }
theorem call_around {g : G} {A : Around} {d : Nat} {env : Env} {L : Addr} {mm : Str → Option Value} (hA : AOk g A) (hgd : g.d = d + 1) (hk : env.scope.kind ≠ .module) (hf : env.frame = some L) : AOk (gcall g d env L mm) (A.deeper env) where
 fo := fun e he => by
  rcases List.mem_cons.mp he with rfl | he
  ·exact ⟨hk, L, hf, .head _⟩
  ·obtain ⟨a, L', b, q⟩ := hA.fo e he
   exact ⟨a, L', b, .tail _ q⟩
 frames := Around.frames_deeper hA.frames
 hd := hA.hd
 k := Nat.zero_le _
 depth := by
  have h1 := hA.depth
  have h2 := hA.k
  rw [hgd] at h1
  rw [depth_deeper]
  show A.depth + 1 + 8 * d ≤ 980 + 0
  lia
 units := by
  have h1 := hA.units
  have h2 := hA.k
  rw [hgd] at h1
  rw [units_deeper]
  show A.units + 3 + 60 * d ≤ 9800 + 0
  lia
noncomputable def afterB (l : Str → Option V) (r : R Flow) : R V := match r with
 | .fail => .fail
 | .ok f s' => .ok (backV f) { s' with loc := l }
 | .exc x s' => .exc x { s' with loc := l }
theorem call_tail {g : G} {d : Nat} {W₁ W₂ : Wd} {env : Env} {ev : AEnv} {L : Addr} {mm m₂ : Str → Option Value} {st st₂ : S} {s s₂ : Shared} {A : Around} {Rr : Result → Shared → Prop} {body : List Stmt} (C : CxOk g.c) (F : FnSim g.c d) (hA' : AOk (gcall g d env L mm) (A.deeper env)) (hframe : env.frame = some L)
  (O' : EnvOk (gcall g d env L mm) W₂ ev env) (hS : St g W₁ mm st s) (hS₂ : St (gcall g d env L mm) W₂ m₂ st₂ s₂) (hx : Ext W₁ W₂) (hs : Same s s₂)
  (hP : Post g W₁ s VRel (fun a s' => Rr (.ok (.ret a)) s') (fun e s' => Rr (.error e) s') (afterB st.loc (denSs g.c.P (phi g.c.P d) ev body st₂))) :
  wpAny (model g.c.prog g.c.w) (A.deeper env) (execs body env) (fun f s' => Rr (.ok (.ret (match f with | .ret v => v | _ => .none))) s') (fun e s' => wpAny (model g.c.prog g.c.w) (A.deeper env) (leaving env e) (fun _ s'' => Rr (.error e) s'') (fun e' s'' => Rr (.error e') s'') s') s₂ := by
 have back : ∀ {W' mm' st' s'}, Ext W₂ W' → St (gcall g d env L mm) W' mm' st' s' → St g (W'.unl [L]) mm { st' with loc := st.loc } s' := fun hx' h => ⟨Inv.dropFrame h.inv, h.next, hS.loc.ext ((hx.trans hx').trans (Wd.ext_unl _ [L]))⟩
 refine snd_Ss (g := gcall g d env L mm) body ⟨C, F, Nat.zero_le _⟩ ⟨hA'.fo, g.fenvs, L, rfl, hframe⟩ O' (A.deeper env) W₂ m₂ st₂ s₂ _ _ hA' (Ext.refl _) hS₂ ?_
 show Post _ _ _ _ _ _ (denSs g.c.P (phi g.c.P d) ev body st₂)
 revert hP
 cases denSs g.c.P (phi g.c.P d) ev body st₂ with
 | fail => exact id
 | ok b st' =>
  intro hP W' mm' s' f' hx' hS' hs' hf
  have go : Rr (.ok (.ret (backR f'))) s' := hP (W'.unl [L]) mm s' _ ((hx.trans hx').trans (W'.ext_unl [L])) (back hx' hS') (hs.trans hs') ((back_flow hf).ext (W'.ext_unl [L]))
  cases f' <;> exact go
 | exc x st' =>
  intro hP W' mm' s' e hx' hS' hs' ht
  refine sim_leaving (g := gcall g d env L mm) hA'.frames hA'.fo rfl hframe hS' ht fun s₂ hS₂ hs₂ ht₂ => ?_
  refine hP (W'.unl [L]) mm s₂ e ((hx.trans hx').trans (W'.ext_unl [L])) (back hx' hS₂) ((hs.trans hs').trans hs₂) ?_
  obtain ⟨a, oe, vs', rfl, t1, t2, t3, t4, t5, t6, t7⟩ := ht₂.thrown
  have un : ∀ a, W'.lab a = none → (W'.unl [L]).lab a = none := fun a ha => by
   show (if a ∈ [L] then none else W'.lab a) = none
   rw [ha]; exact ite_self _
  exact ⟨a, oe, vs', rfl, un _ t1, t2, t3, t4, t5, t6, t7.imp_right fun ⟨T, oT, ts, k1, k2, k3, k4⟩ => ⟨T, oT, ts, k1, k2, un _ k3, k4⟩⟩
theorem cellsFrom_none : ∀ {names : List (Str × NameKind)} {n : Nat} {acc : List (Str × Addr)}, cellNs names = [] → cellsFrom n names acc = acc
 | [], _, _, _ => rfl
 | (y, k) :: r, n, acc, h => by
  unfold cellNs at h
  unfold cellsFrom
  by_cases hk : (k == NameKind.cell) = true
  ·rw [List.filter_cons_of_pos (by exact hk)] at h; contradiction
  ·rw [List.filter_cons_of_neg (by exact hk)] at h
   rw [if_neg hk]; exact cellsFrom_none h
theorem cellsFrom_one {x : Str} : ∀ {names : List (Str × NameKind)} {n : Nat} {acc : List (Str × Addr)}, cellNs names = [x] → cellsFrom n names acc = (x, n) :: acc
 | [], _, _, h => (by contradiction)
 | (y, k) :: r, n, acc, h => by
  unfold cellNs at h
  unfold cellsFrom
  by_cases hk : (k == NameKind.cell) = true
  ·rw [List.filter_cons_of_pos (by exact hk), List.map_cons] at h
   have h1 := (List.cons.inj h).1
   have h2 := (List.cons.inj h).2
   subst h1
   rw [if_pos hk]; exact cellsFrom_none h2
  ·rw [List.filter_cons_of_neg (by exact hk)] at h
   rw [if_neg hk]; exact cellsFrom_one h
theorem cell_mem {names : List (Str × NameKind)} {y : Str} (h : (y, NameKind.cell) ∈ names) : y ∈ cellNs names := List.mem_map.mpr ⟨_, List.mem_filter.mpr ⟨h, rfl⟩, rfl⟩
theorem lookup_none {α : Type} {y : Str} {l : List (Str × α)} (h : y ∉ l.map (·.1)) : l.lookup y = none := by
 cases e : l.lookup y with
 | none => rfl
 | some v => exact absurd (List.mem_map.mpr ⟨_, Mine.mem_of_lookup e, rfl⟩) h
theorem bindL_eq {k : Str → Option NameKind} {y : Str} (hy : k y = some .local) : ∀ {l : List (Str × Value)} {m : Str → Option Value}, (l.map (·.1)).Nodup → bindL k l m y = (match l.lookup y with | some v => some v | none => m y)
 | [], _, _ => rfl
 | (n, v) :: r, m, h => by
  rw [List.map_cons, List.nodup_cons] at h
  show bindL k r (if k n = some .local then fun z => if z = n then some v else m z else m) y = _
  rw [bindL_eq hy h.2, List.lookup_cons]
  by_cases e : y = n
  ·subst e
   rw [lookup_none h.1, beq_self_eq_true]
   show (if k y = some .local then fun z => if z = y then some v else m z else m) y = some v
   rw [if_pos hy]; exact if_pos rfl
  ·rw [show (y == n) = false from beq_eq_false_iff_ne.mpr e]
   have : (if k n = some .local then fun z => if z = n then some v else m z else m) y = m y := by
    split
    ·exact if_neg e
    ·rfl
   rw [this]
theorem bindC_eq {k : Str → Option NameKind} {y : Str} (hy : ¬ k y = some .local) : ∀ {l : List (Str × Value)} {m : Str → Option Value}, (l.map (·.1)).Nodup → bindC k l m y = (match l.lookup y with | some v => some v | none => m y)
 | [], _, _ => rfl
 | (n, v) :: r, m, h => by
  rw [List.map_cons, List.nodup_cons] at h
  show bindC k r (if k n = some .local then m else fun z => if z = n then some v else m z) y = _
  rw [bindC_eq hy h.2, List.lookup_cons]
  by_cases e : y = n
  ·subst e
   rw [lookup_none h.1, beq_self_eq_true]
   show (if k y = some .local then m else fun z => if z = y then some v else m z) y = some v
   rw [if_neg hy]; exact if_pos rfl
  ·rw [show (y == n) = false from beq_eq_false_iff_ne.mpr e]
   have : (if k n = some .local then m else fun z => if z = n then some v else m z) y = m y := by
    split
    ·rfl
    ·exact if_neg e
   rw [this]
theorem zip_opt {W : Wd} {x : Str} : ∀ {ps : List Str} {vs : List V} {us : List Value}, VsRel W vs us → OptRel W ((ps.zip vs).lookup x) ((ps.zip us).lookup x)
 | [], _, _, _ => trivial
 | _ :: _, [], [], _ => trivial
 | p :: ps, w :: vs, z :: us, h => by
  rw [List.zip_cons_cons, List.zip_cons_cons, List.lookup_cons, List.lookup_cons]
  cases x == p with
  | true => exact h.1
  | false => exact zip_opt h.2
 | _ :: _, [], _ :: _, h => h.elim
 | _ :: _, _ :: _, [], h => h.elim
theorem fnSim_succ {c : Cx} {d : Nat} (C : CxOk c) (F : FnSim c d) : FnSim c (d + 1) := by
 intro f code fa g W vs us kw kw' hc hfn hgc hgd hv hk A W₁ mm st s Rr hA hx hS hP
 subst hgc
 obtain ⟨⟨oc, od, osl, name, qual, params, dV, kV, doc, pm, an, cdv, ct, dvs, hK, hcd, hdef, hbind, hbindc⟩⟩ := hfn.fn
 unfold callF at hP
 rw [hc] at hP
 dsimp only at hP
 cases hbv : bindV code vs kw with
 | none => rw [hbv] at hP; exact hP.elim
 | some ws =>
  rw [hbv] at hP
  dsimp only [phi] at hP
  rw [hc] at hP
  dsimp only at hP
  obtain ⟨zs, hbz, hrel⟩ := bind_rel (hdef W) hv hk hbv
  unfold bodyM at hP
  by_cases hlen : ws.length = code.params.length
  case neg => rw [if_neg hlen] at hP; exact hP.elim
  rw [if_pos hlen] at hP
  have hP : Post g W₁ s VRel (fun a s' => Rr (.ok (.ret a)) s') (fun e s' => Rr (.error e) s') (afterB st.loc (bodyR g.c.P (phi g.c.P d) g.hd code (fun x => (code.params.zip ws).lookup x) st)) := hP
  have X := in_base C hS
  have nd : ((code.params.zip zs).map (·.1)).Nodup := (zip_keys code.params zs).nodup hfn.nodup
  have hkf : code.scope.kind ≠ .module := by rw [hfn.kind]; exact fun q => (by contradiction)
  unfold bodyR at hP
  match hcn : cellNs code.scope.names with
  | [] =>
   rw [hcn] at hP
   have hcell : ∀ x ∈ code.scope.names, x.2 ≠ .cell := fun x hx' q => by
    have : x.1 ∈ cellNs code.scope.names := cell_mem (by rw [← q]; exact hx')
    rw [hcn] at this; exact zL this
   have hloc : ∀ x ∈ code.params.zip zs, code.scope.names.lookup x.1 = some .local := fun x hx' =>
    (hfn.par x.1 (List.of_mem_zip hx').1).resolve_right fun h => hcell _ (Mine.mem_of_lookup h) rfl
   refine codeAny_call_def (fd := fnOf name qual params code.body code.scope dV kV doc pm an cdv ct) (body := code.body) (binds := code.params.zip zs) hA.depthLt (X _ _ hK) rfl (C.lim.keeps hS.inv.stays) (codeRec_of X hcd) rfl (hbind s us kw' zs X hbz) hcell hloc (fun h₀ hns hk₀ => ?_) hfn.co hfn.gen hfn.kind
   generalize hL : s.heap.objs.size = L at hns ⊢
   generalize henv : callEnv (fnOf name qual params code.body code.scope dV kV doc pm an cdv ct) L fa = env
   have hscope : env.scope = code.scope := by rw [← henv]; rfl
   have hframe : env.frame = some L := by rw [← henv]; rfl
   have hx₁ := W₁.ext_lblF L
   have hS₁ : St (gcall g d env L mm) (W₁.lblF L) (fun x => (code.params.zip zs).reverse.lookup x) { st with loc := fun x => (code.params.zip ws).lookup x } { s with heap := h₀, toks := s.toks + (code.params.zip zs).length } :=
    ⟨(hS.inv.grow hk₀).newFrame (hS.inv.unlab_size (Nat.le_of_eq hL)) (hL ▸ hS.inv.sz) hns, hS.next, fun x v e =>
     let ⟨u, hu, hr⟩ := zip_lookup (hrel.ext (hx.trans hx₁)) e
     ⟨u, (lookup_rev nd).trans hu, hr⟩⟩
   exact call_tail C F (call_around (L := L) (mm := mm) hA hgd (hscope ▸ hkf) hframe) hframe
    ⟨hscope ▸ hfn.kind, fun x => by rw [hscope], by rw [← henv]; rfl, by rw [← henv]; rfl, by rw [← henv]; rfl, fun _ _ _ e => (by exact zN e), rfl⟩ hS hS₁ hx₁ Same.mk' hP
  | [x] =>
   rw [hcn] at hP
   dsimp only at hP
   by_cases hxl : code.scope.names.lookup x = some .cell
   case neg => rw [if_neg hxl] at hP; exact hP.elim
   rw [if_pos hxl] at hP
   obtain ⟨rfl, hba⟩ := hbindc (by rw [hcn]; exact fun q => (by contradiction)) us kw' zs hbz
   have hcf := fun n => cellsFrom_one (n := n) (acc := []) hcn
   have hxn : ∀ y, y ∈ code.params → y ≠ x → code.scope.names.lookup y = some .local := fun y hy ne => (hfn.par y hy).resolve_right fun h => by
    have := cell_mem (Mine.mem_of_lookup h)
    rw [hcn] at this
    exact ne (smp this)
   refine codeAny_call_cells (fd := fnOf name qual params code.body code.scope dV kV doc pm an cdv ct) (body := code.body) (binds := code.params.zip zs) hA.depthLt (X _ _ hK) rfl (C.lim.keeps hS.inv.stays) (codeRec_of X hcd) rfl hba rfl (fun y hy => ?_) (fun s₁ x₁ => ?_) hfn.co hfn.gen hfn.kind
   ·rcases hfn.par y.1 (List.of_mem_zip hy).1 with h | h
    ·exact .inl h
    ·have := cell_mem (Mine.mem_of_lookup h)
     rw [hcn] at this
     refine .inr ⟨h, ?_⟩
     show ((cellsFrom _ code.scope.names []).lookup y.1).isSome = true
     rw [hcf, smp this, List.lookup_cons, beq_self_eq_true]; rfl
   generalize hL : s.heap.objs.size = L at x₁ ⊢
   generalize henv : callEnvC (fnOf name qual params code.body code.scope dV kV doc pm an cdv ct) L fa = env at x₁ ⊢
   have hscope : env.scope = code.scope := by rw [← henv]; rfl
   have hframe : env.frame = some L := by rw [← henv]; rfl
   have hlocals : env.locals = L := by rw [← henv]; rfl
   have hcells : env.cells = [(x, L + 1)] := by rw [← henv]; exact hcf (L + 1)
   have hkind : ∀ y, env.kindOf y = code.scope.names.lookup y := fun y => by rw [← henv]; rfl
   obtain ⟨h₁, tk, rfl⟩ := x₁.toInCall.same
   have hkeep := x₁.toInCall.keep
   have hns := x₁.toInCall.ns
   rw [hlocals] at hns
   have hcx := x₁.cell x (L + 1) (by rw [hcells, List.lookup_cons, beq_self_eq_true])
   have hxc : ¬ env.kindOf x = some .local := fun q => by
    rw [hkind, hxl] at q; contradiction
   rw [bindC_eq hxc nd] at hcx
   have hxa := W₁.ext_add (L + 1) 0 false
   have I₁ := (hS.inv.grow hkeep).add (a := L + 1) (d := 0) (two := false) (o := .cell ((code.params.zip ws).lookup x)) (hS.inv.unlab_size (by lia)) (Nat.le_trans hS.inv.sz (by lia)) (fun q => zF q) (fun ⟨_, e⟩ => (by contradiction))
    ⟨_, by rw [Wd.ρ_add]; exact hcx, by
     have := zip_opt (x := x) (ps := code.params) (hrel.ext (hx.trans hxa))
     revert this
     cases (code.params.zip zs).lookup x <;> exact id⟩
   have hlabL : (W₁.add (L + 1) 0 false).lab L = none := by
    show (if L = L + 1 then _ else if false = true ∧ L = 0 then _ else W₁.lab L) = none
    rw [if_neg (by lia), if_neg (fun q => zF q.1)]
    exact hS.inv.unlab_size (Nat.le_of_eq hL)
   have hx₁ := hxa.trans ((W₁.add (L + 1) 0 false).ext_lblF L)
   have hS₁ : St (gcall g d env L mm) ((W₁.add (L + 1) 0 false).lblF L) (bindL env.kindOf (code.params.zip zs) fun _ => none) { heap := upd st.heap st.next (.cell ((code.params.zip ws).lookup x)), next := st.next + 1, loc := fun y => if y = x then none else (code.params.zip ws).lookup y } { s with heap := h₁, toks := tk } := by
    refine ⟨?_, congrArg (· + 1) hS.next, fun y v e => ?_⟩
    ·rw [hS.next]
     exact I₁.newFrame hlabL (hL ▸ hS.inv.sz) hns
    ·dsimp only at e
     by_cases q : y = x
     ·rw [if_pos q] at e; exact zN e
     ·rw [if_neg q] at e
      obtain ⟨u, hu, hr⟩ := zip_lookup (hrel.ext (hx.trans hx₁)) e
      have hm := (List.of_mem_zip (Mine.mem_of_lookup hu)).1
      exact ⟨u, by rw [bindL_eq ((hkind y).trans (hxn y hm q)) nd, hu], hr⟩
   refine call_tail C F (call_around (L := L) (mm := mm) hA hgd (hscope ▸ hkf) hframe) hframe (ev := { names := code.scope.names, cells := [(x, st.next)], hd := g.hd })
    ⟨hscope ▸ hfn.kind, fun x => by rw [hscope], by rw [← henv]; rfl, by rw [← henv]; rfl, hlocals, fun y i _ e => ?_, rfl⟩ hS hS₁ hx₁ Same.mk' hP
   rw [List.lookup_cons] at e
   cases q : y == x with
   | false => rw [q] at e; exact zN e
   | true =>
    rw [q] at e; obtain rfl := sj e
    rw [hcells, List.lookup_cons, q, hS.next]
    exact ⟨Nat.lt_succ_self _, congrArg some (Wd.ρ_add W₁ (L + 1) 0 false).symm⟩
  | _ :: _ :: _ => rw [hcn] at hP; exact hP.elim
theorem fnSim_all {c : Cx} (C : CxOk c) : ∀ d, FnSim c d
 | 0 => fnSim_zero c
 | d + 1 => fnSim_succ C (fnSim_all C d)
end
section
open PySem
noncomputable def constV : PySem.Expr → V
 | .Constant (.int i) _ _ => .int i
 | .Constant (.bool b) _ _ => .bool b
 | _ => .none
noncomputable def fnOfStmt : PySem.Stmt → Option (Str × FnC)
 | .FunctionDef n a b _ _ _ sc _ _ _ => some (n, ⟨a.args.map (·.arg), a.defaults.map constV, sc, b, false⟩)
 | _ => none
noncomputable def globsOf (body : List PySem.Stmt) : List (Str × FnC) := body.filterMap fnOfStmt
noncomputable def methsOf (body : List PySem.Stmt) : List (Str × FnC) := match body.findSome? (fun s => match s with | .ClassDef n _ _ b _ _ _ _ _ _ _ => if n = ("Stream" : Str) then some b else none | _ => none) with
 | some b => globsOf b
 | none => []
noncomputable def noFn : FnC := ⟨[], [], { kind := .function, names := [], isGenerator := false, isCoroutine := false }, [], false⟩
noncomputable def gfn (body : List PySem.Stmt) (n : Str) : FnC := ((globsOf body).lookup n).getD noFn
noncomputable def mfn (body : List PySem.Stmt) (n : Str) (k : Nat) : FnC := ((((methsOf body).filter (·.1 = n))[k]?).map (·.2)).getD noFn
noncomputable def body01 : List PySem.Stmt := PySem.Challenge.pw_it0021_01.main.body
noncomputable def g_ahead : FnC := gfn body01 "_ahead"
noncomputable def g_push : FnC := gfn body01 "heappush"
noncomputable def g_pop : FnC := gfn body01 "heappop"
noncomputable def g_names : FnC := gfn body01 "_law_names"
noncomputable def g_row : FnC := gfn body01 "_law_row"
noncomputable def g_lay : FnC := gfn body01 "_law_lay"
noncomputable def g_alone : FnC := gfn body01 "_law_alone"
noncomputable def g_out : FnC := gfn body01 "_law_out"
noncomputable def g_turn : FnC := gfn body01 "_law_turn"
noncomputable def g_inside : FnC := gfn body01 "_law_inside"
noncomputable def g_told : FnC := gfn body01 "_law_told"
noncomputable def g_served : FnC := gfn body01 "_law_served"
noncomputable def g_refused : FnC := gfn body01 "_law_refused"
noncomputable def g_stranger : FnC := gfn body01 "_law_stranger"
noncomputable def g_same : FnC := gfn body01 "_law_same"
noncomputable def g_law : FnC := gfn body01 "law"
noncomputable def m_init : FnC := mfn body01 "__init__" 0
noncomputable def m_getW : FnC := mfn body01 "weight" 0
noncomputable def m_setW : FnC := mfn body01 "weight" 1
noncomputable def m_add : FnC := mfn body01 "add_child" 0
noncomputable def m_excl : FnC := mfn body01 "add_child_exclusive" 0
noncomputable def m_rem : FnC := { mfn body01 "remove_child" 0 with kw := true }
noncomputable def m_sched : FnC := mfn body01 "schedule" 0
noncomputable def m_eq : FnC := mfn body01 "__eq__" 0
noncomputable def m_ne : FnC := mfn body01 "__ne__" 0
noncomputable def m_lt : FnC := mfn body01 "__lt__" 0
noncomputable def code01 : FId → Option FnC
 | .glob n => if n = ("_ahead" : Str) then some g_ahead else if n = ("heappush" : Str) then some g_push else if n = ("heappop" : Str) then some g_pop else
  if n = ("_law_names" : Str) then some g_names else if n = ("_law_row" : Str) then some g_row else if n = ("_law_lay" : Str) then some g_lay else if n = ("_law_alone" : Str) then some g_alone else
  if n = ("_law_out" : Str) then some g_out else if n = ("_law_turn" : Str) then some g_turn else if n = ("_law_inside" : Str) then some g_inside else if n = ("_law_told" : Str) then some g_told else
  if n = ("_law_served" : Str) then some g_served else if n = ("_law_refused" : Str) then some g_refused else if n = ("_law_stranger" : Str) then some g_stranger else if n = ("_law_same" : Str) then some g_same else none
 | .meth n => if n = ("__init__" : Str) then some m_init else if n = ("add_child" : Str) then some m_add else if n = ("add_child_exclusive" : Str) then some m_excl else if n = ("remove_child" : Str) then some m_rem else
  if n = ("schedule" : Str) then some m_sched else if n = ("__eq__" : Str) then some m_eq else if n = ("__ne__" : Str) then some m_ne else if n = ("__lt__" : Str) then some m_lt else none
 | .getW => some m_getW
 | .setW => some m_setW
noncomputable def pi01 : PI := ⟨code01, ["stream_id", "_weight", "children", "parent", "child_queue", "active", "last_weight", "_deficit"]⟩
section
theorem uS {α : Type} (f : Nat → Option α) (i : Nat) (o : α) : upd f i o i = some o := if_pos rfl
theorem uO {α : Type} {f : Nat → Option α} {i j : Nat} {o : α} (h : j ≠ i) : upd f i o j = f j := if_neg h
theorem lS {l : Str → Option V} {x : Str} {v : V} : updL l x v x = some v := if_pos rfl
theorem cS {h : Nat → Option AObj} {k : Nat} {l : Str → Option V} {x : Str} {v : V} : (S.mk h k (updL l x v)).loc x = some v := if_pos rfl
theorem cO {h : Nat → Option AObj} {k : Nat} {l : Str → Option V} {x y : Str} {v : V} (hn : y ≠ x) : (S.mk h k (updL l x v)).loc y = l y := if_neg hn
theorem heap_same {h : Nat → Option AObj} {k i : Nat} {o : AObj} {l : Str → Option V} : (S.mk (upd h i o) k l).heap i = some o := if_pos rfl
theorem heap_other {h : Nat → Option AObj} {k i j : Nat} {o : AObj} {l : Str → Option V} (hn : j ≠ i) : (S.mk (upd h i o) k l).heap j = h j := if_neg hn
theorem Lo {l : Str → Option V} {x y : Str} {v : V} (h : y ≠ x) : updL l x v y = l y := if_neg h
theorem nat_at {k : Nat} (h : k < 1000) : natB (.int (k : Int)) = some k := by
 show (if 0 ≤ (k : Int) ∧ (k : Int) < 1000 then some (k : Int).toNat else none) = _
 rw [if_pos ⟨Int.natCast_nonneg k, by lia⟩, Int.toNat_natCast]
theorem run_bind {α β : Type} (m : M α) (f : α → M β) (st : S) : (m >>= f) st = (match m st with | .fail => .fail | .ok a s' => f a s' | .exc x s' => .exc x s') := rfl
section
variable {α β : Type} {P : PI} {Φ : Phi} {ev : AEnv} {st st' s1 s2 s3 : S}
theorem b_bind {m : M α} {f : α → M β} {a : α} (h : m st = .ok a s1) : (m >>= f) st = f a s1 := by rw [run_bind, h]
theorem b_bindx {m : M α} {f : α → M β} {x : X} (h : m st = .exc x s1) : (m >>= f) st = .exc x s1 := by rw [run_bind, h]
theorem bS {m : M α} {f : α → M β} {a : α} {r : R β} (h : m st = .ok a s1) (h' : f a s1 = r) : (m >>= f) st = r := (b_bind h).trans h'
theorem b_if {c : Prop} [Decidable c] {m m' : M α} {r : R α} (hc : c) (h : m st = r) : (if c then m else m') st = r := by rw [if_pos hc]; exact h
theorem b_ifn {c : Prop} [Decidable c] {m m' : M α} {r : R α} (hc : ¬ c) (h : m' st = r) : (if c then m else m') st = r := by rw [if_neg hc]; exact h
theorem bG {f : S → Option α} {a : α} (h : f st = some a) : getM f st = .ok a st := by
 unfold getM
 rw [h]
theorem b_load {x : Str} {v : V} (hd : x ≠ ("__debug__" : Str)) (h : ev.names.lookup x = some .local) (hl : st.loc x = some v) : loadV ev x st = .ok v st := b_ifn hd (b_if h (bG hl))
theorem bT {x : Str} {v : V} (h : ev.names.lookup x = some .local) : storeV ev x v st = .ok () { st with loc := updL st.loc x v } := b_if h rfl
theorem rdI_at {i : Nat} {fs : List (Str × V)} (h : st.heap i = some (.inst fs)) : rdI i st = .ok fs st := bG (by unfold instAt; rw [h])
theorem rdL_at {i : Nat} {xs : List V} (h : st.heap i = some (.list xs)) : rdL i st = .ok xs st := bG (by unfold listAt; rw [h])
theorem rdS_list {i : Nat} {xs : List V} (h : st.heap i = some (.list xs)) : rdS i st = .ok xs st := bG (by unfold seqAt; rw [h])
theorem rdS_ro {i : Nat} {xs : List V} (h : st.heap i = some (.ro xs)) : rdS i st = .ok xs st := bG (by unfold seqAt; rw [h])
theorem b_ref {i : Nat} {f : Nat → M β} {r : R β} (h : f i st = r) : (refM (.ref i) >>= f) st = r := bS (bG rfl) h
theorem bI {i : Int} {k : Nat} {p : Pos} : denE P Φ ev (.Constant (.int i) k p) st = .ok (.int i) st := rfl
theorem b_bool {b : Bool} {k : Nat} {p : Pos} : denE P Φ ev (.Constant (.bool b) k p) st = .ok (.bool b) st := rfl
theorem b_none {k : Nat} {p : Pos} : denE P Φ ev (.Constant .none k p) st = .ok .none st := rfl
theorem b_str {x : Str} {k : Nat} {p : Pos} : denE P Φ ev (.Constant (.str x) k p) st = .ok (.str x) st := rfl
theorem b_bytes {x : List UInt8} {k : Nat} {p : Pos} : denE P Φ ev (.Constant (.bytes x) k p) st = .ok (.bytes x) st := rfl
theorem b_cellv {x : Str} {v : V} {i : Nat} (hd : x ≠ ("__debug__" : Str)) (h : ev.names.lookup x = some .cell) (hi : ev.cells.lookup x = some i) (hl : st.heap i = some (.cell (some v))) : loadV ev x st = .ok v st :=
 b_ifn hd (b_ifn (by rw [h]; exact fun q => (by contradiction)) (b_if h (bG (by unfold cellV; rw [hi]; dsimp only; unfold cellAt; rw [hl]))))
theorem b_cell {x : Str} {p : Pos} {v : V} {i : Nat} (hd : x ≠ ("__debug__" : Str)) (h : ev.names.lookup x = some .cell) (hi : ev.cells.lookup x = some i) (hl : st.heap i = some (.cell (some v))) : denE P Φ ev (.Name x p) st = .ok v st := b_cellv hd h hi hl
theorem bN {x : Str} {p : Pos} {v : V} (hd : x ≠ ("__debug__" : Str)) (h : ev.names.lookup x = some .local) (hl : st.loc x = some v) : denE P Φ ev (.Name x p) st = .ok v st := b_load hd h hl
theorem bA {o : Expr} {x : Str} {p : Pos} {i : Nat} {fs : List (Str × V)} {v : V} (hb : plainBase o = true) (h : denE P Φ ev o st = .ok (.ref i) s1) (ha : s1.heap i = some (.inst fs)) (hn : x ≠ wName) (hf : P.fields.contains x = true) (hg : getR x fs = some v) :
  denE P Φ ev (.Attribute o x p) st = .ok v s1 := b_if hb (bS h (b_ref (bS (rdI_at ha) (b_ifn hn (b_if hf (bG hg))))))
theorem b_attrW {o : Expr} {p : Pos} {i : Nat} {fs : List (Str × V)} {v : V} (hb : plainBase o = true) (h : denE P Φ ev o st = .ok (.ref i) s1) (ha : s1.heap i = some (.inst fs)) (hw : callF P Φ ev.hd .getW [.ref i] [] s1 = .ok v s2) :
  denE P Φ ev (.Attribute o "weight" p) st = .ok v s2 := b_if hb (bS h (b_ref (bS (rdI_at ha) (b_if rfl (by unfold noExc; rw [hw])))))
theorem b_not {x : Expr} {p : Pos} {b : Bool} (h : denE P Φ ev x st = .ok (.bool b) s1) : denE P Φ ev (.UnaryOp .Not x p) st = .ok (.bool !b) s1 := bS h rfl
theorem b_neg {x : Expr} {p : Pos} {i : Int} (h : denE P Φ ev x st = .ok (.int i) s1) : denE P Φ ev (.UnaryOp .USub x p) st = .ok (.int (-i)) s1 := bS h rfl
theorem bB {l r : Expr} {op : Operator} {p : Pos} {a b v : V} (h1 : denE P Φ ev l st = .ok a s1) (h2 : denE P Φ ev r s1 = .ok b s2) (h3 : binV op a b s2 = .ok v s3) : denE P Φ ev (.BinOp l op r p) st = .ok v s3 := bS h1 (bS h2 h3)
theorem b_add {x y : Int} : binV .Add (.int x) (.int y) st = .ok (.int (x + y)) st := rfl
theorem b_sub {x y : Int} : binV .Sub (.int x) (.int y) st = .ok (.int (x - y)) st := rfl
theorem b_mod {x y : Int} (h : y ≠ 0) : binV .Mod (.int x) (.int y) st = .ok (.int (Int.fmod x y)) st := b_ifn h rfl
theorem b_fdiv {x y : Int} (h : 0 < y ∧ y < 1000) : binV .FloorDiv (.int x) (.int y) st = .ok (.int (Int.fdiv x y)) st := b_if h rfl
theorem b_ifexpT {t b o : Expr} {p : Pos} {r : R V} (h : denT P Φ ev t (denE P Φ ev t) st = .ok true s1) (h' : denE P Φ ev b s1 = r) : denE P Φ ev (.IfExp t b o p) st = r := bS h h'
theorem b_ifexpF {t b o : Expr} {p : Pos} {r : R V} (h : denT P Φ ev t (denE P Φ ev t) st = .ok false s1) (h' : denE P Φ ev o s1 = r) : denE P Φ ev (.IfExp t b o p) st = r := bS h h'
theorem b_cmp {l r : Expr} {op : CmpOp} {p : Pos} {a b v : V} (h1 : denE P Φ ev l st = .ok a s1) (h2 : denE P Φ ev r s1 = .ok b s2) (h3 : compareV P Φ ev.hd op a b s2 = .ok v s3) : denE P Φ ev (.Compare l [op] [r] p) st = .ok v s3 := bS h1 (bS h2 h3)
theorem bE : denEs P Φ ev [] st = .ok [] st := rfl
theorem bC {e : Expr} {r : List Expr} {v : V} {vs : List V} (h1 : denE P Φ ev e st = .ok v s1) (h2 : denEs P Φ ev r s1 = .ok vs s2) : denEs P Φ ev (e :: r) st = .ok (v :: vs) s2 := bS h1 (bS h2 rfl)
theorem b_list {es : List Expr} {p : Pos} {vs : List V} (hs : noStars es = true) (h : denEs P Φ ev es st = .ok vs s1) : denE P Φ ev (.List es p) st = .ok (.ref s1.next) { s1 with heap := upd s1.heap s1.next (.list vs), next := s1.next + 1 } := b_if hs (bS h rfl)
theorem b_tuple {es : List Expr} {k : Nat} {p : Pos} {vs : List V} (hs : noStars es = true) (h : denEs P Φ ev es st = .ok vs s1) : denE P Φ ev (.Tuple es k p) st = .ok (.ref s1.next) { s1 with heap := upd s1.heap s1.next (.tup vs), next := s1.next + 1 } := b_if hs (bS h rfl)
theorem b_cmpEq {x y : Int} {hd : Bool} : compareV P Φ hd .Eq (.int x) (.int y) st = .ok (.bool (x == y)) st := rfl
theorem b_cmpNe {x y : Int} {hd : Bool} : compareV P Φ hd .NotEq (.int x) (.int y) st = .ok (.bool !(x == y)) st := rfl
theorem b_cmpLt {x y : Int} {hd : Bool} : compareV P Φ hd .Lt (.int x) (.int y) st = .ok (.bool (decide (x < y))) st := rfl
theorem b_cmpLe {x y : Int} {hd : Bool} : compareV P Φ hd .LtE (.int x) (.int y) st = .ok (.bool (decide (x ≤ y))) st := rfl
theorem b_cmpGt {x y : Int} {hd : Bool} : compareV P Φ hd .Gt (.int x) (.int y) st = .ok (.bool (decide (x > y))) st := rfl
theorem b_cmpGe {x y : Int} {hd : Bool} : compareV P Φ hd .GtE (.int x) (.int y) st = .ok (.bool (decide (x ≥ y))) st := rfl
theorem b_cmpIs {v : V} {hd : Bool} : compareV P Φ hd .Is v .none st = .ok (.bool (isNone v)) st := rfl
theorem b_cmpIsNot {v : V} {hd : Bool} : compareV P Φ hd .IsNot v .none st = .ok (.bool !isNone v) st := rfl
theorem bK {f : Str} {args : List Expr} {fp p : Pos} {vs : List V} {r : R V} (hg : isGlobal ev f = true) (hs : noStars args = true) (hi : f ≠ ("isinstance" : Str)) (hk : knownFn P f = true)
  (h : denEs P Φ ev args st = .ok vs s1) (h' : callName P Φ ev f vs s1 = r) : denE P Φ ev (.Call (.Name f fp) args [] p) st = r :=
 b_if (c := (isGlobal ev f && true && noStars args) = true) (by rw [hg, hs]; rfl) (b_ifn hi (b_if hk (bS h h')))
theorem b_callFn {f : Str} {vs : List V} {r : R V} (hc : (P.code (.glob f)).isSome = true) (h : callF P Φ ev.hd (.glob f) vs [] st = r) : callName P Φ ev f vs st = r := b_if hc h
theorem b_isinst {x : Expr} {t : Expr} {n : Str} {fp p : Pos} {v w : V} (hg : isGlobal ev ("isinstance" : Str) = true) (hs : noStars [x, t] = true) (ht : globE ev t = some n)
  (h : denE P Φ ev x st = .ok v s1) (h' : isinstV v n s1 = .ok w s2) : denE P Φ ev (.Call (.Name "isinstance" fp) [x, t] [] p) st = .ok w s2 := by
 refine b_if (c := (isGlobal ev ("isinstance" : Str) && true && noStars [x, t]) = true) (by rw [hg, hs]; rfl) (b_if rfl ?_)
 show (match globE ev t with | some n => denE P Φ ev x >>= fun v => isinstV v n | none => failM) st = _
 rw [ht]
 exact bS h h'
theorem isInst_at {h : Nat → Option AObj} {a : Nat} {fs : List (Str × V)} (ha : h a = some (.inst fs)) : isInst h (.ref a) = true := by
 show (instAt h a).isSome = true
 unfold instAt
 rw [ha]
 rfl
theorem b_isStream {i : Nat} {fs : List (Str × V)} (ha : st.heap i = some (.inst fs)) : isinstV (.ref i) "Stream" st = .ok (.bool true) st := by
 show (if isInst st.heap (.ref i) = true then R.ok (V.bool true) st else .fail) = _
 rw [if_pos (isInst_at ha)]
theorem b_isStreamI {i : Int} : isinstV (.int i) "Stream" st = .ok (.bool false) st := rfl
theorem b_isInt {i : Int} : isinstV (.int i) "int" st = .ok (.bool true) st := rfl
theorem m_if {ap p : Pos} {o : Expr} {args : List Expr} {kws : List Keyword} {r : R V} {m : M V} (hl : (ap.endLine == p.line) = true) (hb : (plainBase o && noStars args && namedKws kws) = true) (h : m st = r) :
  (if ((ap.endLine == p.line) && plainBase o && noStars args && namedKws kws) = true then m else failM) st = r := b_if (by rw [hl, Bool.true_and]; exact hb) h
theorem b_methK {o : Expr} {n : Str} {args : List Expr} {kws : List Keyword} {ap p : Pos} {i : Nat} {fs : List (Str × V)} {vs : List V} {kv : List (Str × V)} {r : R V} (hl : (ap.endLine == p.line) = true) (hb : (plainBase o && noStars args && namedKws kws) = true)
  (h : denE P Φ ev o st = .ok (.ref i) s1) (ha : s1.heap i = some (.inst fs)) (hn : getR n fs = none) (hc : (P.code (.meth n)).isSome = true) (h1 : denEs P Φ ev args s1 = .ok vs s2) (hk : denKws P Φ ev kws s2 = .ok kv s3) (h2 : callF P Φ ev.hd (.meth n) (.ref i :: vs) kv s3 = r) :
  denE P Φ ev (.Call (.Attribute o n ap) args kws p) st = r :=
 m_if hl hb (bS h (bS (b_ref (bS (bG ha) (bS (b_ifn (by rw [hn]; exact fun q => zF q) (b_if hc rfl)) rfl))) (bS h1 (bS hk h2))))
theorem b_meth {o : Expr} {n : Str} {args : List Expr} {ap p : Pos} {i : Nat} {fs : List (Str × V)} {vs : List V} {r : R V} (hl : (ap.endLine == p.line) = true) (hb : (plainBase o && noStars args && namedKws []) = true)
  (h : denE P Φ ev o st = .ok (.ref i) s1) (ha : s1.heap i = some (.inst fs)) (hn : getR n fs = none) (hc : (P.code (.meth n)).isSome = true) (h1 : denEs P Φ ev args s1 = .ok vs s2) (h2 : callF P Φ ev.hd (.meth n) (.ref i :: vs) [] s2 = r) :
  denE P Φ ev (.Call (.Attribute o n ap) args [] p) st = r := b_methK hl hb h ha hn hc h1 rfl h2
theorem b_methO {o : Expr} {n : Str} {args : List Expr} {ap p : Pos} {i : Nat} {ob : AObj} {k : Callee} {vs : List V} {r : R V} (hl : (ap.endLine == p.line) = true) (hb : (plainBase o && noStars args && namedKws []) = true)
  (h : denE P Φ ev o st = .ok (.ref i) s1) (ha : s1.heap i = some ob) (hk : calleeO P ob n s1 = .ok k s1) (h1 : denEs P Φ ev args s1 = .ok vs s2) (h2 : methodM P Φ ev.hd k i n vs [] s2 = r) :
  denE P Φ ev (.Call (.Attribute o n ap) args [] p) st = r := m_if hl hb (bS h (bS (b_ref (bS (bG ha) (bS hk rfl))) (bS h1 (bS rfl h2))))
theorem app_at {i : Nat} {xs : List V} {v : V} (ha : st.heap i = some (.list xs)) (hx : xs.length < 1000) : appendM i v st = .ok .none { st with heap := upd st.heap i (.list (xs ++ [v])) } := bS (rdL_at ha) (b_if hx rfl)
theorem b_append {o : Expr} {args : List Expr} {ap p : Pos} {i : Nat} {xs : List V} {v : V} (hl : (ap.endLine == p.line) = true) (hb : (plainBase o && noStars args && namedKws []) = true)
  (h : denE P Φ ev o st = .ok (.ref i) s1) (ha : s1.heap i = some (.list xs)) (h1 : denEs P Φ ev args s1 = .ok [v] s2) (ha' : s2.heap i = some (.list xs)) (hx : xs.length < 1000) :
  denE P Φ ev (.Call (.Attribute o "append" ap) args [] p) st = .ok .none { s2 with heap := upd s2.heap i (.list (xs ++ [v])) } :=
 b_methO (ob := .list xs) (k := .append) hl hb h ha rfl h1 (app_at ha' hx)
theorem pop_at {i : Nat} {xs : List V} {v : V} {hd : Bool} (ha : st.heap i = some (.list (v :: xs))) (hx : xs.length < 100000) : popM hd i st = .ok v { st with heap := upd st.heap i (.list xs) } := bS (rdL_at ha) (b_if hx rfl)
theorem pop_none {i : Nat} (ha : st.heap i = some (.list [])) : popM false i st = .exc .index st := bS (rdL_at ha) rfl
theorem b_item {o k : Expr} {p : Pos} {i : Nat} {ob : AObj} {kv v : V} (hs : stepless k = true) (hk : ∀ (m : M V) (w : V), denIx P Φ ev k m w = (m >>= fun x => subV w x)) (h : denE P Φ ev o st = .ok (.ref i) s1) (h1 : denE P Φ ev k s1 = .ok kv s2) (ha : s2.heap i = some ob) (hv : subO ob kv s2 = .ok v s2) : denE P Φ ev (.Subscript o k p) st = .ok v s2 :=
 b_if hs (bS h (by rw [hk]; exact bS h1 (b_ref (bS (bG ha) hv))))
theorem su_list {xs : List V} {k : Nat} {v : V} (hk : k < 1000) (h : xs[k]? = some v) : subO (.list xs) (.int (k : Int)) st = .ok v st := bS (bG (nat_at hk)) (bG h)
theorem su_dI {es : List (Int × V)} {ver : Nat} {k : Int} {v : V} (h : getF k es = some v) : subO (.dictI es ver) (.int k) st = .ok v st := bS (bG rfl) (bG h)
theorem su_dS {es : List (Str × V)} {k : Str} {v : V} (h : getF k es = some v) : subO (.dictS es) (.str k) st = .ok v st := bS (bG rfl) (bG h)
theorem b_slice {v lo hi : Expr} {p q : Pos} {o a b : V} {r : R V} (h : denE P Φ ev v st = .ok o s1) (h1 : denE P Φ ev lo s1 = .ok a s2) (h2 : denE P Φ ev hi s2 = .ok b s3) (h3 : sliceV o a b s3 = r) : denE P Φ ev (.Subscript v (.Slice (some lo) (some hi) none q) p) st = r :=
 b_if (c := (none : Option Expr).isNone = true) (m := denE P Φ ev v >>= fun o => denOpt P Φ ev (some lo) >>= fun a => denOpt P Φ ev (some hi) >>= fun b => sliceV o a b) (m' := failM) rfl (bS h (bS (m := denOpt P Φ ev (some lo)) h1 (bS (m := denOpt P Φ ev (some hi)) h2 h3)))
theorem b_slice0 {v hi : Expr} {p q : Pos} {o b : V} {r : R V} (h : denE P Φ ev v st = .ok o s1) (h2 : denE P Φ ev hi s1 = .ok b s2) (h3 : sliceV o .none b s2 = r) : denE P Φ ev (.Subscript v (.Slice none (some hi) none q) p) st = r :=
 b_if (c := (none : Option Expr).isNone = true) (m := denE P Φ ev v >>= fun o => denOpt P Φ ev none >>= fun a => denOpt P Φ ev (some hi) >>= fun b => sliceV o a b) (m' := failM) rfl (bS h (bS (m := denOpt P Φ ev none) rfl (bS (m := denOpt P Φ ev (some hi)) h2 h3)))
theorem sl_at {i : Nat} {xs : List V} {a : V} {l b : Nat} (h : rdS i st = .ok xs st) (ha : lowB a = some l) (hb : b < 1000) (hx : xs.length < 100000) : sliceV (.ref i) a (.int (b : Int)) st = .ok (.ref st.next) { st with heap := upd st.heap st.next (.list ((xs.take b).drop l)), next := st.next + 1 } :=
 b_ref (bS (bG ha) (bS (bG (nat_at hb)) (bS h (b_if hx rfl))))
theorem b_cat {i j : Nat} {xs ys : List V} (h1 : st.heap i = some (.list xs)) (h2 : st.heap j = some (.list ys)) (hl : xs.length + ys.length < 100000) : binV .Add (.ref i) (.ref j) st = .ok (.ref st.next) { st with heap := upd st.heap st.next (.list (xs ++ ys)), next := st.next + 1 } :=
 b_if (c := isAdd .Add = true) (m' := failM) rfl (b_ref (b_ref (bS (rdL_at h1) (bS (rdL_at h2) (b_if hl rfl)))))
theorem t_not {x : Expr} {p : Pos} {m : M V} {b : Bool} (h : denT P Φ ev x (denE P Φ ev x) st = .ok b s1) : denT P Φ ev (.UnaryOp .Not x p) m st = .ok (!b) s1 := bS h rfl
theorem d_orF {x : Expr} {r : List Expr} {q : R Bool} (h : denT P Φ ev x (denE P Φ ev x) st = .ok false s1) (h' : denBool P Φ ev .Or r s1 = q) : denBool P Φ ev .Or (x :: r) st = q := bS h h'
theorem d_last {x : Expr} {b : Bool} (h : denT P Φ ev x (denE P Φ ev x) st = .ok b s1) : denBool P Φ ev .Or [x] st = .ok b s1 := bS h (by cases b <;> rfl)
theorem t_or {l r : Expr} {p : Pos} {m : M V} {b : Bool} (h1 : denT P Φ ev l (denE P Φ ev l) st = .ok false s1) (h2 : denT P Φ ev r (denE P Φ ev r) s1 = .ok b s2) : denT P Φ ev (.BoolOp .Or [l, r] p) m st = .ok b s2 := d_orF h1 (d_last h2)
theorem t_or3 {l r q : Expr} {p : Pos} {m : M V} {b : Bool} (h1 : denT P Φ ev l (denE P Φ ev l) st = .ok false s1) (h2 : denT P Φ ev r (denE P Φ ev r) s1 = .ok false s2) (h3 : denT P Φ ev q (denE P Φ ev q) s2 = .ok b s3) : denT P Φ ev (.BoolOp .Or [l, r, q] p) m st = .ok b s3 := d_orF h1 (d_orF h2 (d_last h3))
theorem t_andF {l : Expr} {r : List Expr} {p : Pos} {m : M V} (h1 : denT P Φ ev l (denE P Φ ev l) st = .ok false s1) : denT P Φ ev (.BoolOp .And (l :: r) p) m st = .ok false s1 := bS h1 rfl
theorem tC {l r : Expr} {op : CmpOp} {p : Pos} {m : M V} {a b : V} {c : Bool} (h1 : denE P Φ ev l st = .ok a s1) (h2 : denE P Φ ev r s1 = .ok b s2) (h3 : compareV P Φ ev.hd op a b s2 = .ok (.bool c) s3) : denT P Φ ev (.Compare l [op] [r] p) m st = .ok c s3 := bS h1 (bS h2 (bS h3 rfl))
theorem t_cmp2 {l r q : Expr} {op op' : CmpOp} {p : Pos} {m : M V} {a b d : V} {c : Bool} {s4 : S} (h1 : denE P Φ ev l st = .ok a s1) (h2 : denE P Φ ev r s1 = .ok b s2) (h3 : compareV P Φ ev.hd op a b s2 = .ok (.bool true) s3) {s5 : S} (h4 : denE P Φ ev q s3 = .ok d s4) (h5 : compareV P Φ ev.hd op' b d s4 = .ok (.bool c) s5) :
  denT P Φ ev (.Compare l [op, op'] [r, q] p) m st = .ok c s5 := bS h1 (bS h2 (bS h3 (bS h4 (bS h5 rfl))))
theorem t_cmpF {l r q : Expr} {op op' : CmpOp} {p : Pos} {m : M V} {a b : V} (h1 : denE P Φ ev l st = .ok a s1) (h2 : denE P Φ ev r s1 = .ok b s2) (h3 : compareV P Φ ev.hd op a b s2 = .ok (.bool false) s3) :
  denT P Φ ev (.Compare l [op, op'] [r, q] p) m st = .ok false s3 := bS h1 (bS h2 (bS h3 rfl))
theorem t_call {f : Expr} {args : List Expr} {kws : List Keyword} {p : Pos} {m : M V} {b : Bool} (h : m st = .ok (.bool b) s1) : denT P Φ ev (.Call f args kws p) m st = .ok b s1 := bS h rfl
theorem sN : denSs P Φ ev [] st = .ok .next st := rfl
theorem sC {s : Stmt} {r : List Stmt} {x : R Flow} (h : denS P Φ ev s st = .ok .next s1) (h' : denSs P Φ ev r s1 = x) : denSs P Φ ev (s :: r) st = x := bS h h'
theorem sE {s : Stmt} {r : List Stmt} {v : V} (h : denS P Φ ev s st = .ok (.ret v) s1) : denSs P Φ ev (s :: r) st = .ok (.ret v) s1 := bS h rfl
theorem s_flies {s : Stmt} {r : List Stmt} {x : X} (h : denS P Φ ev s st = .exc x s1) : denSs P Φ ev (s :: r) st = .exc x s1 := b_bindx h
theorem s_ret {e : Expr} {p : Pos} {v : V} (h : denE P Φ ev e st = .ok v s1) : denS P Φ ev (.Return (some e) p) st = .ok (.ret v) s1 := bS h rfl
theorem s_retx {e : Expr} {p : Pos} {x : X} (h : denE P Φ ev e st = .exc x s1) : denS P Φ ev (.Return (some e) p) st = .exc x s1 := b_bindx h
theorem s_expr {e : Expr} {p : Pos} {v : V} (hc : (!isComp e) = true) (h : denE P Φ ev e st = .ok v s1) : denS P Φ ev (.Expr e p) st = .ok .next s1 := b_if hc (bS h rfl)
theorem s_ifT {t : Expr} {b o : List Stmt} {p : Pos} {x : R Flow} (h : denT P Φ ev t (denE P Φ ev t) st = .ok true s1) (h' : denSs P Φ ev b s1 = x) : denS P Φ ev (.If t b o p) st = x := bS h h'
theorem s_ifF {t : Expr} {b o : List Stmt} {p : Pos} {x : R Flow} (h : denT P Φ ev t (denE P Φ ev t) st = .ok false s1) (h' : denSs P Φ ev o s1 = x) : denS P Φ ev (.If t b o p) st = x := bS h h'
theorem s_contin {s : Stmt} {r : List Stmt} (h : denS P Φ ev s st = .ok .cont s1) : denSs P Φ ev (s :: r) st = .ok .cont s1 := bS h rfl
theorem sA {t v : Expr} {p : Pos} {a : V} (hp : (isTup v && isTup t) = false) (h : denE P Φ ev v st = .ok a s1) (h' : assignV P Φ ev t a s1 = .ok () s2) : denS P Φ ev (.Assign [t] v p) st = .ok .next s2 := b_ifn (c := (isTup v && isTup t) = true) (by rw [hp]; exact Bool.false_ne_true) (bS h (bS h' rfl))
theorem s_assignx {t v : Expr} {p : Pos} {a : V} {x : X} (hp : (isTup v && isTup t) = false) (h : denE P Φ ev v st = .ok a s1) (h' : assignV P Φ ev t a s1 = .exc x s2) : denS P Φ ev (.Assign [t] v p) st = .exc x s2 := b_ifn (c := (isTup v && isTup t) = true) (by rw [hp]; exact Bool.false_ne_true) (bS h (b_bindx h'))
theorem s_assigny {t v : Expr} {p : Pos} {x : X} (hp : (isTup v && isTup t) = false) (h : denE P Φ ev v st = .exc x s1) : denS P Φ ev (.Assign [t] v p) st = .exc x s1 := b_ifn (c := (isTup v && isTup t) = true) (by rw [hp]; exact Bool.false_ne_true) (b_bindx h)
theorem s_exprx {e : Expr} {p : Pos} {x : X} (hc : (!isComp e) = true) (h : denE P Φ ev e st = .exc x s1) : denS P Φ ev (.Expr e p) st = .exc x s1 := b_if hc (b_bindx h)
theorem s_aug {x : Str} {q p : Pos} {op : Operator} {e : Expr} {a b : Int} {c : V} {s4 : S} (h : loadV ev x st = .ok (.int a) s1) (h1 : denE P Φ ev e s1 = .ok (.int b) s2) (h2 : augI op a b s2 = .ok c s3) (h3 : storeV ev x c s3 = .ok () s4) : denS P Φ ev (.AugAssign (.Name x q) op e p) st = .ok .next s4 := bS h (bS h1 (bS (bG rfl) (bS h2 (bS h3 rfl))))
theorem s_assert {t : Expr} {p : Pos} {b : Bool} {r : R Flow} (hd : ev.hd = false) (h : denT P Φ ev t (denE P Φ ev t) st = .ok b s1) (h' : (if b = true then (pure .next : M Flow) else throwM .assertion) s1 = r) : denS P Φ ev (.Assert t none p) st = r := b_if (c := (none : Option Expr).isNone = true) (m' := failM) rfl (b_ifn (c := ev.hd = true) (by rw [hd]; exact Bool.false_ne_true) (bS h h'))
theorem a_tup {x y : Str} {q1 q2 p : Pos} {k : Nat} {i : Nat} {a b : V} (hx : ev.names.lookup x = some .local) (hy : ev.names.lookup y = some .local) (ha : st.heap i = some (.tup [a, b])) : assignV P Φ ev (.Tuple [.Name x q1, .Name y q2] k p) (.ref i) st = .ok () { st with loc := updL (updL st.loc x a) y b } :=
 b_ref (bS (bG (by unfold tupAt; rw [ha])) (bS (bG rfl) (bS (bT hx) (bT hy))))
theorem aN {x : Str} {p : Pos} {v : V} (h : ev.names.lookup x = some .local) : assignV P Φ ev (.Name x p) v st = .ok () { st with loc := updL st.loc x v } := bT h
theorem a_attr {o : Expr} {x : Str} {p : Pos} {i : Nat} {fs : List (Str × V)} {v : V} (h : denE P Φ ev o st = .ok (.ref i) s1) (ha : s1.heap i = some (.inst fs)) (hn : x ≠ wName) (hf : P.fields.contains x = true ∧ fs.length < 100) :
  assignV P Φ ev (.Attribute o x p) v st = .ok () { s1 with heap := upd s1.heap i (.inst (putR x v fs)) } := bS h (b_ref (bS (rdI_at ha) (b_ifn hn (b_if hf rfl))))
theorem a_attrW {o : Expr} {p : Pos} {i : Nat} {fs : List (Str × V)} {v w : V} (h : denE P Φ ev o st = .ok (.ref i) s1) (ha : s1.heap i = some (.inst fs)) (h' : callF P Φ ev.hd .setW [.ref i, v] [] s1 = .ok w s2) :
  assignV P Φ ev (.Attribute o "weight" p) v st = .ok () s2 := bS h (b_ref (bS (rdI_at ha) (b_if rfl (bS h' rfl))))
theorem a_attrWx {o : Expr} {p : Pos} {i : Nat} {fs : List (Str × V)} {v : V} {x : X} (h : denE P Φ ev o st = .ok (.ref i) s1) (ha : s1.heap i = some (.inst fs)) (h' : callF P Φ ev.hd .setW [.ref i, v] [] s1 = .exc x s2) :
  assignV P Φ ev (.Attribute o "weight" p) v st = .exc x s2 := bS h (b_ref (bS (rdI_at ha) (b_if rfl (b_bindx h'))))
theorem a_sub {o k : Expr} {p : Pos} {i : Nat} {kv v : V} {ob : AObj} (h : denE P Φ ev o st = .ok (.ref i) s1) (h1 : denE P Φ ev k s1 = .ok kv s2) (ha : s2.heap i = some ob) (hv : setO i ob kv v s2 = .ok () s3) :
  assignV P Φ ev (.Subscript o k p) v st = .ok () s3 := bS h (bS h1 (b_ref (bS (bG ha) hv)))
theorem so_list {i k : Nat} {xs : List V} {v : V} (hk : k < xs.length) (hl : k < 1000) : setO i (.list xs) (.int (k : Int)) v st = .ok () { st with heap := upd st.heap i (.list (xs.set k v)) } := bS (bG (nat_at hl)) (b_if hk rfl)
theorem so_dI {i ver : Nat} {es : List (Int × V)} {k : Int} {v : V} (hl : es.length < 1000) : setO i (.dictI es ver) (.int k) v st = .ok () { st with heap := upd st.heap i (.dictI (putF k v es) st.next), next := st.next + 1 } := bS (bG rfl) (b_if hl rfl)
theorem so_dS {i : Nat} {es : List (Str × V)} {k : Str} {v : V} (hl : es.length < 1000) : setO i (.dictS es) (.str k) v st = .ok () { st with heap := upd st.heap i (.dictS (putF k v es)) } := bS (bG rfl) (b_if hl rfl)
theorem s_raise {x : Str} {fp k1 k2 p : Pos} {k : Nat} (hg : isGlobal ev ("BadWeightError" : Str) = true ∧ ("BadWeightError" : Str) = ("BadWeightError" : Str) ∧ ev.hd = false ∧ (none : Option Expr).isNone = true) :
  denS P Φ ev (.Raise (some (.Call (.Name "BadWeightError" fp) [.Constant (.str x) k k1] [] k2)) none p) st = .exc .weight st := b_if (m := throwM .weight) (m' := failM) hg rfl
end
theorem gO {ev : AEnv} {f : Str} (h : ev.names.lookup f = some .globalImplicit) : isGlobal ev f = true := by
 unfold isGlobal
 rw [h]
theorem globE_of {ev : AEnv} {f : Str} {p : Pos} (h : ev.names.lookup f = some .globalImplicit) : globE ev (.Name f p) = some f := by
 show (if isGlobal ev f = true then some f else none) = _
 rw [if_pos (gO h)]
noncomputable def after (l : Str → Option V) : R Flow → R V
 | .fail => .fail
 | .ok f s' => .ok (backV f) { s' with loc := l }
 | .exc x s' => .exc x { s' with loc := l }
theorem body_r {P : PI} {Φ : Phi} {hd : Bool} {c : FnC} {vs : List V} {st : S} {r : R Flow} (hl : vs.length = c.params.length) (h : bodyR P Φ hd c (fun x => (c.params.zip vs).lookup x) st = r) : bodyM P Φ hd c vs st = after st.loc r := by
 unfold bodyM
 rw [if_pos hl, h]
 cases r <;> rfl
theorem body_0 {P : PI} {Φ : Phi} {hd : Bool} {c : FnC} {b : Str → Option V} {st : S} (hl : cellNs c.scope.names = []) : bodyR P Φ hd c b st = denSs P Φ { names := c.scope.names, cells := [], hd } c.body { st with loc := b } := by
 unfold bodyR
 rw [hl]
 rfl
theorem body_1 {P : PI} {Φ : Phi} {hd : Bool} {c : FnC} {b : Str → Option V} {st : S} {x : Str} (hl : cellNs c.scope.names = [x]) (hx : c.scope.names.lookup x = some .cell) :
  bodyR P Φ hd c b st = denSs P Φ { names := c.scope.names, cells := [(x, st.next)], hd } c.body { heap := upd st.heap st.next (.cell (b x)), next := st.next + 1, loc := fun y => if y = x then none else b y } := by
 unfold bodyR
 rw [hl]
 exact b_if hx rfl
theorem bO {P : PI} {Φ : Phi} {hd : Bool} {c : FnC} {vs : List V} {st s' : S} {f : Flow} (hl : vs.length = c.params.length ∧ cellNs c.scope.names = [])
  (h : denSs P Φ { names := c.scope.names, cells := [], hd } c.body { st with loc := fun x => (c.params.zip vs).lookup x } = .ok f s') : bodyM P Φ hd c vs st = .ok (backV f) { s' with loc := st.loc } := body_r hl.1 ((body_0 hl.2).trans h)
theorem body_exc {P : PI} {Φ : Phi} {hd : Bool} {c : FnC} {vs : List V} {st s' : S} {x : X} (hl : vs.length = c.params.length ∧ cellNs c.scope.names = [])
  (h : denSs P Φ { names := c.scope.names, cells := [], hd } c.body { st with loc := fun x => (c.params.zip vs).lookup x } = .exc x s') : bodyM P Φ hd c vs st = .exc x { s' with loc := st.loc } := body_r hl.1 ((body_0 hl.2).trans h)
theorem body_okC {P : PI} {Φ : Phi} {hd : Bool} {c : FnC} {vs : List V} {st s' : S} {f : Flow} {x : Str} (hl : vs.length = c.params.length) (hc : cellNs c.scope.names = [x]) (hx : c.scope.names.lookup x = some .cell)
  (h : denSs P Φ { names := c.scope.names, cells := [(x, st.next)], hd } c.body { heap := upd st.heap st.next (.cell ((c.params.zip vs).lookup x)), next := st.next + 1, loc := fun y => if y = x then none else (c.params.zip vs).lookup y } = .ok f s') : bodyM P Φ hd c vs st = .ok (backV f) { s' with loc := st.loc } := body_r hl ((body_1 hc hx).trans h)
end
section
section
variable {hd : Bool} {n a b : Nat} {st : S} {fa fb : List (Str × V)} {x y : Int}
theorem nm {names : List (Str × NameKind)} {cells : List (Str × Nat)} {x : Str} {k : Option NameKind} (h : names.lookup x = k) : (AEnv.mk names cells hd).names.lookup x = k := h
theorem b_cmpObj {P : PI} {Φ : Phi} {op : CmpOp} {nm : Str} {r : R V} (hv : isV op (.ref a) (.ref b) = none) (hn : cmpName op = some nm) (ha : st.heap a = some (.inst fa)) (hb : st.heap b = some (.inst fb)) (h : callF P Φ hd (.meth nm) [.ref a, .ref b] [] st = r) :
  compareV P Φ hd op (.ref a) (.ref b) st = r := by
 unfold compareV
 rw [hv]
 show cmpV P Φ hd op (.ref a) (.ref b) st = r
 unfold cmpV
 rw [if_pos (isInst_at ha), if_pos (by rw [isInst_at hb]; rfl), hn]
 exact h
theorem eq_run (ha : st.heap a = some (.inst fa)) (hb : st.heap b = some (.inst fb)) (hx : getR "stream_id" fa = some (.int x)) (hy : getR "stream_id" fb = some (.int y)) :
  bodyM pi01 (phi pi01 n) hd m_eq [.ref a, .ref b] st = .ok (.bool (x == y)) st := by
 refine bO (f := .ret (.bool (x == y))) (s' := { st with loc := fun x => (m_eq.params.zip [V.ref a, V.ref b]).lookup x }) ⟨rfl, by decide⟩ ?_
 refine sC (s_ifF (t_not (b := true) (t_call (b_isinst (gO (nm (by decide))) rfl (globE_of (nm (by decide))) (bN (by decide) (nm (by decide)) rfl) (b_isStream hb)))) sN) ?_
 exact sE (s_ret (b_cmp (bA rfl (bN (by decide) (nm (by decide)) rfl) ha (by decide) (by decide) hx) (bA rfl (bN (by decide) (nm (by decide)) rfl) hb (by decide) (by decide) hy) b_cmpEq))
theorem lt_run (ha : st.heap a = some (.inst fa)) (hb : st.heap b = some (.inst fb)) (hx : getR "stream_id" fa = some (.int x)) (hy : getR "stream_id" fb = some (.int y)) :
  bodyM pi01 (phi pi01 n) hd m_lt [.ref a, .ref b] st = .ok (.bool (decide (x < y))) st := by
 refine bO (f := .ret (.bool (decide (x < y)))) (s' := { st with loc := fun x => (m_lt.params.zip [V.ref a, V.ref b]).lookup x }) ⟨rfl, by decide⟩ ?_
 refine sC (s_ifF (t_not (b := true) (t_call (b_isinst (gO (nm (by decide))) rfl (globE_of (nm (by decide))) (bN (by decide) (nm (by decide)) rfl) (b_isStream hb)))) sN) ?_
 exact sE (s_ret (b_cmp (bA rfl (bN (by decide) (nm (by decide)) rfl) ha (by decide) (by decide) hx) (bA rfl (bN (by decide) (nm (by decide)) rfl) hb (by decide) (by decide) hy) b_cmpLt))
structure Itm (h : Nat → Option AObj) (t : Nat) (k : Int × Int) (a : Nat) (fs : List (Str × V)) : Prop where
 tup : h t = some (.tup [.int k.1, .ref a])
 inst : h a = some (.inst fs)
 id : getR "stream_id" fs = some (.int k.2)
noncomputable def lexLt (p q : Int × Int) : Bool := decide (p.1 < q.1 ∨ (p.1 = q.1 ∧ p.2 < q.2))
theorem sub_tup {P : PI} {Φ : Phi} {ev : AEnv} {x : Str} {q1 q2 p : Pos} {k : Nat} {t : Nat} {v w : V} (hn : ev.names.lookup x = some .local) (hd : x ≠ ("__debug__" : Str)) (hl : st.loc x = some (.ref t)) (ht : st.heap t = some (.tup [v, w])) :
  denE P Φ ev (.Subscript (.Name x q1) (.Constant (.int 0) k q2) p) st = .ok v st ∧ denE P Φ ev (.Subscript (.Name x q1) (.Constant (.int 1) k q2) p) st = .ok w st :=
 ⟨b_item rfl (fun _ _ => rfl) (bN hd hn hl) bI ht rfl, b_item rfl (fun _ _ => rfl) (bN hd hn hl) bI ht rfl⟩
theorem ahead_run {t t' : Nat} {k k' : Int × Int} (h1 : Itm st.heap t k a fa) (h2 : Itm st.heap t' k' b fb) : bodyM pi01 (phi pi01 (n + 1)) hd g_ahead [.ref t, .ref t'] st = .ok (.bool (lexLt k k')) st := by
 have l1 := fun (i : Nat) (q1 q2 p : Pos) => sub_tup (P := pi01) (Φ := phi pi01 (n + 1)) (ev := { names := g_ahead.scope.names, cells := [], hd }) (x := "one") (k := i) (q1 := q1) (q2 := q2) (p := p) (st := { st with loc := fun x => (g_ahead.params.zip [V.ref t, V.ref t']).lookup x }) (nm (by decide)) (by decide) rfl h1.tup
 have l2 := fun (i : Nat) (q1 q2 p : Pos) => sub_tup (P := pi01) (Φ := phi pi01 (n + 1)) (ev := { names := g_ahead.scope.names, cells := [], hd }) (x := "other") (k := i) (q1 := q1) (q2 := q2) (p := p) (st := { st with loc := fun x => (g_ahead.params.zip [V.ref t, V.ref t']).lookup x }) (nm (by decide)) (by decide) rfl h2.tup
 refine bO (f := .ret (.bool (lexLt k k'))) (s' := { st with loc := fun x => (g_ahead.params.zip [V.ref t, V.ref t']).lookup x }) ⟨rfl, by decide⟩ ?_
 by_cases h : k.1 = k'.1
 ·refine sC (s_ifF (tC (l1 _ _ _ _).1 (l2 _ _ _ _).1 (b_cmpNe.trans (by rw [h, beq_self_eq_true]; rfl))) sN) ?_
  refine sE (s_ret (b_cmp (l1 _ _ _ _).2 (l2 _ _ _ _).2 (b_cmpObj rfl rfl h1.inst h2.inst ?_)))
  refine (lt_run (hd := hd) (n := n) (st := ⟨st.heap, st.next, fun x => (g_ahead.params.zip [V.ref t, V.ref t']).lookup x⟩) h1.inst h2.inst h1.id h2.id).trans ?_
  unfold lexLt
  rw [h]
  simp
 ·refine sE (s_ifT (tC (l1 _ _ _ _).1 (l2 _ _ _ _).1 (b_cmpNe.trans (by rw [beq_eq_false_iff_ne.mpr h]; rfl))) (sE (s_ret (b_cmp (l1 _ _ _ _).1 (l2 _ _ _ _).1 (b_cmpLt.trans ?_)))))
  unfold lexLt
  simp [h]
theorem getW_run {v : V} (ha : st.heap a = some (.inst fa)) (hx : getR "_weight" fa = some v) : bodyM pi01 (phi pi01 n) hd m_getW [.ref a] st = .ok v st := by
 refine bO (f := .ret v) (s' := { st with loc := fun x => (m_getW.params.zip [V.ref a]).lookup x }) ⟨rfl, by decide⟩ ?_
 exact sE (s_ret (bA rfl (bN (by decide) (nm (by decide)) rfl) ha (by decide) (by decide) hx))
theorem setW_run {w : Int} (ha : st.heap a = some (.inst fa)) (hl : fa.length < 100) :
  (1 ≤ w ∧ w ≤ 256 → bodyM pi01 (phi pi01 n) false m_setW [.ref a, .int w] st = .ok .none { st with heap := upd st.heap a (.inst (putR "_weight" (.int w) fa)) }) ∧
  (¬ (1 ≤ w ∧ w ≤ 256) → bodyM pi01 (phi pi01 n) false m_setW [.ref a, .int w] st = .exc .weight st) := by
 have ev : m_setW.scope.names.lookup ("value" : Str) = some NameKind.local := by decide
 constructor
 ·intro h
  refine bO (f := .next) (s' := { st with heap := upd st.heap a (.inst (putR "_weight" (.int w) fa)), loc := fun x => (m_setW.params.zip [V.ref a, V.int w]).lookup x }) ⟨rfl, by decide⟩ ?_
  refine sC (s_ifF (t_not (b := true) (t_call (b_isinst (gO (nm (by decide))) rfl (globE_of (nm (by decide))) (bN (by decide) ev rfl) b_isInt))) (sC (s_ifF (t_not (b := true) (t_cmp2 bI (bN (by decide) ev rfl) (s3 := _) (by rw [b_cmpLe, decide_eq_true h.1]) bI (by rw [b_cmpLe, decide_eq_true h.2]))) sN) sN)) ?_
  exact sC (sA rfl (bN (by decide) ev rfl) (a_attr (bN (by decide) (nm (by decide)) rfl) ha (by decide) ⟨by decide, hl⟩)) sN
 ·intro h
  refine body_exc (s' := { st with loc := fun x => (m_setW.params.zip [V.ref a, V.int w]).lookup x }) ⟨rfl, by decide⟩ ?_
  refine s_flies (s_ifF (t_not (b := true) (t_call (b_isinst (gO (nm (by decide))) rfl (globE_of (nm (by decide))) (bN (by decide) ev rfl) b_isInt))) (s_flies (s_ifT ?_ (s_flies (s_raise ⟨by decide, rfl, rfl, rfl⟩)))))
  by_cases h1 : 1 ≤ w
  ·exact t_not (b := false) (t_cmp2 bI (bN (by decide) ev rfl) (by rw [b_cmpLe, decide_eq_true h1]) bI (by rw [b_cmpLe, decide_eq_false (fun h2 => h ⟨h1, h2⟩)]))
  ·exact t_not (b := false) (t_cmpF bI (bN (by decide) ev rfl) (by rw [b_cmpLe, decide_eq_false h1]))
theorem setW_no {v : V} (hv : isIntV v = false ∧ notIntV st.heap v = true) : bodyM pi01 (phi pi01 n) false m_setW [.ref a, v] st = .exc .weight st := by
 refine body_exc (s' := { st with loc := fun x => (m_setW.params.zip [V.ref a, v]).lookup x }) ⟨rfl, by decide⟩ ?_
 refine s_flies (s_ifT (t_not (b := false) (t_call (b_isinst (gO (nm (by decide))) rfl (globE_of (nm (by decide))) (bN (by decide) (nm (by decide)) rfl) ?_))) (s_flies (s_raise ⟨by decide, rfl, rfl, rfl⟩)))
 show (if isIntV v = true then R.ok (V.bool true) _ else if notIntV st.heap v = true then .ok (.bool false) _ else .fail) = _
 rw [hv.1, hv.2]
 rfl
theorem hpop_run {q : Nat} {v : V} {xs : List V} (hq : st.heap q = some (.list (v :: xs))) (hl : xs.length < 100000) : bodyM pi01 (phi pi01 n) hd g_pop [.ref q] st = .ok v { st with heap := upd st.heap q (.list xs) } := by
 refine bO (f := .ret v) (s' := { st with heap := upd st.heap q (.list xs), loc := fun x => (g_pop.params.zip [V.ref q]).lookup x }) ⟨rfl, by decide⟩ ?_
 exact sE (s_ret (b_methO (k := .lpop) (ob := .list (v :: xs)) (by decide) rfl (bN (by decide) (nm (by decide)) rfl) hq rfl (bC bI bE) (bS (bG rfl) (b_if rfl (pop_at hq hl)))))
theorem hpop_none {q : Nat} (hq : st.heap q = some (.list [])) : bodyM pi01 (phi pi01 n) false g_pop [.ref q] st = .exc .index st := by
 refine body_exc (s' := { st with loc := fun x => (g_pop.params.zip [V.ref q]).lookup x }) ⟨rfl, by decide⟩ ?_
 exact s_flies (s_retx (b_methO (k := .lpop) (ob := .list []) (by decide) rfl (bN (by decide) (nm (by decide)) rfl) hq rfl (bC bI bE) (bS (bG rfl) (b_if rfl (pop_none hq)))))
end
end
section
theorem lenOf {i : Nat} {xs : List V} {st : S} (h : st.heap i = some (.list xs)) (hl : xs.length < 100000) : lenV (.ref i) st = .ok (.int xs.length) st := b_ref (bS (rdL_at h) (b_if hl rfl))
theorem b_subE {x y z : Int} {st : S} (h : x - y = z) : binV .Sub (.int x) (.int y) st = .ok (.int z) st := by rw [← h]; rfl
theorem upd_upd {α : Type} {f : Nat → Option α} {i : Nat} {o o' : α} : upd (upd f i o) i o' = upd f i o' := by
 funext j
 unfold upd
 split <;> rfl
theorem updL_updL {l : Str → Option V} {x : Str} {v w : V} : updL (updL l x v) x w = updL l x w := by
 funext y
 unfold updL
 split <;> rfl
noncomputable def Itms (h : Nat → Option AObj) (ad : Int → Nat) : List Nat → List (Int × Int) → Prop
 | [], [] => True
 | x :: xs, k :: ks => h x = some (.tup [.int k.1, .ref (ad k.2)]) ∧ Itms h ad xs ks
 | _, _ => False
noncomputable def IdAt (h : Nat → Option AObj) (ad : Int → Nat) (c : Int) : Prop := ∃ fs, h (ad c) = some (.inst fs) ∧ getR "stream_id" fs = some (.int c)
section
variable {h : Nat → Option AObj} {ad : Int → Nat}
theorem Itms.length : ∀ {xs : List Nat} {ks : List (Int × Int)}, Itms h ad xs ks → xs.length = ks.length
 | [], [], _ => rfl
 | _ :: _, _ :: _, h => congrArg (· + 1) (Itms.length h.2)
 | [], _ :: _, h => h.elim
 | _ :: _, [], h => h.elim
theorem Itms.get : ∀ {xs : List Nat} {ks : List (Int × Int)} {i : Nat} {k : Int × Int}, Itms h ad xs ks → ks[i]? = some k → ∃ x, xs[i]? = some x ∧ h x = some (.tup [.int k.1, .ref (ad k.2)])
 | x :: _, k :: _, 0, _, h, e => by obtain rfl := sj e; exact ⟨x, rfl, h.1⟩
 | _ :: xs, _ :: ks, i + 1, _, h, e => Itms.get (xs := xs) (ks := ks) (i := i) h.2 e
 | [], [], _, _, _, e => by simp at e
 | [], _ :: _, _, _, h, _ => h.elim
 | _ :: _, [], _, _, h, _ => h.elim
theorem Itms.take : ∀ {i : Nat} {xs : List Nat} {ks : List (Int × Int)}, Itms h ad xs ks → Itms h ad (xs.take i) (ks.take i)
 | 0, _, _, _ => by rw [List.take_zero, List.take_zero]; trivial
 | _ + 1, [], [], _ => trivial
 | i + 1, _ :: _, _ :: _, h => ⟨h.1, Itms.take (i := i) h.2⟩
 | _ + 1, [], _ :: _, h => h.elim
 | _ + 1, _ :: _, [], h => h.elim
theorem Itms.drop : ∀ {i : Nat} {xs : List Nat} {ks : List (Int × Int)}, Itms h ad xs ks → Itms h ad (xs.drop i) (ks.drop i)
 | 0, _, _, h => h
 | _ + 1, [], [], _ => trivial
 | i + 1, _ :: _, _ :: _, h => Itms.drop (i := i) h.2
 | _ + 1, [], _ :: _, h => h.elim
 | _ + 1, _ :: _, [], h => h.elim
theorem Itms.append : ∀ {xs ys : List Nat} {ks ls : List (Int × Int)}, Itms h ad xs ks → Itms h ad ys ls → Itms h ad (xs ++ ys) (ks ++ ls)
 | [], _, [], _, _, h' => h'
 | _ :: _, _, _ :: _, _, h, h' => ⟨h.1, Itms.append h.2 h'⟩
 | [], _, _ :: _, _, h, _ => h.elim
 | _ :: _, _, [], _, h, _ => h.elim
theorem Itms.mono {h' : Nat → Option AObj} (hk : ∀ x v, h x = some (.tup v) → h' x = some (.tup v)) : ∀ {xs : List Nat} {ks : List (Int × Int)}, Itms h ad xs ks → Itms h' ad xs ks
 | [], [], _ => trivial
 | _ :: _, _ :: _, h => ⟨hk _ _ h.1, Itms.mono hk h.2⟩
 | [], _ :: _, h => h.elim
 | _ :: _, [], h => h.elim
theorem Itms.insert {i t : Nat} {k : Int × Int} {xs : List Nat} {ks : List (Int × Int)} (H : Itms h ad xs ks) (ht : h t = some (.tup [.int k.1, .ref (ad k.2)])) : Itms h ad (xs.take i ++ t :: xs.drop i) (ks.take i ++ k :: ks.drop i) := H.take.append ⟨ht, H.drop⟩
end
section
variable {hd : Bool} {n q t : Nat} {h : Nat → Option AObj} {ad : Int → Nat} {nx : Nat} {l0 : Str → Option V}
noncomputable abbrev evP (hd : Bool) : AEnv := { names := g_push.scope.names, cells := [], hd }
noncomputable def pushW : Stmt := g_push.body.getD 2 (.Pass default)
noncomputable def parts : Stmt → Expr × List Stmt × List Stmt
 | .While t b _ _ => (t, b, [])
 | .If t b o _ => (t, b, o)
 | .Try b _ _ f _ => (.Constant .none 0 default, b, f)
 | .For _ it b _ _ => (it, b, [])
 | .Assign _ v _ => (v, [], [])
 | _ => (.Constant .none 0 default, [], [])
noncomputable def whileT (s : Stmt) : Expr := (parts s).1
noncomputable def whileB (s : Stmt) : List Stmt := (parts s).2.1
theorem take_s {xs : List Nat} {m : Nat} (hm : m < xs.length) (y : Nat) : (xs.take (m + 1) ++ y :: xs.drop (m + 1)).set (m + 1) xs[m] = xs.take m ++ xs[m] :: xs.drop m := by
 have e1 : xs.take (m + 1) = xs.take m ++ [xs[m]] := by rw [List.take_add_one, List.getElem?_eq_getElem hm]; rfl
 have e2 : xs.drop m = xs[m] :: xs.drop (m + 1) := by rw [List.drop_eq_getElem_cons hm]
 have l : (xs.take (m + 1)).length = m + 1 := by rw [List.length_take]; lia
 rw [List.set_append_right _ _ (by lia), l, Nat.sub_self, e2, e1, List.append_assoc]
 rfl
theorem push_test {L : List Nat} {p : Nat} (hq : l0 "queue" = some (.ref q)) (hi : l0 "item" = some (.ref t)) {b : Bool}
  (h0 : p = 0 → b = false) (h1 : ∀ m, p = m + 1 → ∃ x, L[m]? = some x ∧ m < 1000 ∧ bodyM pi01 (phi pi01 (n + 1)) hd g_ahead [.ref t, .ref x] ⟨upd h q (.list (L.map .ref)), nx, updL l0 "place" (.int (p : Int))⟩ = .ok (.bool b) ⟨upd h q (.list (L.map .ref)), nx, updL l0 "place" (.int (p : Int))⟩) :
  denT pi01 (phi pi01 (n + 2)) (evP hd) (whileT pushW) (denE pi01 (phi pi01 (n + 2)) (evP hd) (whileT pushW)) ⟨upd h q (.list (L.map .ref)), nx, updL l0 "place" (.int (p : Int))⟩ = .ok b ⟨upd h q (.list (L.map .ref)), nx, updL l0 "place" (.int (p : Int))⟩ := by
 have np : ∀ {pp : Pos}, denE pi01 (phi pi01 (n + 2)) (evP hd) (.Name "place" pp) ⟨upd h q (.list (L.map .ref)), nx, updL l0 "place" (.int (p : Int))⟩ = .ok (.int (p : Int)) ⟨upd h q (.list (L.map .ref)), nx, updL l0 "place" (.int (p : Int))⟩ := bN (by decide) (nm (by decide)) cS
 cases p with
 | zero => rw [h0 rfl]; exact t_andF (tC np bI rfl)
 | succ m =>
  obtain ⟨x, hx, hm, hb⟩ := h1 m rfl
  refine bS (tC np bI (b_cmpGt.trans (by rw [decide_eq_true (by lia)]))) ?_
  refine bS (t_call (bK (gO (nm (by decide))) rfl (by decide) (by decide) (bC (bN (by decide) (nm (by decide)) ((cO (by decide)).trans hi)) (bC (b_item rfl (fun _ _ => rfl) (bN (by decide) (nm (by decide)) ((cO (by decide)).trans hq)) (bB np bI b_sub) (uS _ _ _) (v := .ref x) ?_) bE)) hb)) (by cases b <;> rfl)
  rw [show (((m + 1 : Nat) : Int) - 1) = (m : Int) by lia]
  exact su_list hm (by rw [List.getElem?_map, hx]; rfl)
theorem push_loop {xs : List Nat} {ks : List (Int × Int)} {k : Int × Int} {lq : List V} (hq : l0 "queue" = some (.ref q)) (hi : l0 "item" = some (.ref t)) (hhq : h q = some (.list lq)) (I : Itms h ad xs ks) (D : ∀ c ∈ ks, IdAt h ad c.2) (ht : h t = some (.tup [.int k.1, .ref (ad k.2)])) (Dk : IdAt h ad k.2) (hlen : xs.length < 1000) :
  ∀ (fuel j p : Nat) (y : Nat), p < fuel → p ≤ xs.length → (∀ i c, p ≤ i → ks[i]? = some c → lexLt k c = true) →
  ∃ p' y', loopD fuel (fun _ => denT pi01 (phi pi01 (n + 2)) (evP hd) (whileT pushW) (denE pi01 (phi pi01 (n + 2)) (evP hd) (whileT pushW))) (denSs pi01 (phi pi01 (n + 2)) (evP hd) (whileB pushW)) j ⟨upd h q (.list ((xs.take p ++ y :: xs.drop p).map .ref)), nx, updL l0 "place" (.int (p : Int))⟩ =
    .ok .next ⟨upd h q (.list ((xs.take p' ++ y' :: xs.drop p').map .ref)), nx, updL l0 "place" (.int (p' : Int))⟩ ∧ p' ≤ xs.length ∧ (∀ i c, p' ≤ i → ks[i]? = some c → lexLt k c = true) ∧ (∀ m c, p' = m + 1 → ks[m]? = some c → lexLt k c = false)
 | 0, _, _, _, hf, _, _ => absurd hf (Nat.not_lt_zero _)
 | fuel + 1, j, p, y, hf, hp, hs => by
  have tt : ∀ {x : Nat} {v : List V}, h x = some (.tup v) → x ≠ q := fun e => by rintro rfl; rw [hhq] at e; nomatch e
  have ii : ∀ {x : Nat} {v : List (Str × V)}, h x = some (.inst v) → x ≠ q := fun e => by rintro rfl; rw [hhq] at e; nomatch e
  have hl := I.length
  cases p with
  | zero => exact ⟨0, y, bS (push_test hq hi (b := false) (fun _ => rfl) fun m e => (by contradiction)) (b_ifn Bool.false_ne_true rfl), hp, hs, fun m c e => (by contradiction)⟩
  | succ m =>
   have hm : m < xs.length := hp
   have hmk : m < ks.length := hl ▸ hm
   obtain ⟨x, hx, hxt⟩ := I.get (List.getElem?_eq_getElem hmk)
   obtain ⟨fs, f1, f2⟩ := D ks[m] (List.getElem_mem hmk)
   obtain ⟨gs, g1, g2⟩ := id Dk
   have hx' : x = xs[m] := by rw [List.getElem?_eq_getElem hm] at hx; exact (sj hx).symm
   have test := push_test (n := n) (hd := hd) (h := h) (nx := nx) (L := xs.take (m + 1) ++ y :: xs.drop (m + 1)) (p := m + 1) hq hi (b := lexLt k ks[m]) (fun e => (by contradiction)) fun m' e => by
    obtain rfl : m = m' := by lia
    refine ⟨x, ?_, by lia, ahead_run ⟨(uO (tt ht)).trans ht, (uO (ii g1)).trans g1, g2⟩ ⟨(uO (tt hxt)).trans hxt, (uO (ii f1)).trans f1, f2⟩⟩
    rw [List.getElem?_append_left (by rw [List.length_take]; lia), List.getElem?_take_of_lt (by lia), hx]
   cases hb : lexLt k ks[m] with
   | false =>
    rw [hb] at test
    refine ⟨m + 1, y, bS test (b_ifn Bool.false_ne_true rfl), hp, hs, fun m' c e e' => ?_⟩
    obtain rfl : m = m' := by lia
    rw [List.getElem?_eq_getElem hmk] at e'
    obtain rfl := sj e'
    exact hb
   | true =>
    rw [hb] at test
    obtain ⟨p', y', r1, r2⟩ := push_loop hq hi hhq I D ht Dk hlen fuel (j + 1) m xs[m] (by lia) (by lia) fun i c h1 h2 => by
     by_cases e : i = m
     ·subst e; rw [List.getElem?_eq_getElem hmk] at h2; obtain rfl := sj h2; exact hb
     ·exact hs i c (by lia) h2
    refine ⟨p', y', bS test (b_if rfl (bS (a := (Mine.Flow.next)) ?_ r1)), r2⟩
    have np : ∀ {o : AObj} {pp : Pos}, denE pi01 (phi pi01 (n + 2)) (evP hd) (.Name "place" pp) ⟨upd h q o, nx, updL l0 "place" (.int ((m + 1 : Nat) : Int))⟩ = .ok (.int ((m + 1 : Nat) : Int)) ⟨upd h q o, nx, updL l0 "place" (.int ((m + 1 : Nat) : Int))⟩ := bN (by decide) (nm (by decide)) cS
    have nq : ∀ {o : AObj} {pp : Pos}, denE pi01 (phi pi01 (n + 2)) (evP hd) (.Name "queue" pp) ⟨upd h q o, nx, updL l0 "place" (.int ((m + 1 : Nat) : Int))⟩ = .ok (.ref q) ⟨upd h q o, nx, updL l0 "place" (.int ((m + 1 : Nat) : Int))⟩ := bN (by decide) (nm (by decide)) ((cO (by decide)).trans hq)
    refine sC (sA (a := .ref xs[m]) rfl (b_item rfl (fun _ _ => rfl) nq (bB np bI b_sub) (uS _ _ _) ?_) (a_sub nq np (uS _ _ _) (so_list (k := m + 1) ?_ (by lia)))) (sC (s_aug (b_load (by decide) (nm (by decide)) cS) bI rfl (bT (nm (by decide)))) ?_)
    ·rw [show (((m + 1 : Nat) : Int) - 1) = (m : Int) by lia]
     refine su_list (by lia) ?_
     rw [List.getElem?_map, List.getElem?_append_left (by rw [List.length_take]; lia), List.getElem?_take_of_lt (by lia), List.getElem?_eq_getElem hm]
     rfl
    ·rw [List.length_map, List.length_append, List.length_take, List.length_cons, List.length_drop]; lia
    ·have e1 := take_s hm y
     rw [upd_upd, updL_updL, ← List.map_set, e1, show (((m + 1 : Nat) : Int) - 1) = (m : Int) by lia]
     rfl
theorem push_run {xs : List Nat} {ks : List (Int × Int)} {k : Int × Int} {st : S} (hhq : st.heap q = some (.list (xs.map .ref))) (I : Itms st.heap ad xs ks) (D : ∀ c ∈ ks, IdAt st.heap ad c.2) (ht : st.heap t = some (.tup [.int k.1, .ref (ad k.2)])) (Dk : IdAt st.heap ad k.2) (hlen : xs.length < 99) :
  ∃ p, bodyM pi01 (phi pi01 (n + 2)) hd g_push [.ref q, .ref t] st = .ok .none { st with heap := upd st.heap q (.list ((xs.take p ++ t :: xs.drop p).map .ref)) } ∧ p ≤ ks.length ∧ (∀ i c, p ≤ i → ks[i]? = some c → lexLt k c = true) ∧ (∀ m c, p = m + 1 → ks[m]? = some c → lexLt k c = false) := by
 have hl := I.length
 obtain ⟨p, y, r1, r2, r3, r4⟩ := push_loop (n := n) (hd := hd) (nx := st.next) (l0 := fun x => (g_push.params.zip [V.ref q, V.ref t]).lookup x) rfl rfl hhq I D ht Dk (by lia) wlim 0 xs.length t (by show xs.length < 100; lia) (Nat.le_refl _) fun i c h1 h2 => by
  rw [List.getElem?_eq_none (by lia)] at h2; exact zN h2
 rw [List.take_length, List.drop_length] at r1
 refine ⟨p, ?_, hl ▸ r2, r3, r4⟩
 refine (bO (f := .next) (s' := ⟨upd st.heap q (.list ((xs.take p ++ t :: xs.drop p).map .ref)), st.next, updL (fun x => (g_push.params.zip [V.ref q, V.ref t]).lookup x) "place" (.int (p : Int))⟩) ⟨rfl, by decide⟩ ?_)
 have nq : ∀ {o : Nat → Option AObj} {pp : Pos}, denE pi01 (phi pi01 (n + 2)) (evP hd) (.Name "queue" pp) ⟨o, st.next, fun x => (g_push.params.zip [V.ref q, V.ref t]).lookup x⟩ = .ok (.ref q) ⟨o, st.next, fun x => (g_push.params.zip [V.ref q, V.ref t]).lookup x⟩ := bN (by decide) (nm (by decide)) rfl
 refine sC (s_expr rfl (b_append (by decide) rfl nq hhq (bC (bN (by decide) (nm (by decide)) rfl) bE) hhq (by rw [List.length_map]; lia))) ?_
 refine sC (sA rfl (bB (bK (gO (nm (by decide))) rfl (by decide) (by decide) (bC nq bE) (lenOf (uS _ _ _) (by rw [List.length_append, List.length_map]; show xs.length + 1 < 100000; lia))) bI (b_subE (z := (xs.length : Int)) (by rw [List.length_append, List.length_map]; show ((xs.length + 1 : Nat) : Int) - 1 = _; lia))) (aN (nm (by decide)))) ?_
 refine sC (b_if (c := ([] : List Stmt).isEmpty = true) (m' := failM) rfl ((by rw [List.map_append] at r1; exact r1))) ?_
 have e : (xs.take p ++ y :: xs.drop p).set p t = xs.take p ++ t :: xs.drop p := by
  have l : (xs.take p).length = p := by rw [List.length_take]; lia
  rw [List.set_append_right _ _ (by lia), l, Nat.sub_self]
  rfl
 refine sC (sA (a := .ref t) rfl (bN (by decide) (nm (by decide)) ((cO (by decide)).trans rfl)) (a_sub (bN (by decide) (nm (by decide)) ((cO (by decide)).trans rfl)) (bN (by decide) (nm (by decide)) cS) (uS _ _ _) (so_list ?_ (by lia)))) ?_
 ·rw [List.length_map, List.length_append, List.length_take, List.length_cons, List.length_drop]; lia
 ·rw [upd_upd, ← List.map_set, e]
  rfl
end
end
section
set_option genInjectivity false in
structure Tab where
 nums : List Int
 w : Int → Int
 able : Int → Bool
 par : Int → Option Int
 kids : Int → List Int
 lev : Int → Int
 over : Int → Int
 last : Int → Int
noncomputable def fset {α : Type} (f : Int → α) (k : Int) (v : α) : Int → α := fun j => if j = k then v else f j
theorem fS {α : Type} {f : Int → α} {k : Int} {v : α} : fset f k v k = v := if_pos rfl
theorem fO {α : Type} {f : Int → α} {k j : Int} {v : α} (h : j ≠ k) : fset f k v j = f j := if_neg h
set_option genInjectivity false in
inductive Rl where
 | A (k : Int) | ch (k : Int) | cq (k : Int)
 deriving DecidableEq
noncomputable def Rl.key : Rl → Int
 | .A k => k
 | .ch k => k
 | .cq k => k
noncomputable def sf (k w : Int) (ch : Nat) (p : V) (cq : Nat) (b : Bool) (la ov : Int) : List (Str × V) :=
 [("stream_id", .int k), ("_weight", .int w), ("children", .ref ch), ("parent", p), ("child_queue", .ref cq), ("active", .bool b), ("last_weight", .int la), ("_deficit", .int ov)]
noncomputable def parV (L : Rl → Nat) : Option Int → V
 | none => .none
 | some p => .ref (L (.A p))
noncomputable def sfs (T : Tab) (L : Rl → Nat) (k : Int) : List (Str × V) := sf k (T.w k) (L (.ch k)) (parV L (T.par k)) (L (.cq k)) (T.able k) (T.last k) (T.over k)
noncomputable def CC (T : Tab) (L : Rl → Nat) (Q : Int → List (Int × Int)) (own : Nat → Prop) (h : Nat → Option AObj) (nx : Nat) : Rl → Prop
 | .A k => h (L (.A k)) = some (.inst (sfs T L k))
 | .ch k => h (L (.ch k)) = some (.list ((T.kids k).map fun c => .ref (L (.A c))))
 | .cq k => ∃ xs, h (L (.cq k)) = some (.list (xs.map .ref)) ∧ Itms h (fun c => L (.A c)) xs (Q k) ∧ ∀ x ∈ xs, x < nx ∧ own x
noncomputable def Srt (T : Tab) (q : List (Int × Int)) : Prop := q.Pairwise (fun a b => lexLt a b = true) ∧ (∀ c ∈ q, c.2 ∈ T.nums) ∧ q.length ≤ 40
structure SS (T : Tab) (L : Rl → Nat) (Q : Int → List (Int × Int)) (own : Nat → Prop) (h : Nat → Option AObj) (nx : Nat) : Prop where
 cc : ∀ r, r.key ∈ T.nums → CC T L Q own h nx r
 at_ : ∀ r, r.key ∈ T.nums → L r < nx ∧ own (L r)
 inj : ∀ r r', r.key ∈ T.nums → r'.key ∈ T.nums → L r = L r' → r = r'
 srt : ∀ k ∈ T.nums, Srt T (Q k)
 few : ∀ k ∈ T.nums, (T.kids k).length ≤ 40
section
variable {T T' : Tab} {L L' : Rl → Nat} {Q Q' : Int → List (Int × Int)} {own own' : Nat → Prop} {h h' : Nat → Option AObj} {nx nx' : Nat}
theorem SS.id (H : SS T L Q own h nx) {k : Int} (hk : k ∈ T.nums) : IdAt h (fun c => L (.A c)) k := ⟨_, H.cc (.A k) hk, rfl⟩
theorem SS.notup (H : SS T L Q own h nx) {r : Rl} (hr : r.key ∈ T.nums) {x : Nat} {v : List V} (hx : h x = some (.tup v)) : x ≠ L r := by
 rintro rfl
 cases r with
 | A k => rw [H.cc (.A k) hr] at hx; nomatch hx
 | ch k => rw [H.cc (.ch k) hr] at hx; nomatch hx
 | cq k => obtain ⟨xs, e, _⟩ := H.cc (.cq k) hr; rw [e] at hx; nomatch hx
theorem SS.grow (H : SS T L Q own h nx) (hk : ∀ a, a < nx → own a → h' a = h a) (hn : nx ≤ nx') (ho : ∀ a, own a → own' a) : SS T L Q own' h' nx' where
 cc := fun r hr => by
  have e := hk _ (H.at_ r hr).1 (H.at_ r hr).2
  cases r with
  | A k => exact e.trans (H.cc (.A k) hr)
  | ch k => exact e.trans (H.cc (.ch k) hr)
  | cq k =>
   obtain ⟨xs, a, b, c⟩ := H.cc (.cq k) hr
   refine ⟨xs, e.trans a, ?_, fun x hx => ⟨ltl (c x hx).1 hn, ho _ (c x hx).2⟩⟩
   have go : ∀ (xs : List Nat) (ks : List (Int × Int)), (∀ x ∈ xs, x < nx ∧ own x) → Itms h (fun c => L (.A c)) xs ks → Itms h' (fun c => L (.A c)) xs ks := by
    intro xs
    induction xs with
    | nil => intro ks _ hi; exact (by cases ks with | nil => trivial | cons _ _ => exact hi.elim)
    | cons x xs ih =>
     intro ks hx hi
     cases ks with
     | nil => exact hi.elim
     | cons k ks => exact ⟨(hk x (hx x (.head _)).1 (hx x (.head _)).2).trans hi.1, ih ks (fun y hy => hx y (.tail _ hy)) hi.2⟩
   exact go xs _ c b
 at_ := fun r hr => ⟨ltl (H.at_ r hr).1 hn, ho _ (H.at_ r hr).2⟩
 inj := H.inj
 srt := H.srt
 few := H.few
theorem SS.write (H : SS T L Q own h nx) {r0 : Rl} (h0 : r0.key ∈ T.nums) {o : AObj} (hn : T'.nums = T.nums)
  (same : ∀ r, r.key ∈ T.nums → r ≠ r0 → CC T L Q own (upd h (L r0) o) nx r → CC T' L Q' own (upd h (L r0) o) nx r) (new : CC T' L Q' own (upd h (L r0) o) nx r0)
  (srt : ∀ k ∈ T.nums, Srt T (Q' k)) (few : ∀ k ∈ T.nums, (T'.kids k).length ≤ 40) : SS T' L Q' own (upd h (L r0) o) nx where
 cc := fun r hr => by
  rw [hn] at hr
  by_cases e : r = r0
  ·subst e; exact new
  ·have ne : L r ≠ L r0 := fun q => e (H.inj r r0 hr h0 q)
   refine same r hr e ?_
   cases r with
   | A k => exact (uO ne).trans (H.cc (.A k) hr)
   | ch k => exact (uO ne).trans (H.cc (.ch k) hr)
   | cq k =>
    obtain ⟨xs, a, b, c⟩ := H.cc (.cq k) hr
    exact ⟨xs, (uO ne).trans a, b.mono fun x v hx => (uO (H.notup h0 hx)).trans hx, c⟩
 at_ := fun r hr => H.at_ r (hn ▸ hr)
 inj := fun r r' hr hr' => H.inj r r' (hn ▸ hr) (hn ▸ hr')
 srt := fun k hk => by unfold Srt; rw [hn]; exact srt k (hn ▸ hk)
 few := fun k hk => few k (hn ▸ hk)
theorem CC.data (hs : ∀ k, sfs T' L k = sfs T L k) (hk : ∀ k, T'.kids k = T.kids k) (hq : ∀ k, Q' k = Q k) : ∀ {r : Rl}, CC T L Q own h nx r → CC T' L Q' own h nx r
 | .A k, H => by show _ = some (AObj.inst (sfs T' L k)); rw [hs]; exact H
 | .ch k, H => by show _ = some (AObj.list ((T'.kids k).map _)); rw [hk]; exact H
 | .cq k, H => by
  obtain ⟨xs, a, b, c⟩ := H
  exact ⟨xs, a, by rw [hq]; exact b, c⟩
theorem SS.inst (H : SS T L Q own h nx) {k : Int} (hk : k ∈ T.nums) (hn : T'.nums = T.nums) (hkid : T'.kids = T.kids) (hs : ∀ j, j ≠ k → sfs T' L j = sfs T L j) {fs : List (Str × V)} (hf : fs = sfs T' L k) : SS T' L Q own (upd h (L (.A k)) (.inst fs)) nx :=
 H.write (r0 := .A k) hk hn (fun r hr ne C => by
  cases r with
  | A j =>
   show _ = some (AObj.inst (sfs T' L j))
   rw [hs j fun e => ne (by rw [e])]
   exact C
  | ch j => show _ = some (AObj.list ((T'.kids j).map _)); rw [hkid]; exact C
  | cq j => exact C) (by rw [hf]; exact uS _ _ _) H.srt (hkid ▸ H.few)
theorem SS.kid (H : SS T L Q own h nx) {k : Int} (hk : k ∈ T.nums) {cs : List Int} (hl : cs.length ≤ 40) : SS { T with kids := fset T.kids k cs } L Q own (upd h (L (.ch k)) (.list (cs.map fun c => .ref (L (.A c))))) nx :=
 H.write (r0 := .ch k) hk rfl (fun r hr ne C => by
  cases r with
  | A j => exact C
  | ch j =>
   show _ = some (AObj.list ((fset T.kids k cs j).map _))
   rw [fO fun e => ne (by rw [e])]
   exact C
  | cq j => exact C) (by show _ = some (AObj.list ((fset T.kids k cs k).map _)); rw [fS]; exact uS _ _ _) H.srt fun j hj => by
   by_cases e : j = k
   ·subst e; show (fset T.kids j cs j).length ≤ 40; rw [fS]; exact hl
   ·show (fset T.kids k cs j).length ≤ 40; rw [fO e]; exact H.few j hj
theorem SS.que (H : SS T L Q own h nx) {k : Int} (hk : k ∈ T.nums) {xs : List Nat} {q : List (Int × Int)} (hi : Itms h (fun c => L (.A c)) xs q) (hx : ∀ x ∈ xs, x < nx ∧ own x) (hq : Srt T q) : SS T L (fset Q k q) own (upd h (L (.cq k)) (.list (xs.map .ref))) nx :=
 H.write (r0 := .cq k) hk rfl (fun r hr ne C => by
  cases r with
  | A j => exact C
  | ch j => exact C
  | cq j =>
   obtain ⟨ys, a, b, c⟩ := C
   exact ⟨ys, a, by rw [fO fun e => ne (by rw [e])]; exact b, c⟩) ⟨xs, uS _ _ _, by rw [fS]; exact hi.mono fun x v e => (uO (H.notup (r := .cq k) hk e)).trans e, hx⟩ (fun j hj => by
   by_cases e : j = k
   ·subst e; rw [fS]; exact hq
   ·rw [fO e]; exact H.srt j hj) H.few
theorem SS.data (H : SS T L Q own h nx) (hn : T'.nums = T.nums) (hs : ∀ k, sfs T' L k = sfs T L k) (hk : T'.kids = T.kids) : SS T' L Q own h nx where
 cc := fun r hr => (H.cc r (hn ▸ hr)).data hs (fun k => by rw [hk]) fun _ => rfl
 at_ := fun r hr => H.at_ r (hn ▸ hr)
 inj := fun r r' hr hr' => H.inj r r' (hn ▸ hr) (hn ▸ hr')
 srt := fun k hq => by unfold Srt; rw [hn]; exact H.srt k (hn ▸ hq)
 few := fun k hq => by rw [hk]; exact H.few k (hn ▸ hq)
end
theorem ins_sorted {ks : List (Int × Int)} {k : Int × Int} {p : Nat} (hs : ks.Pairwise (fun a b => lexLt a b = true)) (hp : p ≤ ks.length) (h1 : ∀ i c, p ≤ i → ks[i]? = some c → lexLt k c = true) (h2 : ∀ m c, p = m + 1 → ks[m]? = some c → lexLt k c = false) (hne : ∀ c ∈ ks, c.2 ≠ k.2) :
  (ks.take p ++ k :: ks.drop p).Pairwise (fun a b => lexLt a b = true) ∧ (ks.take p ++ k :: ks.drop p).Perm (k :: ks) := by
 have tr : ∀ {a b c : Int × Int}, lexLt a b = true → lexLt b c = true → lexLt a c = true := fun {a b c} x y => by
  unfold lexLt at *
  rw [decide_eq_true_eq] at *
  lia
 have below : ∀ c ∈ ks.take p, lexLt c k = true := by
  intro c hc
  obtain ⟨i, hi, rfl⟩ := List.mem_iff_getElem.mp hc
  rw [List.length_take] at hi
  rw [List.getElem_take]
  cases p with
  | zero => lia
  | succ m =>
   have hm : m < ks.length := hp
   have a := h2 m _ rfl (List.getElem?_eq_getElem hm)
   have b := hne _ (List.getElem_mem hm)
   have key : lexLt ks[m] k = true := by
    unfold lexLt at *
    rw [decide_eq_false_iff_not] at a
    rw [decide_eq_true_eq]
    rcases Int.lt_trichotomy ks[m].1 k.1 with h | h | h
    ·exact .inl h
    ·exact .inr ⟨h, Int.lt_iff_le_and_ne.mpr ⟨Int.not_lt.mp fun q => a (.inr ⟨h.symm, q⟩), b⟩⟩
    ·exact absurd (.inl h) a
   by_cases e : i = m
   ·subst e; exact key
   ·exact tr (List.pairwise_iff_getElem.mp hs i m (by lia) hm (by lia)) key
 have above : ∀ c ∈ ks.drop p, lexLt k c = true := by
  intro c hc
  obtain ⟨i, hi, rfl⟩ := List.mem_iff_getElem.mp hc
  rw [List.getElem_drop]
  exact h1 (p + i) _ (Nat.le_add_right _ _) (List.getElem?_eq_getElem _)
 refine ⟨?_, (List.perm_middle).trans (by rw [List.take_append_drop])⟩
 rw [List.pairwise_append]
 refine ⟨hs.sublist (List.take_sublist _ _), List.pairwise_cons.mpr ⟨above, hs.sublist (List.drop_sublist _ _)⟩, fun a ha b hb => ?_⟩
 rcases List.mem_cons.mp hb with rfl | hb
 ·exact below a ha
 ·exact tr (below a ha) (above b hb)
end
theorem callSet {n a : Nat} {st : S} {r : R V} {v : V} (h : bodyM pi01 (phi pi01 n) false m_setW [.ref a, v] st = r) : callF pi01 (phi pi01 (n + 1)) false .setW [.ref a, v] [] st = r := h
theorem len_put {x : Str} {v : V} {k : Nat} : ∀ {fs : List (Str × V)}, fs.length < k → (putR x v fs).length < k + 1
 | [], h => Nat.succ_lt_succ h
 | (y, w) :: r, h => by
  unfold putR
  split
  ·exact Nat.lt_succ_of_lt h
  ·cases k with
   | zero => exact absurd h (Nat.not_lt_zero _)
   | succ k => exact Nat.succ_lt_succ (len_put (Nat.lt_of_succ_lt_succ h))
theorem init_ok {n i : Nat} {st : S} {m w : Int} (ha : st.heap i = some (.inst [])) (hi : st.next = i + 1) (hw : 1 ≤ w ∧ w ≤ 256) :
  ∃ st', bodyM pi01 (phi pi01 (n + 1)) false m_init [.ref i, .int m, .int w] st = .ok .none st' ∧ st'.next = i + 3 ∧ st'.loc = st.loc ∧ st'.heap i = some (.inst (sf m w (i + 1) .none (i + 2) true 0 0)) ∧ st'.heap (i + 1) = some (.list []) ∧ st'.heap (i + 2) = some (.list []) ∧ ∀ j, j < i → st'.heap j = st.heap j := by
 have n1 : i ≠ st.next := by lia
 have n2 : i ≠ st.next + 1 := by lia
 have ns : ∀ {h : Nat → Option AObj} {k : Nat} {p : Pos}, denE pi01 (phi pi01 (n + 1)) { names := m_init.scope.names, cells := [], hd := false } (.Name "self" p) ⟨h, k, fun x => (m_init.params.zip [V.ref i, V.int m, V.int w]).lookup x⟩ = .ok (.ref i) ⟨h, k, fun x => (m_init.params.zip [V.ref i, V.int m, V.int w]).lookup x⟩ := bN (by decide) (nm (by decide)) rfl
 have at_ : ∀ {h : Nat → Option AObj} {k : Nat} {p q : Pos} {x : Str} {v : V} {fs : List (Str × V)} {l : Nat}, h i = some (.inst fs) → x ≠ wName → pi01.fields.contains x = true → fs.length < l → l ≤ 100 →
   assignV pi01 (phi pi01 (n + 1)) { names := m_init.scope.names, cells := [], hd := false } (.Attribute (.Name "self" p) x q) v ⟨h, k, fun x => (m_init.params.zip [V.ref i, V.int m, V.int w]).lookup x⟩ = .ok () ⟨upd h i (.inst (putR x v fs)), k, fun x => (m_init.params.zip [V.ref i, V.int m, V.int w]).lookup x⟩ := fun h1 h2 h3 h4 h5 => a_attr ns h1 h2 ⟨h3, ltl h4 h5⟩
 refine' ⟨_, bO (f := .next) ⟨rfl, by decide⟩ ?run, ?c0, ?cl, ?c1, ?c2, ?c3, ?c4⟩
 case run =>
  have l0 : ([] : List (Str × V)).length < 1 := Nat.zero_lt_one
  have l1 := len_put (x := "stream_id") (v := .int m) l0
  have l2 := len_put (x := "_weight") (v := .int w) l1
  have l3 := len_put (x := "children") (v := .ref st.next) l2
  have l4 := len_put (x := "parent") (v := .none) l3
  have l5 := len_put (x := "child_queue") (v := .ref (st.next + 1)) l4
  have l6 := len_put (x := "active") (v := .bool true) l5
  have l7 := len_put (x := "last_weight") (v := .int 0) l6
  refine sC (sA rfl (bN (by decide) (nm (by decide)) rfl) (at_ ha (by decide) (by decide) l0 (by decide))) ?_
  refine sC (sA rfl (bN (by decide) (nm (by decide)) rfl) (a_attrW ns (uS _ _ _) (callSet ((setW_run (uS _ _ _) (ltl l1 (by decide))).1 hw)))) ?_
  refine sC (sA rfl (b_list rfl bE) (at_ ((uO n1).trans (uS _ _ _)) (by decide) (by decide) l2 (by decide))) ?_
  refine sC (sA rfl b_none (at_ (uS _ _ _) (by decide) (by decide) l3 (by decide))) ?_
  refine sC (sA rfl (b_list rfl bE) (at_ ((uO n2).trans (uS _ _ _)) (by decide) (by decide) l4 (by decide))) ?_
  refine sC (sA rfl b_bool (at_ (uS _ _ _) (by decide) (by decide) l5 (by decide))) ?_
  refine sC (sA rfl bI (at_ (uS _ _ _) (by decide) (by decide) l6 (by decide))) ?_
  exact sC (sA rfl bI (at_ (uS _ _ _) (by decide) (by decide) l7 (by decide))) sN
 case c0 => exact congrArg (· + 2) hi
 case cl => rfl
 case c1 =>
  refine (uS _ _ _).trans ?_
  have e : st.next + 1 = i + 2 := congrArg (· + 1) hi
  have e0 : st.next = i + 1 := hi
  show some (AObj.inst [("stream_id", .int m), ("_weight", .int w), ("children", .ref st.next), ("parent", .none), ("child_queue", .ref (st.next + 1)), ("active", .bool true), ("last_weight", .int 0), ("_deficit", .int 0)]) = _
  rw [e0]
  rfl
 case c2 =>
  have a1 : i + 1 ≠ i := Nat.succ_ne_self i
  have a2 : i + 1 ≠ st.next + 1 := by lia
  refine (uO a1).trans ((uO a1).trans ((uO a1).trans ((uO a1).trans ((uO a2).trans ((uO a1).trans ((uO a1).trans ?_))))))
  rw [← hi]
  exact uS _ _ _
 case c3 =>
  have a1 : i + 2 ≠ i := by lia
  refine (uO a1).trans ((uO a1).trans ((uO a1).trans ((uO a1).trans ?_)))
  have e : i + 2 = st.next + 1 := (congrArg (· + 1) hi).symm
  rw [e]
  exact uS _ _ _
 case c4 =>
  intro j hj
  have a1 : j ≠ i := Nat.ne_of_lt hj
  have a2 : j ≠ st.next := by lia
  have a3 : j ≠ st.next + 1 := by lia
  exact (uO a1).trans ((uO a1).trans ((uO a1).trans ((uO a1).trans ((uO a3).trans ((uO a1).trans ((uO a1).trans ((uO a2).trans ((uO a1).trans (uO a1)))))))))
theorem new_run (n : Nat) (st : S) (m w : Int) (args : List V) (hargs : args = [.int m, .int w] ∨ (args = [.int m] ∧ w = 16)) (hw : 1 ≤ w ∧ w ≤ 256) :
  ∃ st', newM pi01 (phi pi01 (n + 2)) false args st = .ok (.ref st.next) st' ∧ st'.next = st.next + 3 ∧ st'.loc = st.loc ∧ st'.heap st.next = some (.inst (sf m w (st.next + 1) .none (st.next + 2) true 0 0)) ∧ st'.heap (st.next + 1) = some (.list []) ∧ st'.heap (st.next + 2) = some (.list []) ∧ ∀ j, j < st.next → st'.heap j = st.heap j := by
 have e : callF pi01 (phi pi01 (n + 2)) false (.meth "__init__") (.ref st.next :: args) [] = bodyM pi01 (phi pi01 (n + 1)) false m_init [.ref st.next, .int m, .int w] := by
  rcases hargs with rfl | ⟨rfl, rfl⟩ <;> rfl
 have ea : upd st.heap st.next (.inst []) st.next = some (.inst []) := uS _ _ _
 obtain ⟨st', a, b, c, d, f, g, k⟩ := init_ok (n := n) (st := { st with heap := upd st.heap st.next (.inst []), next := st.next + 1 }) (m := m) ea rfl hw
 exact ⟨st', bS (m := al (.inst [])) rfl (bS (show callF _ _ _ _ _ _ _ = _ from (congrFun e _).trans a) rfl), b, c, d, f, g, fun j hj => (k j hj).trans (uO (Nat.ne_of_lt hj))⟩
noncomputable def Tab.lay (T : Tab) (p c : Int) : Tab := { T with par := fset T.par c (some p), lev := fset T.lev c (T.last p), kids := fset T.kids p (T.kids p ++ [c]) }
structure Fr (own : Nat → Prop) (st st' : S) : Prop where
 le : st.next ≤ st'.next
 loc : st'.loc = st.loc
 heap : ∀ a, a < st.next → ¬ own a → st'.heap a = st.heap a
theorem Fr.trans {own : Nat → Prop} {s s' s'' : S} (h : Fr own s s') (h' : Fr (fun a => own a ∨ s.next ≤ a) s' s'') : Fr own s s'' :=
 ⟨Nat.le_trans h.le h'.le, h'.loc.trans h.loc, fun a ha ho => (h'.heap a (ltl ha h.le) fun q => q.elim ho fun q => absurd ha (Nat.not_lt.mpr q)).trans (h.heap a ha ho)⟩
noncomputable def ext (own : Nat → Prop) (n : Nat) : Nat → Prop := fun a => own a ∨ n ≤ a
theorem add_run {n : Nat} {hd : Bool} {T : Tab} {L : Rl → Nat} {Q : Int → List (Int × Int)} {own : Nat → Prop} {st : S} (H : SS T L Q own st.heap st.next) {p c : Int} (hp : p ∈ T.nums) (hc : c ∈ T.nums) (hpc : p ≠ c) (hq : ∀ e ∈ Q p, e.2 ≠ c) (hl : (T.kids p).length < 40) (hlq : (Q p).length < 40) :
  ∃ q st', bodyM pi01 (phi pi01 (n + 3)) hd m_add [.ref (L (.A p)), .ref (L (.A c))] st = .ok .none st' ∧ SS (T.lay p c) L (fset Q p q) (ext own st.next) st'.heap st'.next ∧ q.Perm ((T.last p, c) :: Q p) ∧ Fr own st st' := by
 have H1 := H.inst (T' := { T with par := fset T.par c (some p) }) (k := c) (fs := putR "parent" (.ref (L (.A p))) (sfs T L c)) hc rfl rfl (fun j hj => by
   show sf j _ _ (parV L (fset T.par c (some p) j)) _ _ _ _ = _
   rw [fO hj]; rfl) (by
   show sf c _ _ (.ref (L (.A p))) _ _ _ _ = sf c _ _ (parV L (fset T.par c (some p) c)) _ _ _ _
   rw [fS]; rfl)
 have H2 := H1.kid (k := p) (cs := T.kids p ++ [c]) hp (by rw [List.length_append]; show (T.kids p).length + 1 ≤ 40; lia)
 have e2 : ((T.kids p ++ [c]).map fun c => V.ref (L (.A c))) = ((T.kids p).map fun c => V.ref (L (.A c))) ++ [.ref (L (.A c))] := by rw [List.map_append]; rfl
 rw [e2] at H2
 have H3 := H2.grow (own' := ext own st.next) (h' := upd (upd (upd st.heap (L (.A c)) (.inst (putR "parent" (.ref (L (.A p))) (sfs T L c)))) (L (.ch p)) (.list (((T.kids p).map fun c => V.ref (L (.A c))) ++ [.ref (L (.A c))]))) st.next (.tup [.int (T.last p), .ref (L (.A c))])) (nx' := st.next + 1) (fun a ha _ => uO (Nat.ne_of_lt ha)) (Nat.le_succ _) fun a ha => .inl ha
 have ip1 : upd st.heap (L (.A c)) (.inst (putR "parent" (.ref (L (.A p))) (sfs T L c))) (L (.A p)) = some (.inst (sfs { T with par := fset T.par c (some p) } L p)) := H1.cc (.A p) hp
 have ip2 := H2.cc (.A p) hp
 obtain ⟨xs, x1, x2, x3⟩ := H3.cc (.cq p) hp
 have hxl := x2.length
 obtain ⟨i, r1, r2, r3, r4⟩ := push_run (n := n) (hd := hd) (q := L (.cq p)) (t := st.next) (k := (T.last p, c)) (st := ⟨_, st.next + 1, fun x => (m_add.params.zip [V.ref (L (.A p)), V.ref (L (.A c))]).lookup x⟩) x1 x2 (fun e he => H3.id ((H3.srt p hp).2.1 e he)) (uS _ _ _) (H3.id hc) (by lia)
 obtain ⟨s1, s2⟩ := ins_sorted (k := (T.last p, c)) (H.srt p hp).1 r2 r3 r4 hq
 have H4 := H3.que (k := p) (xs := xs.take i ++ st.next :: xs.drop i) (q := (Q p).take i ++ (T.last p, c) :: (Q p).drop i) hp (x2.insert (k := (T.last p, c)) (uS _ _ _)) (fun x hx => by
   rcases List.mem_append.mp hx with hx | hx
   ·exact x3 x (List.mem_of_mem_take hx)
   ·rcases List.mem_cons.mp hx with rfl | hx
    ·exact ⟨Nat.lt_succ_self _, .inr (Nat.le_refl _)⟩
    ·exact x3 x (List.mem_of_mem_drop hx)) ⟨s1, fun e he => by
   rcases List.mem_cons.mp (s2.mem_iff.mp he) with rfl | he
   ·exact hc
   ·exact (H.srt p hp).2.1 e he, by rw [s2.length_eq]; exact hlq⟩
 refine' ⟨_, _, bO (f := .next) ⟨rfl, by decide⟩ ?run, ?ss, s2, ?fr⟩
 case run =>
  have ns : ∀ {o : Nat → Option AObj} {k : Nat} {pp : Pos}, denE pi01 (phi pi01 (n + 3)) { names := m_add.scope.names, cells := [], hd } (.Name "self" pp) ⟨o, k, fun x => (m_add.params.zip [V.ref (L (.A p)), V.ref (L (.A c))]).lookup x⟩ = .ok (.ref (L (.A p))) ⟨o, k, fun x => (m_add.params.zip [V.ref (L (.A p)), V.ref (L (.A c))]).lookup x⟩ := bN (by decide) (nm (by decide)) rfl
  have nc : ∀ {o : Nat → Option AObj} {k : Nat} {pp : Pos}, denE pi01 (phi pi01 (n + 3)) { names := m_add.scope.names, cells := [], hd } (.Name "child" pp) ⟨o, k, fun x => (m_add.params.zip [V.ref (L (.A p)), V.ref (L (.A c))]).lookup x⟩ = .ok (.ref (L (.A c))) ⟨o, k, fun x => (m_add.params.zip [V.ref (L (.A p)), V.ref (L (.A c))]).lookup x⟩ := bN (by decide) (nm (by decide)) rfl
  refine sC (sA rfl ns (a_attr nc (H.cc (.A c) hc) (by decide) ⟨by decide, by show (8 : Nat) < 100; decide⟩)) ?_
  refine sC (s_expr rfl (b_append (by decide) rfl (bA rfl ns ip1 (by decide) (by decide) rfl) (H1.cc (.ch p) hp) (bC nc bE) (H1.cc (.ch p) hp) (by rw [List.length_map]; show (T.kids p).length < 1000; lia))) ?_
  exact sC (s_expr rfl (bK (gO (nm (by decide))) rfl (by decide) (by decide) (bC (bA rfl ns ip2 (by decide) (by decide) rfl) (bC (b_tuple rfl (bC (bA rfl ns ip2 (by decide) (by decide) rfl) (bC nc bE))) bE)) r1)) sN
 case ss => exact H4.data rfl (fun k => rfl) rfl
 case fr =>
  refine ⟨Nat.le_succ _, rfl, fun a ha ho => ?_⟩
  have a1 : a ≠ L (.A c) := by rintro rfl; exact ho (H.at_ (.A c) hc).2
  have a2 : a ≠ L (.ch p) := by rintro rfl; exact ho (H.at_ (.ch p) hp).2
  have a3 : a ≠ L (.cq p) := by rintro rfl; exact ho (H.at_ (.cq p) hp).2
  exact (uO a3).trans ((uO (Nat.ne_of_lt ha)).trans ((uO a2).trans (uO a1)))
section
noncomputable def Wp {α : Type} (m : M α) (s : S) (Q : α → S → Prop) : Prop := ∃ a s', m s = .ok a s' ∧ Q a s'
theorem Wp_of {α : Type} {m : M α} {s s' : S} {a : α} {Q : α → S → Prop} (h : m s = .ok a s') (q : Q a s') : Wp m s Q := ⟨a, s', h, q⟩
theorem Wp_mono {α : Type} {m : M α} {s : S} {Q Q' : α → S → Prop} (h : Wp m s Q) (f : ∀ a s', Q a s' → Q' a s') : Wp m s Q' := by
 obtain ⟨a, s', e, q⟩ := h
 exact ⟨a, s', e, f _ _ q⟩
noncomputable def Turn (Q : Flow → S → Prop) (J : S → Prop) : Flow → S → Prop
 | .next, s => J s
 | .cont, s => J s
 | .brk, s => Q .next s
 | .ret v, s => Q (.ret v) s
theorem Wp_each {I : List V → S → Prop} {i : Nat} {xs : List V} {tv : V → M Unit} {body : M Flow} {Q : Flow → S → Prop} (hl : ∀ rest s, I rest s → s.heap i = some (.list xs))
  (step : ∀ v rest s, I (v :: rest) s → ∃ s', tv v s = .ok () s' ∧ Wp body s' (Turn Q (I rest))) (hQ : ∀ s, I [] s → Q .next s) :
  ∀ (fuel k : Nat) (rest : List V) (s : S), xs.drop k = rest → rest.length < fuel → I rest s → Wp (loopD fuel (nextIt i tv) body k) s Q
 | 0, _, _, _, _, hf, _ => absurd hf (Nat.not_lt_zero _)
 | fuel + 1, k, [], s, e, hf, hI => ⟨.next, s, bS (bS (rdL_at (hl _ s hI)) (by rw [List.getElem?_eq_none (by have := List.drop_eq_nil_iff.mp e; exact this)]; rfl)) (b_ifn Bool.false_ne_true rfl), hQ s hI⟩
 | fuel + 1, k, v :: rest, s, e, hf, hI => by
  have hk : k < xs.length := by
   rcases Nat.lt_or_ge k xs.length with h | h
   ·exact h
   ·rw [List.drop_of_length_le h] at e; contradiction
  rw [List.drop_eq_getElem_cons hk] at e
  have e0 := (List.cons.inj e).1
  replace e := (List.cons.inj e).2
  subst e0
  obtain ⟨s', e1, f, s'', e2, q⟩ := step _ rest s hI
  have nx : nextIt i tv k s = .ok true s' := bS (rdL_at (hl _ s hI)) (by rw [List.getElem?_eq_getElem hk]; exact bS e1 rfl)
  cases f with
  | next =>
   obtain ⟨a, t, e3, q'⟩ := Wp_each hl step hQ fuel (k + 1) rest s'' e (Nat.lt_of_succ_lt_succ hf) q
   exact ⟨a, t, bS nx (b_if rfl (bS e2 e3)), q'⟩
  | cont =>
   obtain ⟨a, t, e3, q'⟩ := Wp_each hl step hQ fuel (k + 1) rest s'' e (Nat.lt_of_succ_lt_succ hf) q
   exact ⟨a, t, bS nx (b_if rfl (bS e2 e3)), q'⟩
  | brk => exact ⟨_, s'', bS nx (b_if rfl (bS e2 rfl)), q⟩
  | ret v => exact ⟨_, s'', bS nx (b_if rfl (bS e2 rfl)), q⟩
theorem itOf_list {hd : Bool} {i : Nat} {xs : List V} {s : S} (h : s.heap i = some (.list xs)) : itOf hd (.ref i) s = .ok (.list i) s := b_ref (bS (bG h) rfl)
noncomputable def noRange (it : Expr) : Bool := match callN it with
 | some p => p.1 != ("range" : Str)
 | none => true
theorem den_for {P : PI} {Φ : Phi} {ev : AEnv} {t it : Expr} {b : M Flow} (h : noRange it = true) : denFor P Φ ev t it b = forM ev t (denE P Φ ev it) b := by
 unfold denFor
 unfold noRange at h
 cases hc : callN it with
 | none => rfl
 | some p =>
  rw [hc] at h
  exact if_neg fun q => absurd q.2 (bne_iff_ne.mp h)
theorem Wp_for {P : PI} {Φ : Phi} {ev : AEnv} {t it : Expr} {b : List Stmt} {p : Pos} {I : List V → S → Prop} {i : Nat} {xs : List V} {s s1 : S} {Q : Flow → S → Prop} (hc : noRange it = true) (hit : denE P Φ ev it s = .ok (.ref i) s1) (hh : s1.heap i = some (.list xs)) (hlen : xs.length < 100)
  (hl : ∀ rest s, I rest s → s.heap i = some (.list xs)) (step : ∀ v rest s, I (v :: rest) s → ∃ s', targetV ev t v s = .ok () s' ∧ Wp (denSs P Φ ev b) s' (Turn Q (I rest))) (hQ : ∀ s, I [] s → Q .next s) (h0 : I xs s1) : Wp (denS P Φ ev (.For t it b [] p)) s Q := by
 obtain ⟨f, s', e, q⟩ := Wp_each hl step hQ wlim 0 xs s1 rfl hlen h0
 refine ⟨f, s', b_if (c := ([] : List Stmt).isEmpty = true) (m' := failM) rfl ?_, q⟩
 rw [den_for hc]
 exact bS hit (bS (itOf_list hh) e)
theorem Wp_Ss {ev : AEnv} {P : PI} {Φ : Phi} {s : Stmt} {r : List Stmt} {st : S} {Q : Flow → S → Prop} (h : Wp (denS P Φ ev s) st (Turn Q fun s' => Wp (denSs P Φ ev r) s' Q)) (hn : ∀ s', denS P Φ ev s st ≠ .ok .cont s' ∧ denS P Φ ev s st ≠ .ok .brk s') : Wp (denSs P Φ ev (s :: r)) st Q := by
 obtain ⟨f, s', e, q⟩ := h
 cases f with
 | next => obtain ⟨b, t, e', q'⟩ := q; exact ⟨b, t, sC e e', q'⟩
 | ret v => exact ⟨_, s', sE e, q⟩
 | cont => exact absurd e (hn s').1
 | brk => exact absurd e (hn s').2
theorem Wp_next {ev : AEnv} {P : PI} {Φ : Phi} {s : Stmt} {r : List Stmt} {st : S} {Q : Flow → S → Prop} (h : Wp (denS P Φ ev s) st fun (f : Flow) s' => f = .next ∧ Wp (denSs P Φ ev r) s' Q) : Wp (denSs P Φ ev (s :: r)) st Q := by
 obtain ⟨f, s', e, rfl, b, t, e', q⟩ := h
 exact ⟨b, t, sC e e', q⟩
noncomputable def Syn (T : Tab) (Q : Int → List (Int × Int)) (k : Int) : Prop := (Q k).Perm ((T.kids k).map fun c => (T.lev c, c))
theorem Syn.mem {T : Tab} {Q : Int → List (Int × Int)} {k : Int} (h : Syn T Q k) {e : Int × Int} (he : e ∈ Q k) : e.2 ∈ T.kids k := by
 obtain ⟨c, hc, rfl⟩ := List.mem_map.mp (h.mem_iff.mp he)
 exact hc
theorem Syn.lay {T : Tab} {Q : Int → List (Int × Int)} {p c : Int} {q : List (Int × Int)} (h : ∀ k ∈ T.nums, Syn T Q k) (hc : ∀ k ∈ T.nums, c ∉ T.kids k) (hp : p ∈ T.nums) (hq : q.Perm ((T.last p, c) :: Q p)) : ∀ k ∈ T.nums, Syn (T.lay p c) (fset Q p q) k := by
 intro k hk
 have same : ((T.kids k).map fun x => (fset T.lev c (T.last p) x, x)) = (T.kids k).map fun x => (T.lev x, x) := List.map_congr_left fun x hx => by
  have ne : x ≠ c := by rintro rfl; exact hc k hk hx
  rw [fO ne]
 unfold Syn Tab.lay
 dsimp only
 by_cases e : k = p
 ·subst e
  rw [fS, fS, List.map_append, same]
  refine hq.trans ?_
  show List.Perm _ (_ ++ [(fset T.lev c (T.last k) c, c)])
  rw [fS]
  exact ((h k hk).cons _).trans (List.perm_append_singleton _ _).symm
 ·rw [fO e, fO e, same]
  exact h k hk
structure SY (T : Tab) (L : Rl → Nat) (own : Nat → Prop) (st : S) : Prop where
 ss : ∃ Q, SS T L Q own st.heap st.next ∧ ∀ k ∈ T.nums, Syn T Q k
theorem SY.grow {T : Tab} {L : Rl → Nat} {own own' : Nat → Prop} {st st' : S} (H : SY T L own st) (hk : ∀ a, a < st.next → own a → st'.heap a = st.heap a) (hn : st.next ≤ st'.next) (ho : ∀ a, own a → own' a) : SY T L own' st' :=
 let ⟨Q, h1, h2⟩ := H.ss; ⟨Q, h1.grow hk hn ho, h2⟩
theorem add_spec {n : Nat} {hd : Bool} {T : Tab} {L : Rl → Nat} {own : Nat → Prop} {st : S} (H : SY T L own st) {p c : Int} (hp : p ∈ T.nums) (hc : c ∈ T.nums) (hpc : p ≠ c) (hf : ∀ k ∈ T.nums, c ∉ T.kids k) (hl : (T.kids p).length < 40) :
  ∃ st', bodyM pi01 (phi pi01 (n + 3)) hd m_add [.ref (L (.A p)), .ref (L (.A c))] st = .ok .none st' ∧ SY (T.lay p c) L (ext own st.next) st' ∧ Fr own st st' := by
 obtain ⟨Q, h1, h2⟩ := H.ss
 obtain ⟨q, st', r1, r2, r3, r4⟩ := add_run (n := n) (hd := hd) h1 hp hc hpc (fun e he q => hf p hp (q ▸ (h2 p hp).mem he)) hl (by rw [(h2 p hp).length_eq, List.length_map]; exact hl)
 exact ⟨st', r1, ⟨_, r2, Syn.lay h2 hf hp r3⟩, r4⟩
theorem SS.reloc {T T' : Tab} {L : Rl → Nat} {Q Q' : Int → List (Int × Int)} {own : Nat → Prop} {h h' : Nat → Option AObj} {nx nx' : Nat} (H : SS T L Q own h nx) {k : Int} (hk : k ∈ T.nums) {r0 : Rl} (hr : r0 = .ch k ∨ r0 = .cq k) {a : Nat} (ha : nx ≤ a ∧ a < nx') (hT : T'.nums = T.nums)
  (c0 : CC T' (fun r => if r = r0 then a else L r) Q' (ext own nx) h' nx' r0) (hA : h' (L (.A k)) = some (.inst (sfs T' (fun r => if r = r0 then a else L r) k))) (hold : ∀ b, b < nx → own b → b ≠ L (.A k) → b ≠ L r0 → h' b = h b)
  (hs : ∀ j, j ≠ k → sfs T' (fun r => if r = r0 then a else L r) j = sfs T L j) (hkid : ∀ j, Rl.ch j ≠ r0 → T'.kids j = T.kids j) (hQ : ∀ j, Rl.cq j ≠ r0 → Q' j = Q j) (srt : ∀ j ∈ T.nums, Srt T (Q' j)) (few : ∀ j ∈ T.nums, (T'.kids j).length ≤ 40) :
  SS T' (fun r => if r = r0 then a else L r) Q' (ext own nx) h' nx' where
 cc := fun r hr' => by
  rw [hT] at hr'
  by_cases e : r = r0
  ·subst e; exact c0
  ·have nA : ∀ c, Rl.A c ≠ r0 := fun c q => by rcases hr with rfl | rfl <;> nomatch q
   have lA : ∀ c, (if Rl.A c = r0 then a else L (.A c)) = L (.A c) := fun c => if_neg (nA c)
   have lo := H.at_ r hr'
   have hne : r ≠ .A k → L r ≠ L (.A k) := fun q z => q (H.inj r (.A k) hr' hk z)
   have k0 : r0.key ∈ T.nums := by rcases hr with rfl | rfl <;> exact hk
   have hn0 : L r ≠ L r0 := fun z => e (H.inj r r0 hr' k0 z)
   cases r with
   | A j =>
    by_cases q : j = k
    ·subst q; show h' (if Rl.A j = r0 then a else L (.A j)) = _; rw [lA]; exact hA
    ·show h' (if Rl.A j = r0 then a else L (.A j)) = _
     rw [lA, hs j q]
     exact (hold _ lo.1 lo.2 (hne fun z => q (by injection z)) hn0).trans (H.cc (.A j) hr')
   | ch j =>
    show h' (if Rl.ch j = r0 then a else L (.ch j)) = some (.list ((T'.kids j).map fun c => .ref (if Rl.A c = r0 then a else L (.A c))))
    rw [if_neg e, hkid j e, List.map_congr_left (g := fun c => V.ref (L (.A c))) fun c _ => by rw [lA]]
    exact (hold _ lo.1 lo.2 (hne fun z => (by contradiction)) hn0).trans (H.cc (.ch j) hr')
   | cq j =>
    obtain ⟨xs, x1, x2, x3⟩ := H.cc (.cq j) hr'
    refine ⟨xs, ?_, ?_, fun x hx => ⟨ltl (x3 x hx).1 (Nat.le_trans ha.1 (Nat.le_of_lt ha.2)), .inl (x3 x hx).2⟩⟩
    ·show h' (if Rl.cq j = r0 then a else L (.cq j)) = _
     rw [if_neg e]
     exact (hold _ lo.1 lo.2 (hne fun z => (by contradiction)) hn0).trans x1
    ·rw [hQ j e, show (fun c => if Rl.A c = r0 then a else L (.A c)) = fun c => L (.A c) from funext lA]
     have go : ∀ (xs : List Nat) (ks : List (Int × Int)), (∀ x ∈ xs, x < nx ∧ own x) → Itms h (fun c => L (.A c)) xs ks → Itms h' (fun c => L (.A c)) xs ks := by
      intro xs
      induction xs with
      | nil => intro ks _ hi; exact (by cases ks with | nil => trivial | cons _ _ => exact hi.elim)
      | cons x xs ih =>
       intro ks hx hi
       cases ks with
       | nil => exact hi.elim
       | cons k' ks => exact ⟨(hold x (hx x (.head _)).1 (hx x (.head _)).2 (H.notup (r := .A k) hk hi.1) (H.notup k0 hi.1)).trans hi.1, ih ks (fun y hy => hx y (.tail _ hy)) hi.2⟩
     exact go xs _ x3 x2
 at_ := fun r hr' => by
  by_cases e : r = r0
  ·show (if r = r0 then a else L r) < nx' ∧ ext own nx (if r = r0 then a else L r)
   rw [if_pos e]; exact ⟨ha.2, .inr ha.1⟩
  ·show (if r = r0 then a else L r) < nx' ∧ ext own nx (if r = r0 then a else L r)
   rw [if_neg e]
   have := H.at_ r (hT ▸ hr')
   exact ⟨ltl this.1 (Nat.le_trans ha.1 (Nat.le_of_lt ha.2)), .inl this.2⟩
 inj := fun r r' h1 h2 e => by
  have l1 := (H.at_ r (hT ▸ h1)).1
  have l2 := (H.at_ r' (hT ▸ h2)).1
  have e : (if r = r0 then a else L r) = (if r' = r0 then a else L r') := e
  by_cases q1 : r = r0
  ·by_cases q2 : r' = r0
   ·rw [q1, q2]
   ·rw [if_pos q1, if_neg q2] at e; lia
  ·by_cases q2 : r' = r0
   ·rw [if_neg q1, if_pos q2] at e; lia
   ·rw [if_neg q1, if_neg q2] at e; exact H.inj r r' (hT ▸ h1) (hT ▸ h2) e
 srt := fun j hj => by unfold Srt; rw [hT]; exact srt j (hT ▸ hj)
 few := fun j hj => few j (hT ▸ hj)
noncomputable abbrev Lset (L : Rl → Nat) (r0 : Rl) (a : Nat) : Rl → Nat := fun r => if r = r0 then a else L r
section
variable {T : Tab} {L : Rl → Nat} {Q : Int → List (Int × Int)} {own : Nat → Prop} {h h' : Nat → Option AObj} {k : Int} {a : Nat}
theorem Lset_A {r0 : Rl} (hr : ∀ c, Rl.A c ≠ r0) (c : Int) : Lset L r0 a (.A c) = L (.A c) := if_neg (hr c)
theorem parV_set {r0 : Rl} (hr : ∀ c, Rl.A c ≠ r0) : ∀ o, parV (Lset L r0 a) o = parV L o
 | none => rfl
 | some p => congrArg V.ref (Lset_A hr p)
theorem sfs_ch : sfs T (Lset L (.ch k) a) k = putR "children" (.ref a) (sfs T L k) := by
 show sf k _ (if Rl.ch k = .ch k then a else _) (parV (Lset L (.ch k) a) _) (if Rl.cq k = .ch k then a else _) _ _ _ = _
 rw [if_pos rfl, if_neg (fun q => (by contradiction)), parV_set (r0 := .ch k) fun c q => (by contradiction)]
 rfl
theorem sfs_cq : sfs T (Lset L (.cq k) a) k = putR "child_queue" (.ref a) (sfs T L k) := by
 show sf k _ (if Rl.ch k = .cq k then a else _) (parV (Lset L (.cq k) a) _) (if Rl.cq k = .cq k then a else _) _ _ _ = _
 rw [if_pos rfl, if_neg (fun q => (by contradiction)), parV_set (r0 := .cq k) fun c q => (by contradiction)]
 rfl
theorem sfs_ch' {j : Int} (hj : j ≠ k) : sfs T (Lset L (.ch k) a) j = sfs T L j := by
 show sf j _ (if Rl.ch j = .ch k then a else _) (parV (Lset L (.ch k) a) _) (if Rl.cq j = .ch k then a else _) _ _ _ = _
 rw [if_neg (fun q => hj (by injection q)), if_neg (fun q => (by contradiction)), parV_set (r0 := .ch k) fun c q => (by contradiction)]
 rfl
theorem sfs_cq' {j : Int} (hj : j ≠ k) : sfs T (Lset L (.cq k) a) j = sfs T L j := by
 show sf j _ (if Rl.ch j = .cq k then a else _) (parV (Lset L (.cq k) a) _) (if Rl.cq j = .cq k then a else _) _ _ _ = _
 rw [if_neg (c := Rl.cq j = .cq k) (fun q => hj (by injection q)), if_neg (fun q => (by contradiction)), parV_set (r0 := .cq k) fun c q => (by contradiction)]
 rfl
end
section
variable {T : Tab} {L : Rl → Nat} {Q : Int → List (Int × Int)} {own : Nat → Prop} {h h' : Nat → Option AObj} {nx nx' : Nat} {k : Int} {a : Nat}
theorem SS.newCh (H : SS T L Q own h nx) (hk : k ∈ T.nums) (ha : nx ≤ a ∧ a < nx') (h0 : h' a = some (.list [])) (hA : h' (L (.A k)) = some (.inst (putR "children" (.ref a) (sfs T L k)))) (hold : ∀ b, b < nx → own b → b ≠ L (.A k) → h' b = h b) :
  SS { T with kids := fset T.kids k [] } (Lset L (.ch k) a) Q (ext own nx) h' nx' :=
 H.reloc (r0 := .ch k) hk (.inl rfl) ha rfl (by
  show h' (if Rl.ch k = .ch k then a else _) = some (AObj.list ((fset T.kids k [] k).map _))
  rw [if_pos rfl, fS]; exact h0) (hA.trans (congrArg (fun x => some (AObj.inst x)) (sfs_ch (T := T)).symm)) (fun b h1 h2 h3 _ => hold b h1 h2 h3) (fun j hj => sfs_ch' (T := T) hj) (fun j hj => fO fun e => hj (by rw [e])) (fun _ _ => rfl) H.srt fun j hj => by
  show (fset T.kids k [] j).length ≤ 40
  by_cases e : j = k
  ·subst e; rw [fS]; exact Nat.zero_le _
  ·rw [fO e]; exact H.few j hj
theorem SS.newCq (H : SS T L Q own h nx) (hk : k ∈ T.nums) (ha : nx ≤ a ∧ a < nx') {xs : List Nat} {q : List (Int × Int)} (h0 : h' a = some (.list (xs.map .ref))) (hi : Itms h' (fun c => L (.A c)) xs q) (hx : ∀ x ∈ xs, x < nx' ∧ ext own nx x) (hq : Srt T q)
  (hA : h' (L (.A k)) = some (.inst (putR "child_queue" (.ref a) (sfs T L k)))) (hold : ∀ b, b < nx → own b → b ≠ L (.A k) → b ≠ L (.cq k) → h' b = h b) : SS T (Lset L (.cq k) a) (fset Q k q) (ext own nx) h' nx' :=
 H.reloc (r0 := .cq k) hk (.inr rfl) ha rfl (by
  refine ⟨xs, ?_, ?_, hx⟩
  ·show h' (if Rl.cq k = .cq k then a else _) = _; rw [if_pos rfl]; exact h0
  ·rw [fS, show (fun c => Lset L (.cq k) a (.A c)) = fun c => L (.A c) from funext (Lset_A fun c q => (by contradiction))]; exact hi) (hA.trans (congrArg (fun x => some (AObj.inst x)) (sfs_cq (T := T)).symm)) hold (fun j hj => sfs_cq' (T := T) hj) (fun _ _ => rfl)
  (fun j hj => fO fun e => hj (by rw [e])) (fun j hj => by
  by_cases e : j = k
  ·subst e; rw [fS]; exact hq
  ·rw [fO e]; exact H.srt j hj) H.few
end
end
noncomputable def Tab.cut (T : Tab) (p : Int) : Tab := { T with kids := fset T.kids p [], last := fset T.last p 0 }
noncomputable def Tab.lays (T : Tab) (c : Int) (os : List Int) : Tab := os.foldl (fun T o => T.lay c o) T
noncomputable def Tab.alone (T : Tab) (p c : Int) : Tab := ((T.cut p).lay p c).lays c (T.kids p)
theorem Fr.refl (own : Nat → Prop) (st : S) : Fr own st st := ⟨Nat.le_refl _, rfl, fun _ _ _ => rfl⟩
theorem SY.apart {T : Tab} {L : Rl → Nat} {own : Nat → Prop} {st : S} (H : SY T L own st) {x : Nat} {l : List V} (hx : st.heap x = some (.list l)) (hr : ∀ r, r.key ∈ T.nums → L r ≠ x) : SY T L (fun b => own b ∧ b ≠ x) st := by
 obtain ⟨Q, h1, h2⟩ := H.ss
 refine ⟨Q, ⟨fun r hk => ?_, fun r hk => ⟨(h1.at_ r hk).1, (h1.at_ r hk).2, hr r hk⟩, h1.inj, h1.srt, h1.few⟩, h2⟩
 have c := h1.cc r hk
 cases r with
 | A k => exact c
 | ch k => exact c
 | cq k =>
  obtain ⟨xs, a, b, d⟩ := c
  refine ⟨xs, a, b, ?_⟩
  have go : ∀ (xs : List Nat) (ks : List (Int × Int)), (∀ y ∈ xs, y < st.next ∧ own y) → Itms st.heap (fun c => L (.A c)) xs ks → ∀ y ∈ xs, y < st.next ∧ own y ∧ y ≠ x := by
   intro xs
   induction xs with
   | nil => intro _ _ _ y hy; exact zL hy
   | cons z zs ih =>
    intro ks hz hi y hy
    cases ks with
    | nil => exact hi.elim
    | cons k ks =>
     rcases List.mem_cons.mp hy with rfl | hy
     ·exact ⟨(hz y (.head _)).1, (hz y (.head _)).2, fun e => by rw [← e, hi.1] at hx; nomatch hx⟩
     ·exact ih ks (fun w hw => hz w (.tail _ hw)) hi.2 y hy
  exact go xs _ d b
structure YV (T : Tab) (L : Rl → Nat) (own : Nat → Prop) (st : S) (x : Str) (c : Int) (os rs : List Int) (T' : Tab) (rest : List V) (s : S) : Prop where
 e : rest = rs.map (fun o => .ref (L (.A o)))
 ls : T'.lays c rs = T.lays c os
 sy : SY T' L (ext own st.next) s
 nu : T'.nums = T.nums
 fr : ∀ o ∈ rs, o ∈ T.nums ∧ o ≠ c ∧ ∀ k ∈ T.nums, o ∉ T'.kids k
 nd : rs.Nodup
 few : (T'.kids c).length + rs.length ≤ 40
 le : st.next ≤ s.next
 hp : ∀ a, a < st.next → ¬ own a → s.heap a = st.heap a
 lc : ∀ z, z ≠ x → s.loc z = st.loc z
theorem lays_loop {n : Nat} {ev : AEnv} {x y : Str} {q1 q2 q3 q4 q5 q6 q7 : Pos} {T : Tab} {L : Rl → Nat} {own : Nat → Prop} {st : S} {c : Int} {os : List Int} {old : Nat} {it : Expr} {s0 : S} (hlin : (q2.endLine == q4.line) = true) (hx : ev.names.lookup x = some .local) (hy : ev.names.lookup y = some .local) (hxy : x ≠ y) (hdx : x ≠ "__debug__") (hdy : y ≠ "__debug__")
  (hci : noRange it = true) (hit : denE pi01 (phi pi01 (n + 4)) ev it s0 = .ok (.ref old) st)
  (H : SY T L own st) (hold : st.heap old = some (.list (os.map fun o => .ref (L (.A o))))) (hno : ¬ own old) (hlt : old < st.next) (hc : c ∈ T.nums) (hly : st.loc y = some (.ref (L (.A c)))) (hnd : os.Nodup)
  (ho : ∀ o ∈ os, o ∈ T.nums ∧ o ≠ c ∧ ∀ k ∈ T.nums, o ∉ T.kids k) (hlen : (T.kids c).length + os.length ≤ 40) {Q : Flow → S → Prop}
  (hQ : ∀ s, SY (T.lays c os) L (ext own st.next) s → st.next ≤ s.next → (∀ a, a < st.next → ¬ own a → s.heap a = st.heap a) → (∀ z, z ≠ x → s.loc z = st.loc z) → Q .next s) :
  Wp (denS pi01 (phi pi01 (n + 4)) ev (.For (.Name x q1) it [.Expr (.Call (.Attribute (.Name y q3) "add_child" q2) [.Name x q5] [] q4) q6] [] q7)) s0 Q := by
 refine Wp_for (I := fun rest s => ∃ (rs : List Int) (T' : Tab), YV T L own st x c os rs T' rest s) hci hit hold (by rw [List.length_map]; lia) ?hl ?step ?hQ ?h0
 case hl =>
  rintro rest s ⟨rs, T', Y⟩
  exact (Y.hp old hlt hno).trans hold
 case hQ =>
  rintro s ⟨rs, T', Y⟩
  obtain rfl := List.map_eq_nil_iff.mp Y.e.symm
  exact hQ s (by rw [← Y.ls]; exact Y.sy) Y.le Y.hp Y.lc
 case h0 => exact ⟨os, T, ⟨rfl, rfl, H.grow (fun _ _ _ => rfl) (Nat.le_refl _) fun a h => .inl h, rfl, ho, hnd, hlen, Nat.le_refl _, fun _ _ _ => rfl, fun _ _ => rfl⟩⟩
 case step =>
  rintro v rest s ⟨rs, T', Y⟩
  obtain ⟨o, rs, rfl, he1, he2⟩ := List.map_eq_cons_iff.mp Y.e.symm
  subst he1
  have h4 := Y.nu
  have h6 := List.nodup_cons.mp Y.nd
  have h7 := Y.few
  rw [List.length_cons] at h7
  obtain ⟨k1, k2, k3⟩ := Y.fr o (.head _)
  have h3' : SY T' L (ext own st.next) { s with loc := updL s.loc x (.ref (L (.A o))) } := ⟨Y.sy.ss⟩
  obtain ⟨s', r1, r2, r3⟩ := add_spec (n := n) (hd := ev.hd) h3' (h4 ▸ hc) (h4 ▸ k1) (Ne.symm k2) (h4 ▸ k3) (by lia)
  refine ⟨_, bT hx, Wp_of (a := .next) (sC (s_expr rfl (b_meth hlin rfl (bN hdy hy ((cO (Ne.symm hxy)).trans ((Y.lc y (Ne.symm hxy)).trans hly))) (by obtain ⟨Q', g1, _⟩ := Y.sy.ss; exact g1.cc (.A c) (h4 ▸ hc)) rfl rfl (bC (bN hdx hx cS) bE) r1)) sN) ?_⟩
  refine ⟨rs, T'.lay c o, ⟨he2.symm, Y.ls, r2.grow (fun _ _ _ => rfl) (Nat.le_refl _) fun a ha => ha.elim (fun q => q) fun q => .inr (Nat.le_trans Y.le q), h4, fun o' ho' => ?_, h6.2, ?_, Nat.le_trans Y.le r3.le, fun a ha hna => ?_, fun z hz => ?_⟩⟩
  ·obtain ⟨m1, m2, m3⟩ := Y.fr o' (.tail _ ho')
   refine ⟨m1, m2, fun k hk => ?_⟩
   show o' ∉ fset T'.kids c (T'.kids c ++ [o]) k
   by_cases q : k = c
   ·subst q
    rw [fS, List.mem_append, not_or]
    exact ⟨m3 k hk, fun z => h6.1 (smp z ▸ ho')⟩
   ·rw [fO q]; exact m3 k hk
  ·show (fset T'.kids c (T'.kids c ++ [o]) c).length + rs.length ≤ 40
   rw [fS, List.length_append]
   show (T'.kids c).length + 1 + rs.length ≤ 40
   lia
  ·exact (r3.heap a (ltl ha Y.le) fun q => q.elim hna fun q => absurd ha (Nat.not_lt.mpr q)).trans (Y.hp a ha hna)
  ·rw [r3.loc]; exact (cO hz).trans (Y.lc z hz)
theorem excl_spec {n : Nat} {hd : Bool} {T : Tab} {L : Rl → Nat} {own : Nat → Prop} {st : S} (H : SY T L own st) {p c : Int} (hp : p ∈ T.nums) (hc : c ∈ T.nums) (hpc : p ≠ c) (hf : ∀ k ∈ T.nums, c ∉ T.kids k) (hk : ∀ o ∈ T.kids p, o ∈ T.nums ∧ ∀ k ∈ T.nums, k ≠ p → o ∉ T.kids k) (hnd : (T.kids p).Nodup) (hlen : (T.kids c).length + (T.kids p).length ≤ 40) :
  ∃ L' st', bodyM pi01 (phi pi01 (n + 4)) hd m_excl [.ref (L (.A p)), .ref (L (.A c))] st = .ok .none st' ∧ (∀ k, L' (.A k) = L (.A k)) ∧ SY (T.alone p c) L' (ext own st.next) st' ∧ Fr own st st' := by
 obtain ⟨Q, h1, h2⟩ := H.ss
 have hA := h1.cc (.A p) hp
 have lA := h1.at_ (.A p) hp
 have lC := h1.at_ (.ch p) hp
 have nAC : L (.A p) ≠ L (.ch p) := fun e => (by have h := h1.inj (.A p) (.ch p) hp hp e; contradiction)
 have S1 := h1.newCh (a := st.next) (h' := upd (upd st.heap st.next (.list [])) (L (.A p)) (.inst (putR "children" (.ref st.next) (sfs T L p)))) (nx' := st.next + 1) hp ⟨Nat.le_refl _, Nat.lt_succ_self _⟩ ((uO (Nat.ne_of_gt lA.1)).trans (uS _ _ _)) (uS _ _ _) fun b hb _ hne => (uO hne).trans (uO (Nat.ne_of_lt hb))
 have eA : Lset L (.ch p) st.next (.A p) = L (.A p) := Lset_A (r0 := .ch p) (fun c q => (by contradiction)) p
 have e1 := sfs_ch (T := T) (L := L) (k := p) (a := st.next)
 have hA1 := S1.cc (.A p) hp
 have S2 := S1.newCq (k := p) (a := st.next + 1) (xs := []) (q := []) (h' := upd (upd (upd (upd st.heap st.next (.list [])) (L (.A p)) (.inst (putR "children" (.ref st.next) (sfs T L p)))) (st.next + 1) (.list [])) (L (.A p)) (.inst (putR "child_queue" (.ref (st.next + 1)) (sfs T (Lset L (.ch p) st.next) p)))) (nx' := st.next + 2) hp ⟨Nat.le_refl _, Nat.lt_succ_self _⟩
  ((uO (by have := lA.1; lia)).trans (uS _ _ _)) trivial (fun _ h => (zL h)) ⟨List.Pairwise.nil, (fun _ h => zL h), Nat.zero_le _⟩ (by rw [eA]; exact uS _ _ _) fun b hb _ hne _ => by rw [eA] at hne; exact (uO hne).trans (uO (Nat.ne_of_lt hb))
 have eA2 : Lset (Lset L (.ch p) st.next) (.cq p) (st.next + 1) (.A p) = L (.A p) := (Lset_A (r0 := .cq p) (fun c q => (by contradiction)) p).trans eA
 have e2 := sfs_cq (T := T) (L := Lset L (.ch p) st.next) (k := p) (a := st.next + 1)
 have S3 := S2.inst (T' := T.cut p) (k := p) (fs := putR "last_weight" (.int 0) (sfs T (Lset (Lset L (.ch p) st.next) (.cq p) (st.next + 1)) p)) hp rfl rfl (fun j hj => by
   show sf j _ _ _ _ _ (fset T.last p 0 j) _ = _
   rw [fO hj]; rfl) (by
   show _ = sf p _ _ _ _ _ (fset T.last p 0 p) _
   rw [fS]; rfl)
 rw [eA2] at S3
 have Y3 : SY (T.cut p) (Lset (Lset L (.ch p) st.next) (.cq p) (st.next + 1)) (ext own st.next) ⟨_, st.next + 2, updL (fun x => (m_excl.params.zip [V.ref (L (.A p)), V.ref (L (.A c))]).lookup x) "old_children" (.ref (L (.ch p)))⟩ :=
  SY.grow (own := ext (ext own st.next) (st.next + 1)) (st := ⟨_, st.next + 2, fun _ => none⟩) ⟨_, S3, fun k hk' => by
   show List.Perm (fset Q p [] k) ((fset T.kids p [] k).map fun c => (T.lev c, c))
   by_cases e : k = p
   ·subst e; rw [fS, fS]; exact .refl _
   ·rw [fO e, fO e]; exact h2 k hk'⟩ (fun _ _ _ => rfl) (Nat.le_refl _) fun b hb => hb.elim (fun q => q) fun q => .inr (by lia)
 generalize hL' : Lset (Lset L (.ch p) st.next) (.cq p) (st.next + 1) = L' at *
 have LA : ∀ k, L' (.A k) = L (.A k) := fun k => by rw [← hL']; exact (Lset_A (r0 := .cq p) (fun c q => (by contradiction)) k).trans (Lset_A (r0 := .ch p) (fun c q => (by contradiction)) k)
 have lO : L (.ch p) < st.next := lC.1
 have hO : upd (upd (upd (upd (upd st.heap st.next (.list [])) (L (.A p)) (.inst (putR "children" (.ref st.next) (sfs T L p)))) (st.next + 1) (.list [])) (L (.A p)) (.inst (putR "child_queue" (.ref (st.next + 1)) (sfs T (Lset L (.ch p) st.next) p)))) (L (.A p)) (.inst (putR "last_weight" (.int 0) (sfs T L' p))) (L (.ch p)) = some (.list ((T.kids p).map fun c => .ref (L (.A c)))) :=
  (uO nAC.symm).trans ((uO nAC.symm).trans ((uO (by lia)).trans ((uO nAC.symm).trans ((uO (Nat.ne_of_lt lO)).trans (h1.cc (.ch p) hp)))))
 have Y3x := Y3.apart hO fun r hr e => by
  rw [← hL'] at e
  by_cases q1 : r = .cq p
  ·rw [q1, show Lset (Lset L (.ch p) st.next) (.cq p) (st.next + 1) (.cq p) = st.next + 1 from if_pos rfl] at e; lia
  ·rw [show Lset (Lset L (.ch p) st.next) (.cq p) (st.next + 1) r = Lset L (.ch p) st.next r from if_neg q1] at e
   by_cases q2 : r = .ch p
   ·rw [q2, show Lset L (.ch p) st.next (.ch p) = st.next from if_pos rfl] at e; lia
   ·rw [show Lset L (.ch p) st.next r = L r from if_neg q2] at e
    exact q2 (h1.inj r (.ch p) hr hp e)
 have kc : ∀ k, k ≠ p → (T.cut p).kids k = T.kids k := fun k hk' => fO hk'
 have kp : (T.cut p).kids p = [] := fS
 obtain ⟨st4, r1, r2, r3⟩ := add_spec (n := n) (hd := hd) Y3x (p := p) (c := c) hp hc hpc (fun k hk' => by
   by_cases e : k = p
   ·rw [e, kp]; exact fun q => zL q
   ·rw [kc k e]; exact hf k hk') (by rw [kp]; decide)
 have hno : ¬ (ext own st.next (L (.ch p)) ∧ L (.ch p) ≠ L (.ch p)) := fun q => q.2 rfl
 have hk4 : ∀ k, ((T.cut p).lay p c).kids k = if k = p then [c] else T.kids k := fun k => by
  show fset (T.cut p).kids p ((T.cut p).kids p ++ [c]) k = _
  by_cases e : k = p
  ·rw [e, fS, kp, if_pos rfl]; rfl
  ·rw [fO e, kc k e, if_neg e]
 have W : Wp (denS pi01 (phi pi01 (n + 4)) { names := m_excl.scope.names, cells := [], hd } (m_excl.body.getD 5 (.Pass default))) st4 fun f s => f = .next ∧ SY (T.alone p c) L' (ext own st.next) s ∧ st4.next ≤ s.next ∧ ∀ a, a < st.next → ¬ own a → s.heap a = st.heap a := by
  refine lays_loop (T := (T.cut p).lay p c) (L := L') (own := fun b => ext own st.next b ∧ b ≠ L (.ch p)) (st := st4) (c := c) (os := T.kids p) (old := L (.ch p)) (by decide) (nm (by decide)) (nm (by decide)) (by decide) (by decide) (by decide) rfl (bN (by decide) (nm (by decide)) (by rw [r3.loc]; exact cS))
    (r2.grow (fun _ _ _ => rfl) (Nat.le_refl _) fun b hb => hb.elim (fun q => q) fun q => ⟨.inr (by show st.next ≤ b; have : st.next + 2 ≤ b := q; lia), by have : st.next + 2 ≤ b := q; lia⟩)
    ((r3.heap _ (by show L (.ch p) < st.next + 2; lia) hno).trans (hO.trans (by congr 2; exact List.map_congr_left fun o _ => by rw [LA]))) hno (ltl (by show L (.ch p) < st.next + 2; lia) r3.le) hc (by rw [r3.loc, LA]; exact (cO (by decide)).trans rfl) hnd
    (fun o ho => ⟨(hk o ho).1, fun e => hf p hp (e ▸ ho), fun k hk' => by
     rw [hk4]
     by_cases e : k = p
     ·rw [if_pos e]; exact fun q => hf p hp (smp q ▸ ho)
     ·rw [if_neg e]; exact (hk o ho).2 k hk' e⟩) (by rw [hk4, if_neg (Ne.symm hpc)]; exact hlen)
    fun s g1 g2 g3 g4 => ⟨rfl, g1.grow (fun _ _ _ => rfl) (Nat.le_refl _) (fun b hb => hb.elim (fun q => q.1) fun q => .inr (by have := r3.le; have : st.next + 2 ≤ st4.next := this; lia)), g2, fun a ha hna => ?_⟩
  have le4 : st.next + 2 ≤ st4.next := r3.le
  have a0 : a ≠ L (.A p) := by rintro rfl; exact hna lA.2
  have hx : ¬ (ext own st.next a ∧ a ≠ L (.ch p)) := fun q => q.1.elim hna fun z => absurd ha (Nat.not_lt.mpr z)
  refine (g3 a (by lia) hx).trans ((r3.heap a (by show a < st.next + 2; lia) hx).trans ?_)
  exact (uO a0).trans ((uO a0).trans ((uO (by lia)).trans ((uO a0).trans (uO (Nat.ne_of_lt ha)))))
 obtain ⟨f, s5, e5, rfl, y1, y2, y3⟩ := W
 rw [LA, LA] at r1
 ·refine ⟨L', { s5 with loc := st.loc }, bO (f := .next) (s' := s5) ⟨rfl, by decide⟩ ?_, LA, ⟨y1.ss⟩, ⟨by show st.next ≤ s5.next; have := r3.le; have : st.next + 2 ≤ st4.next := this; lia, rfl, y3⟩⟩
  have ns : ∀ {o : Nat → Option AObj} {k : Nat} {v : V} {pp : Pos}, denE pi01 (phi pi01 (n + 4)) { names := m_excl.scope.names, cells := [], hd } (.Name "self" pp) ⟨o, k, updL (fun x => (m_excl.params.zip [V.ref (L (.A p)), V.ref (L (.A c))]).lookup x) "old_children" v⟩ = .ok (.ref (L (.A p))) ⟨o, k, updL (fun x => (m_excl.params.zip [V.ref (L (.A p)), V.ref (L (.A c))]).lookup x) "old_children" v⟩ := bN (by decide) (nm (by decide)) ((cO (by decide)).trans rfl)
  refine sC (sA rfl (bA rfl (bN (by decide) (nm (by decide)) rfl) hA (by decide) (by decide) rfl) (aN (nm (by decide)))) ?_
  refine sC (sA rfl (b_list rfl bE) (a_attr ns ((uO (Nat.ne_of_lt lA.1)).trans hA) (by decide) ⟨by decide, by show (8 : Nat) < 100; decide⟩)) ?_
  refine sC (sA rfl (b_list rfl bE) (a_attr ns ((uO (by have := lA.1; show L (.A p) ≠ st.next + 1; lia)).trans ((uS _ _ _).trans (congrArg (fun x => some (AObj.inst x)) e1.symm))) (by decide) ⟨by decide, by show (8 : Nat) < 100; decide⟩)) ?_
  refine sC (sA rfl bI (a_attr ns ((uS _ _ _).trans (congrArg (fun x => some (AObj.inst x)) e2.symm)) (by decide) ⟨by decide, by show (8 : Nat) < 100; decide⟩)) ?_
  refine sC (s_expr rfl (b_meth (by decide) rfl ns (uS _ _ _) rfl (by decide) (bC (bN (by decide) (nm (by decide)) ((cO (by decide)).trans rfl)) bE) r1)) (sC e5 sN)
section
theorem t_attr {P : PI} {Φ : Phi} {ev : AEnv} {v : Expr} {x : Str} {p : Pos} {m : M V} {st s1 : S} {i : Nat} {xs : List V} (h : m st = .ok (.ref i) s1) (hi : s1.heap i = some (.list xs)) (hl : xs.length < 100000) : denT P Φ ev (.Attribute v x p) m st = .ok (!xs.isEmpty) s1 := bS h (bS (rdS_list hi) (b_if hl rfl))
theorem Wp_whileL {α : Type} {I : List α → S → Prop} {next : M Bool} {body : M Flow} {Q : Flow → S → Prop} (ht : ∀ a r s, I (a :: r) s → ∃ s', next s = .ok true s' ∧ Wp body s' (Turn Q (I r))) (hf : ∀ s, I [] s → ∃ s', next s = .ok false s' ∧ Q .next s') :
  ∀ (fuel k : Nat) (l : List α) (s : S), l.length < fuel → I l s → Wp (loopD fuel (fun _ => next) body k) s Q
 | 0, _, _, _, hl, _ => absurd hl (Nat.not_lt_zero _)
 | fuel + 1, k, [], s, hl, hI => by
  obtain ⟨s', e, q⟩ := hf s hI
  exact ⟨_, s', bS e (b_ifn Bool.false_ne_true rfl), q⟩
 | fuel + 1, k, a :: r, s, hl, hI => by
  obtain ⟨s', e, f, s'', e2, q⟩ := ht a r s hI
  cases f with
  | next =>
   obtain ⟨b, t, e3, q'⟩ := Wp_whileL ht hf fuel (k + 1) r s'' (Nat.lt_of_succ_lt_succ hl) q
   exact ⟨b, t, bS e (b_if rfl (bS e2 e3)), q'⟩
  | cont =>
   obtain ⟨b, t, e3, q'⟩ := Wp_whileL ht hf fuel (k + 1) r s'' (Nat.lt_of_succ_lt_succ hl) q
   exact ⟨b, t, bS e (b_if rfl (bS e2 e3)), q'⟩
  | brk => exact ⟨_, s'', bS e (b_if rfl (bS e2 rfl)), q⟩
  | ret v => exact ⟨_, s'', bS e (b_if rfl (bS e2 rfl)), q⟩
theorem Itms.mono2 {h h' : Nat → Option AObj} {ad : Int → Nat} : ∀ {xs : List Nat} {ks : List (Int × Int)}, (∀ x ∈ xs, ∀ v, h x = some (.tup v) → h' x = some (.tup v)) → Itms h ad xs ks → Itms h' ad xs ks
 | [], [], _, _ => trivial
 | x :: _, _ :: _, hk, i => ⟨hk x (.head _) _ i.1, Itms.mono2 (fun y hy => hk y (.tail _ hy)) i.2⟩
 | [], _ :: _, _, i => i.elim
 | _ :: _, [], _, i => i.elim
section
variable {n : Nat} {hd : Bool} {st : S}
theorem hit_run {l b : Nat} {fo fb : List (Str × V)} {o c : Int} (h1 : st.heap l = some (.inst fo)) (h2 : getR "stream_id" fo = some (.int o)) (h3 : st.heap b = some (.inst fb)) (h4 : getR "stream_id" fb = some (.int c)) : hitM pi01 (phi pi01 (n + 1)) hd (.ref l) (.ref b) st = .ok (o == c) st := by
 refine bS (bG (a := ()) (by show (if (isInst st.heap (.ref l) && isInst st.heap (.ref b)) = true then some () else none) = some (); rw [isInst_at h1, isInst_at h3]; rfl)) ?_
 by_cases e : l = b
 ·subst e
  rw [h1] at h3; obtain rfl := AObj.inst.inj (sj h3)
  rw [h2] at h4; cases h4
  exact b_if rfl (by rw [beq_self_eq_true]; rfl)
 ·exact b_ifn (fun q => e (by injection q)) (bS (eq_run (n := n) h1 h3 h2 h4) rfl)
theorem remove_go {i b : Nat} {kids : List Int} {ad : Int → Nat} {fb : List (Str × V)} {c : Int} (hi : st.heap i = some (.list (kids.map fun o => .ref (ad o)))) (hk : ∀ o ∈ kids, IdAt st.heap ad o) (h3 : st.heap b = some (.inst fb)) (h4 : getR "stream_id" fb = some (.int c)) (hnd : kids.Nodup) (hlen : kids.length < 1000) :
  ∀ (rest : List Int) (k fuel : Nat), kids.drop k = rest → rest.length < fuel → (∀ o ∈ kids.take k, o ≠ c) → removeN pi01 (phi pi01 (n + 1)) hd i (.ref b) fuel k st = if c ∈ rest then .ok .none { st with heap := upd st.heap i (.list ((kids.filter fun o => o != c).map fun o => .ref (ad o))) } else .exc .value st
 | _, _, 0, _, hf, _ => absurd hf (Nat.not_lt_zero _)
 | [], k, fuel + 1, e, _, _ => by
  rw [if_neg (fun q => zL q)]
  refine bS (rdL_at hi) ?_
  rw [List.getElem?_map, List.getElem?_eq_none (List.drop_eq_nil_iff.mp e)]
  rfl
 | o :: rest, k, fuel + 1, e, hf, hno => by
  have hkl : k < kids.length := by
   rcases Nat.lt_or_ge k kids.length with h | h
   ·exact h
   ·rw [List.drop_of_length_le h] at e; contradiction
  have e' := e
  rw [List.drop_eq_getElem_cons hkl] at e
  have e0 := (List.cons.inj e).1
  replace e := (List.cons.inj e).2
  obtain ⟨fo, f1, f2⟩ := hk o (by rw [← e0]; exact List.getElem_mem _)
  have look : (kids.map fun o => V.ref (ad o))[k]? = some (.ref (ad o)) := by rw [List.getElem?_map, List.getElem?_eq_getElem hkl, e0]; rfl
  by_cases hoc : o = c
  ·rw [if_pos (by rw [hoc]; exact .head _)]
   refine bS (rdL_at hi) ?_
   rw [look]
   refine bS (hit_run (n := n) f1 f2 h3 h4) (b_if (by rw [hoc, beq_self_eq_true]) (bS (rdL_at hi) (b_if ⟨by rw [List.length_map]; exact hkl, by rw [List.length_map]; lia⟩ ?_)))
   have ef : kids.eraseIdx k = kids.filter fun o => o != c := by
    have ek : kids = kids.take k ++ o :: rest := by rw [← e', List.take_append_drop]
    have nr : c ∉ rest := by
     rw [ek] at hnd
     have := (List.nodup_append.mp hnd).2.1
     rw [List.nodup_cons, hoc] at this
     exact this.1
    rw [List.eraseIdx_eq_take_drop_succ, e]
    conv => rhs; rw [ek]
    rw [List.filter_append, List.filter_cons_of_neg (by simp [hoc]), List.filter_eq_self.mpr fun x hx => bne_iff_ne.mpr (hno x hx), (List.filter_eq_self (l := rest)).mpr (by intro x hx; show (x != c) = true; rw [bne_iff_ne]; rintro rfl; exact nr hx)]
   rw [← ef]
   refine congrArg (fun l => R.ok V.none { st with heap := upd st.heap i (.list l) }) ?_
   rw [List.eraseIdx_eq_take_drop_succ, List.eraseIdx_eq_take_drop_succ, List.map_append, List.map_take, List.map_drop]
  ·have ih := remove_go hi hk h3 h4 hnd hlen rest (k + 1) fuel e (Nat.lt_of_succ_lt_succ hf) fun x hx => by
    rw [List.take_add_one, List.getElem?_eq_getElem hkl, e0] at hx
    rcases List.mem_append.mp hx with hx | hx
    ·exact hno x hx
    ·rw [smp hx]; exact hoc
   have hm : (c ∈ o :: rest) ↔ c ∈ rest := ⟨fun q => (List.mem_cons.mp q).resolve_left fun z => hoc z.symm, .tail _⟩
   have e2 : ∀ (A B : R V), (if c ∈ o :: rest then A else B) = if c ∈ rest then A else B := fun A B => by
    by_cases z : c ∈ rest
    ·rw [if_pos z, if_pos (hm.mpr z)]
    ·rw [if_neg z, if_neg fun q => z (hm.mp q)]
   rw [e2, ← ih]
   refine bS (rdL_at hi) ?_
   rw [look]
   exact bS (hit_run (n := n) f1 f2 h3 h4) (b_ifn (by rw [beq_eq_false_iff_ne.mpr hoc]; exact Bool.false_ne_true) rfl)
end
noncomputable abbrev evR (hd : Bool) : AEnv := { names := m_rem.scope.names, cells := [], hd }
noncomputable def remW : Stmt := m_rem.body.getD 2 (.Pass default)
structure SG (T : Tab) (L : Rl → Nat) (own : Nat → Prop) (F : List (Int × Int)) (s0 : S) (n0 nq lq : Nat) (ys : List Nat) (ks : List (Int × Int)) (s : S) : Prop where
 q : s.heap nq = some (.list (ys.map .ref))
 it : Itms s.heap (fun c => L (.A c)) ys ks
 ow : ∀ y ∈ ys, y < s.next ∧ ext own n0 y
 srt : Srt T ks
 pm : ks.Perm F
 le : s0.next ≤ s.next
 old : ∀ a, a < s0.next → a ≠ lq → a ≠ nq → s.heap a = s0.heap a
 loc : ∀ z : Str, z ≠ "level" → z ≠ "stream" → s.loc z = s0.loc z
structure SV (T : Tab) (L : Rl → Nat) (own : Nat → Prop) (Q : Int → List (Int × Int)) (s0 : S) (n0 nq : Nat) (p c : Int) (done : List (Int × Int)) (xs ys : List Nat) (ls ks : List (Int × Int)) (s : S) : Prop where
 all : done ++ ks = Q p
 cq : s.heap (L (.cq p)) = some (.list (xs.map .ref))
 it : Itms s.heap (fun c => L (.A c)) xs ks
 old : ∀ x ∈ xs, x < n0
 g : SG T L own (done.filter fun e => e.2 != c) s0 n0 nq (L (.cq p)) ys ls s
theorem sift {n : Nat} {hd : Bool} {T : Tab} {L : Rl → Nat} {Q : Int → List (Int × Int)} {own : Nat → Prop} {s0 : S} {n0 nq : Nat} {p c : Int} (H : SS T L Q own s0.heap n0) (hp : p ∈ T.nums) (hc : c ∈ T.nums) (hnq : n0 ≤ nq ∧ nq < s0.next) (h0 : s0.heap nq = some (.list [])) (hnd : ((Q p).map (·.2)).Nodup)
  (ls : s0.loc "self" = some (.ref (L (.A p)))) (lc : s0.loc "child" = some (.ref (L (.A c)))) (ln : s0.loc "new_queue" = some (.ref nq)) :
  Wp (denS pi01 (phi pi01 (n + 3)) (evR hd) remW) s0 fun f s => f = .next ∧ ∃ ys ks, SG T L own ((Q p).filter fun e => e.2 != c) s0 n0 nq (L (.cq p)) ys ks s := by
 have lq := H.at_ (.cq p) hp
 have far : ∀ k, k ∈ T.nums → L (.A k) ≠ L (.cq p) ∧ L (.A k) ≠ nq ∧ L (.A k) < s0.next := fun k hk => by
  have := H.at_ (.A k) hk
  exact ⟨fun e => ((by have h := H.inj (.A k) (.cq p) hk hp e; contradiction)), by lia, by lia⟩
 obtain ⟨xs0, x1, x2, x3⟩ := H.cc (.cq p) hp
 have W : Wp (loopD wlim (fun _ => denT pi01 (phi pi01 (n + 3)) (evR hd) (whileT remW) (denE pi01 (phi pi01 (n + 3)) (evR hd) (whileT remW))) (denSs pi01 (phi pi01 (n + 3)) (evR hd) (whileB remW)) 0) s0 (fun f s => f = .next ∧ ∃ ys ks, SG T L own ((Q p).filter fun e => e.2 != c) s0 n0 nq (L (.cq p)) ys ks s) := by
  refine Wp_whileL (I := fun ks s => ∃ done xs ys ls, SV T L own Q s0 n0 nq p c done xs ys ls ks s) ?ht ?hf wlim 0 (Q p) s0 (by have := (H.srt p hp).2.2; show _ < 100; lia) ⟨[], xs0, [], [], ⟨rfl, x1, x2, fun x hx => (x3 x hx).1, ⟨h0, trivial, (fun _ h => zL h), ⟨List.Pairwise.nil, (fun _ h => zL h), Nat.zero_le _⟩, .refl _, Nat.le_refl _, fun _ _ _ _ => rfl, fun _ _ _ => rfl⟩⟩⟩
  case hf =>
   rintro s ⟨done, xs, ys, ls', G⟩
   cases xs with
   | cons _ _ => exact G.it.elim
   | nil =>
    obtain ⟨f1, f2, f3⟩ := far p hp
    refine ⟨s, t_attr (xs := []) (bA rfl (bN (by decide) (nm (by decide)) ((G.g.loc _ (by decide) (by decide)).trans ls)) ((G.g.old _ f3 f1 f2).trans (H.cc (.A p) hp)) (by decide) (by decide) rfl) G.cq (by decide), rfl, ys, ls', { G.g with pm := ?_ }⟩
    rw [← G.all, List.append_nil]; exact G.g.pm
  case ht =>
   rintro e r s ⟨done, xs, ys, ls', G⟩
   cases xs with
   | nil => exact G.it.elim
   | cons x xs =>
    obtain ⟨f1, f2, f3⟩ := far p hp
    have self : ∀ {p1 p2 : Pos}, denE pi01 (phi pi01 (n + 3)) (evR hd) (.Attribute (.Name "self" p1) "child_queue" p2) s = .ok (.ref (L (.cq p))) s := bA rfl (bN (by decide) (nm (by decide)) ((G.g.loc _ (by decide) (by decide)).trans ls)) ((G.g.old _ f3 f1 f2).trans (H.cc (.A p) hp)) (by decide) (by decide) rfl
    have hem : e ∈ Q p := by rw [← G.all]; exact List.mem_append_right _ (.head _)
    have hen := (H.srt p hp).2.1 e hem
    have hql := (H.srt p hp).2.2
    have ndc : xs.length ≤ 40 := by
     have := G.it.2.length
     have : (Q p).length = done.length + (r.length + 1) := by rw [← G.all, List.length_append]; rfl
     lia
    have i2 := G.cq
    have i5 := G.g.q
    have i10 := G.g.le
    have tx : x ≠ L (.cq p) := by rintro rfl; rw [G.it.1] at i2; injection i2 with q; contradiction
    have nqp : nq ≠ L (.cq p) := by have := lq.1; lia
    refine ⟨s, t_attr (xs := V.ref x :: xs.map .ref) self i2 (by rw [List.length_cons, List.length_map]; lia), ?_⟩
    have inst : ∀ k, k ∈ T.nums → upd s.heap (L (.cq p)) (.list (xs.map .ref)) (L (.A k)) = some (.inst (sfs T L k)) := fun k hk => (uO (far k hk).1).trans ((G.g.old _ (far k hk).2.2 (far k hk).1 (far k hk).2.1).trans (H.cc (.A k) hk))
    have s1 : denS pi01 (phi pi01 (n + 3)) (evR hd) ((whileB remW).getD 0 (.Pass default)) s = .ok .next ⟨upd s.heap (L (.cq p)) (.list (xs.map .ref)), s.next, updL (updL s.loc "level" (.int e.1)) "stream" (.ref (L (.A e.2)))⟩ :=
     sA (a := .ref x) rfl (bK (gO (nm (by decide))) rfl (by decide) (by decide) (bC self bE) (hpop_run (n := n + 2) (xs := xs.map .ref) i2 (by rw [List.length_map]; lia))) (a_tup (nm (by decide)) (nm (by decide)) ((uO tx).trans G.it.1))
    have s2 : denT pi01 (phi pi01 (n + 3)) (evR hd) (whileT ((whileB remW).getD 1 (.Pass default))) (denE pi01 (phi pi01 (n + 3)) (evR hd) (whileT ((whileB remW).getD 1 (.Pass default)))) ⟨upd s.heap (L (.cq p)) (.list (xs.map .ref)), s.next, updL (updL s.loc "level" (.int e.1)) "stream" (.ref (L (.A e.2)))⟩ = .ok (e.2 == c) ⟨upd s.heap (L (.cq p)) (.list (xs.map .ref)), s.next, updL (updL s.loc "level" (.int e.1)) "stream" (.ref (L (.A e.2)))⟩ :=
     tC (bN (by decide) (nm (by decide)) cS) (bN (by decide) (nm (by decide)) ((cO (by decide)).trans ((Lo (by decide)).trans ((G.g.loc _ (by decide) (by decide)).trans lc)))) (b_cmpObj rfl rfl (inst _ hen) (inst _ hc) (eq_run (n := n + 2) (inst _ hen) (inst _ hc) rfl rfl))
    have tups : ∀ {h' : Nat → Option AObj} {zs ks}, (∀ z v, s.heap z = some (.tup v) → h' z = some (.tup v)) → Itms s.heap (fun c => L (.A c)) zs ks → Itms h' (fun c => L (.A c)) zs ks := fun h' i => i.mono h'
    have keep1 : ∀ z v, s.heap z = some (.tup v) → upd s.heap (L (.cq p)) (.list (xs.map .ref)) z = some (.tup v) := fun z v hz => (uO (by rintro rfl; rw [hz] at i2; injection i2 with q; contradiction)).trans hz
    have i1' : (done ++ [e]) ++ r = Q p := by rw [List.append_assoc]; exact G.all
    by_cases hec : e.2 = c
    ·have e1 : denS pi01 (phi pi01 (n + 3)) (evR hd) ((whileB remW).getD 1 (.Pass default)) ⟨upd s.heap (L (.cq p)) (.list (xs.map .ref)), s.next, updL (updL s.loc "level" (.int e.1)) "stream" (.ref (L (.A e.2)))⟩ = .ok .cont ⟨upd s.heap (L (.cq p)) (.list (xs.map .ref)), s.next, updL (updL s.loc "level" (.int e.1)) "stream" (.ref (L (.A e.2)))⟩ := by
      have eb : (e.2 == c) = true := by rw [hec, beq_self_eq_true]
      rw [eb] at s2
      exact s_ifT s2 (s_contin rfl)
     refine Wp_of (a := Mine.Flow.cont) (sC s1 (s_contin e1)) ?_
     refine ⟨done ++ [e], xs, ys, ls', ⟨i1', uS _ _ _, tups keep1 G.it.2, fun z hz => G.old z (.tail _ hz), ⟨(uO nqp).trans i5, tups keep1 G.g.it, G.g.ow, G.g.srt, ?_, G.g.le, fun a h1 h2 h3 => (uO h2).trans (G.g.old a h1 h2 h3), fun z h1 h2 => (Lo h2).trans ((Lo h1).trans (G.g.loc z h1 h2))⟩⟩⟩
     rw [List.filter_append, List.filter_cons_of_neg (by simp [hec]), List.filter_nil, List.append_nil]
     exact G.g.pm
    ·have hnx : nq < s.next := by lia
     have cqx : L (.cq p) < s.next := by have := lq.1; lia
     obtain ⟨j, r1, r2, r3, r4⟩ := push_run (n := n) (hd := hd) (q := nq) (t := s.next) (k := e) (xs := ys) (ks := ls') (ad := fun c => L (.A c)) (st := ⟨upd (upd s.heap (L (.cq p)) (.list (xs.map .ref))) s.next (.tup [.int e.1, .ref (L (.A e.2))]), s.next + 1, updL (updL s.loc "level" (.int e.1)) "stream" (.ref (L (.A e.2)))⟩)
      ((uO (Nat.ne_of_lt hnx)).trans ((uO nqp).trans i5)) (G.g.it.mono2 fun z hz v hv => (uO (Nat.ne_of_lt (G.g.ow z hz).1)).trans (keep1 z v hv)) (fun d hd' => ⟨_, (uO (by have := (far _ (G.g.srt.2.1 d hd')).2.2; show L (.A d.2) ≠ s.next; lia)).trans (inst _ (G.g.srt.2.1 d hd')), rfl⟩) (uS _ _ _) ⟨_, (uO (by have := (far _ hen).2.2; show L (.A e.2) ≠ s.next; lia)).trans (inst _ hen), rfl⟩ (by rw [G.g.it.length]; have := G.g.srt.2.2; lia)
     have hne : ∀ d ∈ ls', d.2 ≠ e.2 := by
      intro d hd' q
      have h1 : d ∈ done := (List.mem_filter.mp (G.g.pm.mem_iff.mp hd')).1
      rw [← G.all, List.map_append, List.map_cons] at hnd
      exact (List.nodup_append.mp hnd).2.2 d.2 (List.mem_map.mpr ⟨d, h1, rfl⟩) e.2 (.head _) q
     obtain ⟨o1, o2⟩ := ins_sorted G.g.srt.1 r2 r3 r4 hne
     have hyl : ls'.length + 1 ≤ 40 := by
      have a1 := G.g.pm.length_eq
      have a2 := List.length_filter_le (fun d : Int × Int => d.2 != c) done
      have a3 : (Q p).length = done.length + (r.length + 1) := by rw [← G.all, List.length_append]; rfl
      lia
     have e1 : denS pi01 (phi pi01 (n + 3)) (evR hd) ((whileB remW).getD 1 (.Pass default)) ⟨upd s.heap (L (.cq p)) (.list (xs.map .ref)), s.next, updL (updL s.loc "level" (.int e.1)) "stream" (.ref (L (.A e.2)))⟩ = .ok .next ⟨upd s.heap (L (.cq p)) (.list (xs.map .ref)), s.next, updL (updL s.loc "level" (.int e.1)) "stream" (.ref (L (.A e.2)))⟩ := by
      rw [beq_eq_false_iff_ne.mpr hec] at s2
      exact s_ifF s2 sN
     refine Wp_of (a := Mine.Flow.next) (sC s1 (sC e1 (sC (s_expr rfl (bK (gO (nm (by decide))) rfl (by decide) (by decide) (bC (bN (by decide) (nm (by decide)) ((cO (by decide)).trans ((Lo (by decide)).trans ((G.g.loc _ (by decide) (by decide)).trans ln)))) (bC (b_tuple rfl (bC (bN (by decide) (nm (by decide)) ((cO (by decide)).trans lS)) (bC (bN (by decide) (nm (by decide)) cS) bE))) bE)) r1)) sN))) ?_
     have tn : ∀ z v, s.heap z = some (.tup v) → z ≠ nq := by rintro z v hz rfl; rw [hz] at i5; injection i5 with q; contradiction
     have keep3 : ∀ z v, s.heap z = some (.tup v) → z < s.next → upd (upd (upd s.heap (L (.cq p)) (.list (xs.map .ref))) s.next (.tup [.int e.1, .ref (L (.A e.2))])) nq (.list ((ys.take j ++ s.next :: ys.drop j).map .ref)) z = some (.tup v) := fun z v hz hl => (uO (tn z v hz)).trans ((uO (Nat.ne_of_lt hl)).trans (keep1 z v hz))
     refine ⟨done ++ [e], xs, ys.take j ++ s.next :: ys.drop j, ls'.take j ++ e :: ls'.drop j, ⟨i1', (uO nqp.symm).trans ((uO (Nat.ne_of_lt cqx)).trans (uS _ _ _)), G.it.2.mono2 fun z hz v hv => keep3 z v hv (by have := G.old z (.tail _ hz); lia), fun z hz => G.old z (.tail _ hz), ⟨uS _ _ _,
      (G.g.it.mono2 fun z hz v hv => keep3 z v hv (G.g.ow z hz).1).insert ((uO (Nat.ne_of_gt hnx)).trans (uS _ _ _)), ?_, ⟨o1, ?_, by rw [o2.length_eq]; exact hyl⟩, ?_, by show s0.next ≤ s.next + 1; lia, fun a h1 h2 h3 => (uO h3).trans ((uO (by lia)).trans ((uO h2).trans (G.g.old a h1 h2 h3))), fun z h1 h2 => (Lo h2).trans ((Lo h1).trans (G.g.loc z h1 h2))⟩⟩⟩
     ·intro y hy
      have old : ∀ y ∈ ys, y < s.next + 1 ∧ ext own n0 y := fun y hy => ⟨Nat.lt_succ_of_lt (G.g.ow y hy).1, (G.g.ow y hy).2⟩
      rcases List.mem_append.mp hy with hy | hy
      ·exact old y (List.mem_of_mem_take hy)
      ·rcases List.mem_cons.mp hy with rfl | hy
       ·exact ⟨Nat.lt_succ_self _, .inr (by lia)⟩
       ·exact old y (List.mem_of_mem_drop hy)
     ·intro d hd'
      rcases List.mem_cons.mp (o2.mem_iff.mp hd') with rfl | hd'
      ·exact hen
      ·exact G.g.srt.2.1 d hd'
     ·rw [List.filter_append, List.filter_cons_of_pos (by simp [hec]), List.filter_nil]
      exact o2.trans ((G.g.pm.cons e).trans (List.perm_append_singleton _ _).symm)
 obtain ⟨f, s, e, q⟩ := W
 exact ⟨f, s, b_if (c := ([] : List Stmt).isEmpty = true) (m' := failM) rfl e, q⟩
noncomputable def Tab.off (T : Tab) (p c : Int) : Tab := { T with kids := fset T.kids p ((T.kids p).filter fun o => o != c) }
noncomputable abbrev remL (L : Rl → Nat) (p c : Int) (b : Bool) : Str → Option V := fun x => (m_rem.params.zip [V.ref (L (.A p)), V.ref (L (.A c)), V.bool b]).lookup x
theorem rem_m {P : PI} {Φ : Phi} {i : Nat} {x : Str} {v : V} {st : S} {r : R V} (h : removeN P Φ false i v wlim 0 st = r) : methodM P Φ false .remove i x [v] [] st = r :=
 b_if (c := ([] : List (Str × V)).isEmpty = true ∧ false = false) (m' := failM) ⟨rfl, rfl⟩ h
theorem rem_core {n : Nat} {T : Tab} {L : Rl → Nat} {own : Nat → Prop} {st : S} (H : SY T L own st) {p c : Int} {b : Bool} (hp : p ∈ T.nums) (hc : c ∈ T.nums) (hck : c ∈ T.kids p) (hk : ∀ o ∈ T.kids p, o ∈ T.nums) (hnd : (T.kids p).Nodup) :
  ∃ L' s4, (∀ r, denSs pi01 (phi pi01 (n + 4)) (evR false) (m_rem.body.drop 4) s4 = r → denSs pi01 (phi pi01 (n + 4)) (evR false) m_rem.body ⟨st.heap, st.next, remL L p c b⟩ = r) ∧ (∀ k, L' (.A k) = L (.A k)) ∧ SY (T.off p c) L' (ext own st.next) s4 ∧ st.next ≤ s4.next ∧ (∀ a, a < st.next → ¬ own a → s4.heap a = st.heap a) ∧ ∀ z : Str, z ≠ "level" → z ≠ "stream" → z ≠ "new_queue" → s4.loc z = remL L p c b z := by
 obtain ⟨Q, h1, h2⟩ := H.ss
 have hA := h1.cc (.A p) hp
 have hC := h1.cc (.ch p) hp
 have lA := h1.at_ (.A p) hp
 have lQ := h1.at_ (.cq p) hp
 have few := h1.few p hp
 have g := remove_go (n := n + 3) (hd := false) (st := ⟨st.heap, st.next, remL L p c b⟩) (i := L (.ch p)) (b := L (.A c)) (kids := T.kids p) (ad := fun c => L (.A c)) hC (fun o ho => h1.id (hk o ho)) (h1.cc (.A c) hc) rfl hnd (by lia) (T.kids p) 0 wlim rfl (by show _ < 100; lia) (fun _ h => zL h)
 rw [if_pos hck] at g
 have S1 : SS (T.off p c) L Q own (upd st.heap (L (.ch p)) (.list (((T.kids p).filter fun o => o != c).map fun c => .ref (L (.A c))))) st.next := h1.kid hp (Nat.le_trans (List.length_filter_le _ _) few)
 have S2 := S1.grow (own' := own) (h' := upd (upd st.heap (L (.ch p)) (.list (((T.kids p).filter fun o => o != c).map fun c => .ref (L (.A c))))) st.next (.list [])) (nx' := st.next) (fun a ha _ => uO (Nat.ne_of_lt ha)) (Nat.le_refl _) fun a h => h
 have hA1 := S1.cc (.A p) hp
 have qn : ((Q p).map (·.2)).Nodup := by
  have e := (h2 p hp).map (fun e : Int × Int => e.2)
  rw [List.map_map] at e
  exact e.nodup_iff.mpr (by rw [show ((fun e : Int × Int => e.2) ∘ fun c => (T.lev c, c)) = id from rfl, List.map_id]; exact hnd)
 obtain ⟨f, s, e, rfl, ys, ks, W⟩ := sift (n := n + 1) (hd := false) (s0 := ⟨_, st.next + 1, updL (remL L p c b) "new_queue" (.ref st.next)⟩) (n0 := st.next) (nq := st.next) (p := p) (c := c) S2 hp hc ⟨Nat.le_refl _, Nat.lt_succ_self _⟩ (uS _ _ _) qn ((cO (by decide)).trans rfl) ((cO (by decide)).trans rfl) cS
 have nAQ : L (.A p) ≠ L (.cq p) := fun e => (by have h := h1.inj (.A p) (.cq p) hp hp e; contradiction)
 have hAs : s.heap (L (.A p)) = some (.inst (sfs (T.off p c) L p)) := (W.old _ (by show _ < st.next + 1; lia) nAQ (by have := lA.1; lia)).trans (S2.cc (.A p) hp)
 have w6' : st.next + 1 ≤ s.next := W.le
 have S3 := S2.newCq (k := p) (a := st.next) (h' := upd s.heap (L (.A p)) (.inst (putR "child_queue" (.ref st.next) (sfs (T.off p c) L p)))) (nx' := s.next) (xs := ys) (q := ks) hp ⟨Nat.le_refl _, w6'⟩ ((uO (Nat.ne_of_gt lA.1)).trans W.q) (W.it.mono fun x v hx => (uO (by rintro rfl; rw [hAs] at hx; nomatch hx)).trans hx) W.ow W.srt (uS _ _ _) fun a h1 h2 h3 h4 => (uO h3).trans (W.old a (Nat.lt_succ_of_lt h1) h4 (Nat.ne_of_lt h1))
 refine ⟨Lset L (.cq p) st.next, ⟨upd s.heap (L (.A p)) (.inst (putR "child_queue" (.ref st.next) (sfs (T.off p c) L p))), s.next, s.loc⟩, ?_, Lset_A (r0 := .cq p) (fun c q => (by contradiction)), ⟨_, S3, ?_⟩, by show st.next ≤ s.next; lia, ?_, ?_⟩
 ·intro r hr
  refine sC (s_expr rfl (b_methO (k := .remove) (by decide) rfl (bA rfl (bN (by decide) (nm (by decide)) rfl) hA (by decide) (by decide) rfl) hC rfl (bC (bN (by decide) (nm (by decide)) rfl) bE) (rem_m g))) ?_
  refine sC (sA rfl (b_list rfl bE) (aN (nm (by decide)))) ?_
  refine sC e ?_
  exact sC (sA rfl (bN (by decide) (nm (by decide)) ((W.loc _ (by decide) (by decide)).trans cS)) (a_attr (bN (by decide) (nm (by decide)) ((W.loc _ (by decide) (by decide)).trans ((cO (by decide)).trans rfl))) hAs (by decide) ⟨by decide, by show (8 : Nat) < 100; decide⟩)) hr
 ·intro k hk'
  show List.Perm (fset Q p ks k) ((fset T.kids p ((T.kids p).filter fun o => o != c) k).map fun c => (T.lev c, c))
  by_cases q : k = p
  ·subst q
   rw [fS, fS]
   refine W.pm.trans (((h2 k hp).filter _).trans ?_)
   rw [List.filter_map]
   exact .refl _
  ·rw [fO q, fO q]
   exact h2 k hk'
 ·intro a ha hna
  have a1 : a ≠ L (.A p) := by rintro rfl; exact hna lA.2
  have a2 : a ≠ L (.cq p) := by rintro rfl; exact hna lQ.2
  have a3 : a ≠ L (.ch p) := by rintro rfl; exact hna (h1.at_ (.ch p) hp).2
  exact (uO a1).trans ((W.old a (Nat.lt_succ_of_lt ha) a2 (Nat.ne_of_lt ha)).trans ((uO (Nat.ne_of_lt ha)).trans (uO a3)))
 ·intro z z1 z2 z3
  exact (W.loc z z1 z2).trans (cO z3)
theorem rem_keep {n : Nat} {T : Tab} {L : Rl → Nat} {own : Nat → Prop} {st : S} (H : SY T L own st) {p c : Int} (hp : p ∈ T.nums) (hc : c ∈ T.nums) (hck : c ∈ T.kids p) (hk : ∀ o ∈ T.kids p, o ∈ T.nums) (hnd : (T.kids p).Nodup) :
  ∃ L' st', bodyM pi01 (phi pi01 (n + 4)) false m_rem [.ref (L (.A p)), .ref (L (.A c)), .bool false] st = .ok .none st' ∧ (∀ k, L' (.A k) = L (.A k)) ∧ SY (T.off p c) L' (ext own st.next) st' ∧ Fr own st st' := by
 obtain ⟨L', s4, r1, r2, r3, r4, r5, r6⟩ := rem_core (n := n) (b := false) H hp hc hck hk hnd
 exact ⟨L', { s4 with loc := st.loc }, bO (f := .next) (s' := s4) ⟨rfl, by decide⟩ (r1 _ (sC (s_ifF (bS (bN (by decide) (nm (by decide)) ((r6 _ (by decide) (by decide) (by decide)).trans rfl)) rfl) sN) sN)), r2, ⟨r3.ss⟩, ⟨r4, rfl, r5⟩⟩
noncomputable def Tab.drop (T : Tab) (c : Int) : Tab := { T with nums := T.nums.filter fun o => o != c }
theorem dM {T : Tab} {c k : Int} : k ∈ (T.drop c).nums ↔ k ∈ T.nums ∧ k ≠ c := by
 show k ∈ T.nums.filter _ ↔ _
 rw [List.mem_filter, bne_iff_ne]
theorem SY.drop {T : Tab} {L : Rl → Nat} {own : Nat → Prop} {st : S} (H : SY T L own st) {c : Int} (h : ∀ k ∈ T.nums, k ≠ c → c ∉ T.kids k) : SY (T.drop c) L own st := by
 obtain ⟨Q, h1, h2⟩ := H.ss
 refine ⟨Q, ⟨fun r hr => ?_, fun r hr => h1.at_ r (dM.mp hr).1, fun r r' hr hr' => h1.inj r r' (dM.mp hr).1 (dM.mp hr').1, fun k hk => ?_, fun k hk => h1.few k (dM.mp hk).1⟩, fun k hk => h2 k (dM.mp hk).1⟩
 ·have := h1.cc r (dM.mp hr).1
  cases r <;> exact this
 ·have hk' := dM.mp hk
  obtain ⟨a, b, d⟩ := h1.srt k hk'.1
  refine ⟨a, fun e he => dM.mpr ⟨b e he, ?_⟩, d⟩
  rintro q
  exact h k hk'.1 hk'.2 (q ▸ (h2 k hk'.1).mem he)
theorem rem_strip {n : Nat} {T : Tab} {L : Rl → Nat} {own : Nat → Prop} {st : S} (H : SY T L own st) {p c : Int} (hp : p ∈ T.nums) (hc : c ∈ T.nums) (hpc : p ≠ c) (hck : c ∈ T.kids p) (hk : ∀ o ∈ T.kids p, o ∈ T.nums) (hnd : (T.kids p).Nodup) (hcc : ∀ k ∈ T.nums, k ≠ p → c ∉ T.kids k)
  (hko : ∀ o ∈ T.kids c, o ∈ T.nums ∧ o ≠ p ∧ o ≠ c ∧ ∀ k ∈ T.nums, k ≠ c → o ∉ T.kids k) (hkn : (T.kids c).Nodup) (hlen : (T.kids p).length + (T.kids c).length ≤ 40) :
  ∃ L' st', bodyM pi01 (phi pi01 (n + 4)) false m_rem [.ref (L (.A p)), .ref (L (.A c)), .bool true] st = .ok .none st' ∧ (∀ k, L' (.A k) = L (.A k)) ∧ SY (((T.off p c).drop c).lays p (T.kids c)) L' (ext own st.next) st' ∧ Fr own st st' := by
 obtain ⟨L', s4, r1, r2, r3, r4, r5, r6⟩ := rem_core (n := n) (b := true) H hp hc hck hk hnd
 have kc : (T.off p c).kids c = T.kids c := fO (Ne.symm hpc)
 have kp : (T.off p c).kids p = (T.kids p).filter fun o => o != c := fS
 have ko : ∀ k, k ≠ p → (T.off p c).kids k = T.kids k := fun k q => fO q
 have D := r3.drop (c := c) fun k hk' q => by
  by_cases z : k = p
  ·subst z; rw [kp]; intro m; exact (bne_iff_ne.mp (List.mem_filter.mp m).2) rfl
  ·rw [ko k z]; exact hcc k hk' z
 obtain ⟨Q, h1, h2⟩ := id r3.ss
 have hC : s4.heap (L' (.ch c)) = some (.list ((T.kids c).map fun o => .ref (L' (.A o)))) := (h1.cc (.ch c) hc).trans (by rw [kc])
 have lC := h1.at_ (.ch c) hc
 have D' := D.apart hC fun r hr e => (dM.mp hr).2 (by rw [h1.inj r (.ch c) (dM.mp hr).1 hc e]; rfl)
 have W : Wp (denSs pi01 (phi pi01 (n + 4)) (evR false) (m_rem.body.drop 4)) s4 fun f s => f = .next ∧ SY (((T.off p c).drop c).lays p (T.kids c)) L' (ext own st.next) s ∧ s4.next ≤ s.next ∧ ∀ a, a < st.next → ¬ own a → s.heap a = s4.heap a := by
  have W1 : Wp (denS pi01 (phi pi01 (n + 4)) (evR false) ((whileB (m_rem.body.getD 4 (.Pass default))).getD 0 (.Pass default))) s4 fun f s => f = .next ∧ SY (((T.off p c).drop c).lays p (T.kids c)) L' (ext own st.next) s ∧ s4.next ≤ s.next ∧ ∀ a, a < st.next → ¬ own a → s.heap a = s4.heap a := by
   refine lays_loop (T := (T.off p c).drop c) (L := L') (st := s4) (c := p) (os := T.kids c) (old := L' (.ch c)) (by decide) (nm (by decide)) (nm (by decide)) (by decide) (by decide) (by decide) rfl
    (bA rfl (bN (by decide) (nm (by decide)) ((r6 _ (by decide) (by decide) (by decide)).trans rfl)) (by rw [← r2]; exact h1.cc (.A c) hc) (by decide) (by decide) rfl) D' hC (fun q => q.2 rfl) lC.1 (dM.mpr ⟨hp, hpc⟩) ((r6 _ (by decide) (by decide) (by decide)).trans (by rw [r2]; rfl)) hkn
    (fun o ho => ⟨dM.mpr ⟨(hko o ho).1, (hko o ho).2.2.1⟩, (hko o ho).2.1, fun k hk' => ?_⟩) ?_ fun s g1 g2 g3 g4 => ⟨rfl, g1.grow (fun _ _ _ => rfl) (Nat.le_refl _) (fun b hb => hb.elim (fun q => q.1) fun q => .inr (Nat.le_trans r4 q)), g2, fun a ha hna => g3 a (ltl ha r4) fun q => q.1.elim hna fun z => absurd ha (Nat.not_lt.mpr z)⟩
   ·have q := dM.mp hk'
    show o ∉ (T.off p c).kids k
    by_cases z : k = p
    ·subst z; rw [kp]; exact fun m => (hko o ho).2.2.2 k q.1 q.2 (List.mem_filter.mp m).1
    ·rw [ko k z]; exact (hko o ho).2.2.2 k q.1 q.2
   ·show ((T.off p c).kids p).length + _ ≤ 40
    rw [kp]
    have := List.length_filter_le (fun o => o != c) (T.kids p)
    lia
  obtain ⟨f, s, e, rfl, q⟩ := W1
  exact ⟨_, s, sC (s_ifT (bS (bN (by decide) (nm (by decide)) ((r6 _ (by decide) (by decide) (by decide)).trans rfl)) rfl) (sC e sN)) sN, rfl, q⟩
 obtain ⟨f, s, e, rfl, y1, y2, y3⟩ := W
 exact ⟨L', { s with loc := st.loc }, bO (f := .next) (s' := s) ⟨rfl, by decide⟩ (r1 _ e), r2, ⟨y1.ss⟩, ⟨Nat.le_trans r4 y2, rfl, fun a ha hna => (y3 a ha hna).trans (r5 a ha hna)⟩⟩
theorem rem_no {n : Nat} {T : Tab} {L : Rl → Nat} {own : Nat → Prop} {st : S} (H : SY T L own st) {p c : Int} {b : Bool} {x : Nat} {fs : List (Str × V)} (hp : p ∈ T.nums) (hx : st.heap x = some (.inst fs)) (hi : getR "stream_id" fs = some (.int c)) (hck : c ∉ T.kids p) (hk : ∀ o ∈ T.kids p, o ∈ T.nums) (hnd : (T.kids p).Nodup) :
  bodyM pi01 (phi pi01 (n + 1)) false m_rem [.ref (L (.A p)), .ref x, .bool b] st = .exc .value st := by
 obtain ⟨Q, h1, h2⟩ := H.ss
 have hA := h1.cc (.A p) hp
 have hC := h1.cc (.ch p) hp
 have few := h1.few p hp
 have g := remove_go (n := n) (hd := false) (st := ⟨st.heap, st.next, fun z => (m_rem.params.zip [V.ref (L (.A p)), V.ref x, V.bool b]).lookup z⟩) (i := L (.ch p)) (b := x) (kids := T.kids p) (ad := fun c => L (.A c)) hC (fun o ho => h1.id (hk o ho)) hx hi hnd (by lia) (T.kids p) 0 wlim rfl (by show _ < 100; lia) (fun _ h => zL h)
 rw [if_neg hck] at g
 exact body_exc (s' := ⟨st.heap, st.next, fun z => (m_rem.params.zip [V.ref (L (.A p)), V.ref x, V.bool b]).lookup z⟩) ⟨rfl, by decide⟩ (s_flies (s_exprx rfl (b_methO (k := .remove) (by decide) rfl (bA rfl (bN (by decide) (nm (by decide)) rfl) hA (by decide) (by decide) rfl) hC rfl (bC (bN (by decide) (nm (by decide)) rfl) bE) (rem_m g))))
end
section
noncomputable def le2 (p q : Int × Int) : Bool := decide (p.1 < q.1 ∨ (p.1 = q.1 ∧ p.2 ≤ q.2))
noncomputable def ins2 (p : Int × Int) : List (Int × Int) → List (Int × Int)
 | [] => [p]
 | q :: r => if le2 p q then p :: q :: r else q :: ins2 p r
noncomputable def sort2 : List (Int × Int) → List (Int × Int)
 | [] => []
 | p :: r => ins2 p (sort2 r)
theorem ins2_perm (p : Int × Int) : ∀ r, (ins2 p r).Perm (p :: r)
 | [] => .refl _
 | q :: r => by
  unfold ins2
  split
  ·exact .refl _
  ·exact ((ins2_perm p r).cons q).trans (.swap p q r)
theorem sort2_perm : ∀ l, (sort2 l).Perm l
 | [] => .refl _
 | p :: r => (ins2_perm p _).trans ((sort2_perm r).cons p)
theorem le2_iff {p q : Int × Int} : le2 p q = true ↔ p.1 < q.1 ∨ (p.1 = q.1 ∧ p.2 ≤ q.2) := decide_eq_true_iff
theorem ins2_le {p : Int × Int} : ∀ {r : List (Int × Int)}, r.Pairwise (fun a b => le2 a b = true) → (ins2 p r).Pairwise fun a b => le2 a b = true
 | [], _ => List.pairwise_singleton _ _
 | q :: r, h => by
  unfold ins2
  split
  ·rename_i hp
   refine List.pairwise_cons.mpr ⟨fun b hb => ?_, h⟩
   rcases List.mem_cons.mp hb with rfl | hb
   ·exact hp
   ·have := (List.pairwise_cons.mp h).1 b hb
    rw [le2_iff] at *
    exact lexT hp this
  ·rename_i hp
   refine List.pairwise_cons.mpr ⟨fun b hb => ?_, ins2_le (List.pairwise_cons.mp h).2⟩
   rcases List.mem_cons.mp ((ins2_perm p r).mem_iff.mp hb) with rfl | hb
   ·rw [le2_iff] at *
    exact lexO hp
   ·exact (List.pairwise_cons.mp h).1 b hb
theorem sort2_le : ∀ l, (sort2 l).Pairwise fun a b => le2 a b = true
 | [] => .nil
 | _ :: r => ins2_le (sort2_le r)
theorem sort2_of {q l : List (Int × Int)} (hs : q.Pairwise fun a b => lexLt a b = true) (hp : q.Perm l) : q = sort2 l := by
 refine (hp.trans (sort2_perm l).symm).eq_of_pairwise (le := fun a b => le2 a b = true) (fun a b _ _ h1 h2 => ?_) (hs.imp fun {a b} h => ?_) (sort2_le l)
 ·rw [le2_iff] at h1 h2
  exact Prod.ext (lexA h1 h2).1 (lexA h1 h2).2
 ·unfold lexLt at h
  rw [decide_eq_true_iff] at h
  rw [le2_iff]
  exact h.imp_right fun q => ⟨q.1, Int.le_of_lt q.2⟩
set_option genInjectivity false in
inductive Slot where
 | lev (j : Int) | over (j : Int) | last (j : Int)
 deriving DecidableEq
noncomputable abbrev Dy := Slot → Int
noncomputable def Tab.dy (T : Tab) : Dy
 | .lev j => T.lev j
 | .over j => T.over j
 | .last j => T.last j
noncomputable def Tab.wd (T : Tab) (D : Dy) : Tab := { T with lev := fun j => D (.lev j), over := fun j => D (.over j), last := fun j => D (.last j) }
noncomputable def bump (w : Int → Int) (k : Int) (e : Int × Int) (D : Dy) : Dy
 | .last j => if j = k then e.1 else D (.last j)
 | .lev j => if j = e.2 then e.1 + Int.fdiv (256 + D (.over e.2)) (w e.2) else D (.lev j)
 | .over j => if j = e.2 then Int.fmod (256 + D (.over e.2)) (w e.2) else D (.over j)
noncomputable def bumps (w : Int → Int) (k : Int) : List (Int × Int) → Dy → Dy
 | [], D => D
 | e :: r, D => bumps w k r (bump w k e D)
noncomputable def goT (T : Tab) (F : Dy → Int → Option Int × Dy) (k : Int) : List (Int × Int) → Dy → Option Int × Dy
 | [], D => (none, D)
 | e :: r, D => if T.able e.2 then (some e.2, bump T.w k e D) else
  match (F (bump T.w k e D) e.2).1 with
  | some x => (some x, (F (bump T.w k e D) e.2).2)
  | none => goT T F k r (F (bump T.w k e D) e.2).2
noncomputable def que (T : Tab) (D : Dy) (k : Int) : List (Int × Int) := sort2 ((T.kids k).map fun c => (D (.lev c), c))
noncomputable def turn (T : Tab) : Nat → Dy → Int → Option Int × Dy
 | 0, D, _ => (none, D)
 | n + 1, D, k => goT T (turn T n) k (que T D k) D
noncomputable def goP (T : Tab) (F : Dy → Int → Option Int × Dy) : List (Int × Int) → Dy → Option Int × List (Int × Int) × Dy
 | [], D => (none, [], D)
 | e :: r, D => if T.able e.2 then (some e.2, [e], D) else
  match (F D e.2).1 with
  | some x => (some x, [e], (F D e.2).2)
  | none => ((goP T F r (F D e.2).2).1, e :: (goP T F r (F D e.2).2).2.1, (goP T F r (F D e.2).2).2.2)
structure Tree (T : Tab) (rk : Int → Nat) : Prop where
 kid : ∀ k ∈ T.nums, ∀ c ∈ T.kids k, c ∈ T.nums ∧ T.par c = some k ∧ rk k < rk c
 nd : ∀ k ∈ T.nums, (T.kids k).Nodup
 wt : ∀ k ∈ T.nums, 1 ≤ T.w k ∧ T.w k ≤ 256
noncomputable def rkO (rk : Int → Nat) : Option Int → Nat
 | some p => rk p + 1
 | none => 0
noncomputable def sr (T : Tab) (rk : Int → Nat) : Slot → Nat
 | .last j => rk j + 1
 | .lev j => rkO rk (T.par j)
 | .over j => rkO rk (T.par j)
structure Foreign (T : Tab) (rk : Int → Nat) (r : Nat) (W : Dy → Dy) : Prop where
 off : ∀ D s, r < sr T rk s → W D s = D s
 on : ∀ D E, (∀ s, sr T rk s ≤ r → D s = E s) → ∀ s, sr T rk s ≤ r → W D s = W E s
section
variable {T : Tab} {rk : Int → Nat} {W : Dy → Dy}
theorem Foreign.mono {r r' : Nat} (h : Foreign T rk r W) (hr : r ≤ r') : Foreign T rk r' W :=
 ⟨fun D s hs => h.off D s (Nat.lt_of_le_of_lt hr hs), fun D E e s hs => by
  rcases Nat.lt_or_ge r (sr T rk s) with q | q
  ·exact (h.off D s q).trans ((e s hs).trans (h.off E s q).symm)
  ·exact h.on D E (fun s' z => e s' (Nat.le_trans z hr)) s q⟩
theorem bump_at {w : Int → Int} {k : Int} {e : Int × Int} {D : Dy} {s : Slot} (h : s ≠ .last k ∧ s ≠ .lev e.2 ∧ s ≠ .over e.2) : bump w k e D s = D s := by
 cases s with
 | last j => exact if_neg fun q => h.1 (by rw [q])
 | lev j => exact if_neg fun q => h.2.1 (by rw [q])
 | over j => exact if_neg fun q => h.2.2 (by rw [q])
theorem bump_eq {w : Int → Int} {k : Int} {e : Int × Int} {D E : Dy} {s : Slot} (h : s = .last k ∨ s = .lev e.2 ∨ s = .over e.2) (ho : D (.over e.2) = E (.over e.2)) : bump w k e D s = bump w k e E s := by
 rcases h with rfl | rfl | rfl <;> unfold bump <;> simp only [if_true, ho]
theorem sr_bump {k : Int} {e : Int × Int} (hp : T.par e.2 = some k) {s : Slot} (h : s = .last k ∨ s = .lev e.2 ∨ s = .over e.2) : sr T rk s = rk k + 1 := by
 rcases h with rfl | rfl | rfl
 ·rfl
 ·exact congrArg (rkO rk) hp
 ·exact congrArg (rkO rk) hp
theorem slot_or (k : Int) (e : Int × Int) (s : Slot) : (s = .last k ∨ s = .lev e.2 ∨ s = .over e.2) ∨ (s ≠ .last k ∧ s ≠ .lev e.2 ∧ s ≠ .over e.2) := by
 by_cases h : s = .last k ∨ s = .lev e.2 ∨ s = .over e.2
 ·exact .inl h
 ·exact .inr ⟨fun q => h (.inl q), fun q => h (.inr (.inl q)), fun q => h (.inr (.inr q))⟩
theorem bump_foreign {k : Int} {e : Int × Int} (hp : T.par e.2 = some k) : Foreign T rk (rk k + 1) (bump T.w k e) :=
 ⟨fun D s hs => bump_at ((slot_or k e s).resolve_left fun q => by rw [sr_bump hp q] at hs; exact Nat.lt_irrefl _ hs), fun D E h s hs => by
  rcases slot_or k e s with q | q
  ·exact bump_eq q (h _ (Nat.le_of_eq (sr_bump hp (.inr (.inr rfl)))))
  ·rw [bump_at q, bump_at q]; exact h s hs⟩
theorem bump_comm {k : Int} {e : Int × Int} (hp : T.par e.2 = some k) (hW : Foreign T rk (rk k) W) (D : Dy) : bump T.w k e (W D) = W (bump T.w k e D) := by
 funext s
 rcases slot_or k e s with q | q
 ·have hs : rk k < sr T rk s := by rw [sr_bump hp q]; exact Nat.lt_succ_self _
  rw [hW.off _ s hs]
  exact bump_eq q (hW.off _ _ (by rw [sr_bump hp (.inr (.inr rfl))]; exact Nat.lt_succ_self _))
 ·rw [bump_at q]
  rcases Nat.lt_or_ge (rk k) (sr T rk s) with z | z
  ·rw [hW.off _ s z, hW.off _ s z, bump_at q]
  ·refine hW.on _ _ (fun s' z' => (bump_at ?_).symm) s z
   refine (slot_or k e s').resolve_left fun q' => ?_
   rw [sr_bump hp q'] at z'
   exact Nat.not_succ_le_self _ z'
theorem goT_comm {F : Dy → Int → Option Int × Dy} {k : Int} (hW : Foreign T rk (rk k) W) : ∀ {r : List (Int × Int)}, (∀ e ∈ r, T.par e.2 = some k) → (∀ e ∈ r, ∀ D, F (W D) e.2 = ((F D e.2).1, W (F D e.2).2)) → ∀ D, goT T F k r (W D) = ((goT T F k r D).1, W (goT T F k r D).2)
 | [], _, _, D => rfl
 | e :: r, hp, hF, D => by
  unfold goT
  rw [bump_comm (hp e (.head _)) hW]
  by_cases ha : T.able e.2 = true
  ·rw [if_pos ha, if_pos ha]
  ·rw [if_neg ha, if_neg ha, hF e (.head _)]
   cases (F (bump T.w k e D) e.2).1 with
   | some x => rfl
   | none => exact goT_comm hW (fun e he => hp e (.tail _ he)) (fun e he => hF e (.tail _ he)) _
theorem mem_que {D : Dy} {k : Int} {e : Int × Int} (h : e ∈ que T D k) : e.2 ∈ T.kids k ∧ e.1 = D (.lev e.2) := by
 obtain ⟨c, hc, rfl⟩ := List.mem_map.mp ((sort2_perm _).mem_iff.mp h)
 exact ⟨hc, rfl⟩
theorem turn_comm (hT : Tree T rk) : ∀ (n : Nat) {k : Int}, k ∈ T.nums → ∀ {W : Dy → Dy}, Foreign T rk (rk k) W → ∀ D, turn T n (W D) k = ((turn T n D k).1, W (turn T n D k).2)
 | 0, _, _, _, _, _ => rfl
 | n + 1, k, hk, W, hW, D => by
  have e : que T (W D) k = que T D k := congrArg sort2 (List.map_congr_left fun c hc => by
   rw [hW.off]
   show rk k < rkO rk (T.par c)
   rw [(hT.kid k hk c hc).2.1]
   exact Nat.lt_succ_self _)
  show goT T (turn T n) k (que T (W D) k) (W D) = _
  rw [e]
  exact goT_comm hW (fun e he => (hT.kid k hk _ (mem_que he).1).2.1) (fun e he D => turn_comm hT n (hT.kid k hk _ (mem_que he).1).1 (hW.mono (Nat.le_of_lt (hT.kid k hk _ (mem_que he).1).2.2)) D) D
theorem turn_frame (hT : Tree T rk) (n : Nat) {k : Int} (hk : k ∈ T.nums) (D : Dy) {s : Slot} (hs : sr T rk s ≤ rk k) : (turn T n D k).2 s = D s := by
 have hW : Foreign T rk (rk k) (fun E s' => if s' = s then D s else E s') :=
  ⟨fun E s' h => if_neg fun q => by rw [q] at h; exact Nat.not_lt.mpr hs h, fun E E' h s' h' => by
   by_cases q : s' = s
   ·rw [if_pos q, if_pos q]
   ·rw [if_neg q, if_neg q]; exact h s' h'⟩
 have e : (fun s' => if s' = s then D s else D s') = D := by
  funext s'
  by_cases q : s' = s
  ·rw [if_pos q, q]
  ·rw [if_neg q]
 have := congrArg (fun z => z.2 s) (turn_comm hT n hk hW D)
 dsimp only at this
 rw [e, if_pos rfl] at this
 exact this
theorem goP_comm {F : Dy → Int → Option Int × Dy} : ∀ {r : List (Int × Int)}, (∀ e ∈ r, ∀ D, F (W D) e.2 = ((F D e.2).1, W (F D e.2).2)) → ∀ D, goP T F r (W D) = ((goP T F r D).1, (goP T F r D).2.1, W (goP T F r D).2.2)
 | [], _, D => rfl
 | e :: r, hF, D => by
  unfold goP
  by_cases ha : T.able e.2 = true
  ·rw [if_pos ha, if_pos ha]
  ·rw [if_neg ha, if_neg ha, hF e (.head _)]
   cases (F D e.2).1 with
   | some x => rfl
   | none => dsimp only; rw [goP_comm fun e he => hF e (.tail _ he)]
theorem go_eq (hT : Tree T rk) {n : Nat} {k : Int} (hk : k ∈ T.nums) : ∀ {r : List (Int × Int)}, (∀ e ∈ r, e.2 ∈ T.kids k) → ∀ D, goT T (turn T n) k r D = ((goP T (turn T n) r D).1, bumps T.w k (goP T (turn T n) r D).2.1 (goP T (turn T n) r D).2.2)
 | [], _, D => rfl
 | e :: r, hr, D => by
  have he := hT.kid k hk _ (hr e (.head _))
  have hb : ∀ c ∈ T.kids k, Foreign T rk (rk c) (bump T.w k e) := fun c hc => (bump_foreign he.2.1).mono (hT.kid k hk c hc).2.2
  unfold goT goP
  by_cases ha : T.able e.2 = true
  ·rw [if_pos ha, if_pos ha]; rfl
  ·rw [if_neg ha, if_neg ha, turn_comm hT n he.1 (hb _ (hr e (.head _)))]
   cases (turn T n D e.2).1 with
   | some x => rfl
   | none =>
    dsimp only
    rw [go_eq hT hk fun e he => hr e (.tail _ he)]
    rw [goP_comm (W := bump T.w k e) fun e' he' D => turn_comm hT n (hT.kid k hk _ (hr e' (.tail _ he'))).1 (hb _ (hr e' (.tail _ he'))) D]
    rfl
end
end
section
noncomputable abbrev evS (hd : Bool) : AEnv := { names := m_sched.scope.names, cells := [], hd }
noncomputable def schT : Stmt := m_sched.body.getD 3 (.Pass default)
noncomputable def schW : Stmt := (whileB schT).getD 0 (.Pass default)
noncomputable def schF : Stmt := ((parts schT).2.2).getD 0 (.Pass default)
noncomputable def outR : Option Int → S → R V
 | some x, s => .ok (.int x) s
 | none, s => .exc .index s
noncomputable def outL : Option Int → S → R Flow
 | some _, s => .ok .next s
 | none, s => .exc .index s
theorem Syn.same {T : Tab} {D D' : Dy} {Q Q' : Int → List (Int × Int)} {j : Int} (h : Syn (T.wd D) Q j) (hq : Q' j = Q j) (hl : ∀ x ∈ T.kids j, D' (.lev x) = D (.lev x)) : Syn (T.wd D') Q' j := by
 unfold Syn
 rw [hq, show ((T.wd D').kids j).map (fun c => ((T.wd D').lev c, c)) = ((T.wd D).kids j).map fun c => ((T.wd D).lev c, c) from List.map_congr_left fun x hx => congrArg (fun l => (l, x)) (hl x hx)]
 exact h
theorem goP_frame {T : Tab} {rk : Int → Nat} (hT : Tree T rk) {n : Nat} {k : Int} (hk : k ∈ T.nums) {s : Slot} (hs : sr T rk s ≤ rk k + 1) : ∀ {r : List (Int × Int)}, (∀ e ∈ r, e.2 ∈ T.kids k) → ∀ D, (goP T (turn T n) r D).2.2 s = D s
 | [], _, D => rfl
 | e :: r, hr, D => by
  have he := hT.kid k hk _ (hr e (.head _))
  have h0 := turn_frame hT n he.1 D (Nat.le_trans hs he.2.2)
  unfold goP
  by_cases ha : T.able e.2 = true
  ·rw [if_pos ha]
  ·rw [if_neg ha]
   cases (turn T n D e.2).1 with
   | some x => exact h0
   | none => exact (goP_frame hT hk hs (fun e he => hr e (.tail _ he)) _).trans h0
structure SO (T : Tab) (rk : Int → Nat) (L : Rl → Nat) (k : Int) (own : Nat → Prop) (st : S) (Q : Int → List (Int × Int)) (D' : Dy) (Q' : Int → List (Int × Int)) (st' : S) : Prop where
 ss : SS (T.wd D') L Q' (ext own st.next) st'.heap st'.next
 syn : ∀ j ∈ T.nums, rk k ≤ rk j → Syn (T.wd D') Q' j
 low : ∀ j, rk j < rk k → Q' j = Q j
 fr : Fr own st st'
 tp : ∀ a v, a < st.next → st.heap a = some (.tup v) → st'.heap a = some (.tup v)
noncomputable def SchedAt (T : Tab) (rk ht : Int → Nat) (L : Rl → Nat) (n : Nat) : Prop := ∀ k ∈ T.nums, ht k < n → T.able k = false → ∀ own st D Q, SS (T.wd D) L Q own st.heap st.next → (∀ j ∈ T.nums, rk k ≤ rk j → Syn (T.wd D) Q j) →
 ∃ Q' st', bodyM pi01 (phi pi01 (n + 4)) false m_sched [.ref (L (.A k))] st = outR (turn T n D k).1 st' ∧ SO T rk L k own st Q (turn T n D k).2 Q' st'
structure SI (T : Tab) (rk : Int → Nat) (L : Rl → Nat) (own : Nat → Prop) (Q0 : Int → List (Int × Int)) (s0 : S) (k : Int) (ns : V) (D : Dy) (Q : Int → List (Int × Int)) (ps : List Nat) (done : List (Int × Int)) (s : S) : Prop where
 ss : SS (T.wd D) L Q own s.heap s.next
 syn : ∀ j ∈ T.nums, rk k ≤ rk j → j ≠ k → Syn (T.wd D) Q j
 low : ∀ j, rk j < rk k → Q j = Q0 j
 pop : s.heap s0.next = some (.list (ps.map .ref))
 itm : Itms s.heap (fun c => L (.A c)) ps done
 far : ∀ x ∈ ps, x < s.next
 lt : s0.next < s.next
 hp : ∀ a, a < s0.next → ¬ own a → s.heap a = s0.heap a
 tp : ∀ a v, a < s0.next → s0.heap a = some (.tup v) → s.heap a = some (.tup v)
 lself : s.loc "self" = some (.ref (L (.A k)))
 lpop : s.loc "popped_streams" = some (.ref s0.next)
 lns : s.loc "next_stream" = some ns
section
variable {T : Tab} {rk ht : Int → Nat} {L : Rl → Nat} {own : Nat → Prop} {Q0 Q : Int → List (Int × Int)} {s0 s : S} {k : Int} {ns : V} {D : Dy} {done : List (Int × Int)} {ps : List Nat}
theorem SI.queue (I : SI T rk L own Q0 s0 k ns D Q ps done s) (hk : k ∈ T.nums) {n : Nat} {hd : Bool} {p1 p2 : Pos} {l : Str → Option V} (hl : l "self" = some (.ref (L (.A k)))) : denE pi01 (phi pi01 n) (evS hd) (.Attribute (.Name "self" p1) "child_queue" p2) ⟨s.heap, s.next, l⟩ = .ok (.ref (L (.cq k))) ⟨s.heap, s.next, l⟩ :=
 bA rfl (bN (by decide) (nm (by decide)) hl) (I.ss.cc (.A k) hk) (by decide) (by decide) rfl
theorem SI.locs (I : SI T rk L own Q0 s0 k ns D Q ps done s) {l : Str → Option V} {ns' : V} (h1 : l "self" = s.loc "self") (h2 : l "popped_streams" = s.loc "popped_streams") (h3 : l "next_stream" = some ns') : SI T rk L own Q0 s0 k ns' D Q ps done ⟨s.heap, s.next, l⟩ :=
 ⟨I.ss, I.syn, I.low, I.pop, I.itm, I.far, I.lt, I.hp, I.tp, h1.trans I.lself, h2.trans I.lpop, h3⟩
theorem SI.take (I : SI T rk L own Q0 s0 k ns D Q ps done s) (hk : k ∈ T.nums) (hpl : ¬ own s0.next) {e : Int × Int} {r : List (Int × Int)} (hq : Q k = e :: r) : ∃ (x : Nat) (xs : List Nat), s.heap (L (.cq k)) = some (.list (.ref x :: xs.map .ref)) ∧ xs.length ≤ 40 ∧
  s.heap x = some (.tup [.int e.1, .ref (L (.A e.2))]) ∧ x < s.next ∧ SI T rk L own Q0 s0 k ns D (fset Q k r) (ps ++ [x]) (done ++ [e]) ⟨upd (upd s.heap (L (.cq k)) (.list (xs.map .ref))) s0.next (.list ((ps ++ [x]).map .ref)), s.next, s.loc⟩ := by
 obtain ⟨xs, x1, x2, x3⟩ := I.ss.cc (.cq k) hk
 have hs := I.ss.srt k hk
 rw [hq] at x2 hs
 cases xs with
 | nil => exact x2.elim
 | cons x xs =>
  have hS := I.ss.que (k := k) (xs := xs) (q := r) hk x2.2 (fun y hy => x3 y (.tail _ hy)) ⟨(List.pairwise_cons.mp hs.1).2, fun c hc => hs.2.1 c (.tail _ hc), Nat.le_trans (Nat.le_succ _) hs.2.2⟩
  have keep : ∀ a v, s.heap a = some (.tup v) → upd (upd s.heap (L (.cq k)) (.list (xs.map .ref))) s0.next (.list ((ps ++ [x]).map .ref)) a = some (.tup v) := fun a v h => (uO fun q => by rw [q, I.pop] at h; nomatch h).trans ((uO fun q => by rw [q, x1] at h; nomatch h).trans h)
  have hl : xs.length ≤ 40 := by rw [x2.2.length]; exact Nat.le_trans (Nat.le_succ _) hs.2.2
  refine ⟨x, xs, x1, hl, x2.1, (x3 x (.head _)).1, hS.grow (fun a ha ho => uO fun q => hpl (q ▸ ho)) (Nat.le_refl _) fun _ h => h, fun j h1 h2 h3 => (I.syn j h1 h2 h3).same (fO h3) fun _ _ => rfl, fun j hj => (fO fun q => by rw [q] at hj; exact Nat.lt_irrefl _ hj).trans (I.low j hj), uS _ _ _, (I.itm.mono keep).append ⟨keep _ _ x2.1, trivial⟩, fun y hy => ?_, I.lt,
   fun a h1 h2 => (uO (Nat.ne_of_lt h1)).trans ((uO fun q => h2 (by rw [q]; exact (I.ss.at_ (.cq k) hk).2)).trans (I.hp a h1 h2)), fun a v h1 h2 => keep a v (I.tp a v h1 h2), I.lself, I.lpop, I.lns⟩
  rcases List.mem_append.mp hy with hy | hy
  ·exact I.far y hy
  ·rw [smp hy]; exact (x3 x (.head _)).1
theorem SI.sub (hT : Tree T rk) (I : SI T rk L own Q0 s0 k ns D Q ps done s) (hk : k ∈ T.nums) (hpl : ¬ own s0.next) (how : ∀ a, s0.next < a → own a) {c : Int} (hc : c ∈ T.kids k) {n : Nat} {Q' : Int → List (Int × Int)} {s' : S} (O : SO T rk L c own s Q (turn T n D c).2 Q' s') : SI T rk L own Q0 s0 k ns (turn T n D c).2 Q' ps done s' := by
 have hkc := hT.kid k hk c hc
 refine ⟨O.ss.grow (fun _ _ _ => rfl) (Nat.le_refl _) fun a ha => ha.elim (fun h => h) fun h => how a (ltl I.lt h), fun j h1 h2 h3 => ?_, fun j hj => (O.low j (Nat.lt_trans hj hkc.2.2)).trans (I.low j hj), (O.fr.heap _ I.lt hpl).trans I.pop, I.itm.mono2 fun x hx v hv => O.tp x v (I.far x hx) hv, fun x hx => ltl (I.far x hx) O.fr.le, ltl I.lt O.fr.le,
  fun a h1 h2 => (O.fr.heap a (Nat.lt_trans h1 I.lt) h2).trans (I.hp a h1 h2), fun a v h1 h2 => O.tp a v (Nat.lt_trans h1 I.lt) (I.tp a v h1 h2), by rw [O.fr.loc]; exact I.lself, by rw [O.fr.loc]; exact I.lpop, by rw [O.fr.loc]; exact I.lns⟩
 rcases Nat.lt_or_ge (rk j) (rk c) with q | q
 ·exact (I.syn j h1 h2 h3).same (O.low j q) fun x hx => turn_frame hT n hkc.1 D (by show rkO rk (T.par x) ≤ _; rw [(hT.kid j h1 x hx).2.1]; exact q)
 ·exact O.syn j h1 q
end
theorem try_ok {m : M Flow} {h : X → Option (M Flow)} {st s1 : S} {f : Flow} (hm : m st = .ok f s1) : tryM m h st = .ok f s1 := by unfold tryM; rw [hm]
theorem try_x {m k : M Flow} {h : X → Option (M Flow)} {st s1 : S} {x : X} {r : R Flow} (hm : m st = .exc x s1) (hh : h x = some k) (hk : k s1 = r) : tryM m h st = r := by
 unfold tryM
 rw [hm]
 dsimp only
 rw [hh]
 exact hk
theorem s_try {P : PI} {Φ : Phi} {ev : AEnv} {b : List Stmt} {hs : List ExceptHandler} {p : Pos} {st : S} {r : R Flow} (hv : ev.hd = false) (hh : (!hs.isEmpty) = true) (h : tryM (denSs P Φ ev b) (denHs P Φ ev hs) st = r) : denS P Φ ev (.Try b hs [] [] p) st = r :=
 b_if (c := (([] : List Stmt).isEmpty && !ev.hd) = true) (by rw [hv]; rfl) (b_if (c := ([] : List Stmt).isEmpty = true) rfl (b_if hh h))
theorem s_fin {P : PI} {Φ : Phi} {ev : AEnv} {b f : List Stmt} {p : Pos} {st : S} {r : R Flow} (hv : ev.hd = false) (hf : ¬ f.isEmpty = true) (h : finM (denSs P Φ ev b) (denSs P Φ ev f) (denSs P Φ (withHd ev true) f) st = r) : denS P Φ ev (.Try b [] [] f p) st = r :=
 b_if (c := (([] : List Stmt).isEmpty && !ev.hd) = true) (by rw [hv]; rfl) (b_ifn (c := f.isEmpty = true) hf (b_if (c := ([] : List ExceptHandler).isEmpty = true) rfl h))
theorem sched_active {n : Nat} {a : Nat} {st : S} {fs : List (Str × V)} (ha : st.heap a = some (.inst fs)) (hb : getR "active" fs = some (.bool true)) : bodyM pi01 (phi pi01 n) false m_sched [.ref a] st = .exc .assertion st :=
 body_exc (s' := ⟨st.heap, st.next, fun x => (m_sched.params.zip [V.ref a]).lookup x⟩) ⟨rfl, by decide⟩ (s_flies (s_assert (b := false) rfl (t_not (b := true) (bS (bA rfl (bN (by decide) (nm (by decide)) rfl) ha (by decide) (by decide) hb) rfl)) rfl))
theorem sched_loop {T : Tab} {rk ht : Int → Nat} {L : Rl → Nat} {n : Nat} (hT : Tree T rk) (IH : SchedAt T rk ht L n) (hh : ∀ k ∈ T.nums, ∀ c ∈ T.kids k, ht c < ht k) {own : Nat → Prop} {Q0 : Int → List (Int × Int)} {s0 : S} {k : Int} (hk : k ∈ T.nums) (hn : ht k < n + 1) (hpl : ¬ own s0.next) (how : ∀ a, s0.next < a → own a) :
  ∀ (r : List (Int × Int)) (D : Dy) (Q : Int → List (Int × Int)) (ps : List Nat) (done : List (Int × Int)) (s : S) (fuel j : Nat), SI T rk L own Q0 s0 k .none D Q ps done s → Q k = r → done.length + r.length ≤ 40 → r.length + 1 < fuel → (∀ e ∈ r, e.2 ∈ T.kids k) →
  ∃ Q' s' v ps', loopD fuel (fun _ => denT pi01 (phi pi01 (n + 5)) (evS false) (whileT schW) (denE pi01 (phi pi01 (n + 5)) (evS false) (whileT schW))) (denSs pi01 (phi pi01 (n + 5)) (evS false) (whileB schW)) j s = outL (goP T (turn T n) r D).1 s' ∧ SI T rk L own Q0 s0 k v (goP T (turn T n) r D).2.2 Q' ps' (done ++ (goP T (turn T n) r D).2.1) s' ∧ r = (goP T (turn T n) r D).2.1 ++ Q' k ∧ ∀ x, (goP T (turn T n) r D).1 = some x → v = .int x
 | _, _, _, _, _, _, 0, _, _, _, _, hf, _ => absurd hf (Nat.not_lt_zero _)
 | [], D, Q, ps, done, s, fuel + 1, j, I, hq, hl, hf, hr => by
  obtain ⟨xs, x1, x2, x3⟩ := I.ss.cc (.cq k) hk
  rw [hq] at x2
  cases xs with
  | cons _ _ => exact x2.elim
  | nil =>
   refine ⟨Q, s, .none, ps, bS (tC (bN (by decide) (nm (by decide)) I.lns) b_none b_cmpIs) (b_if rfl (b_bindx (s_flies (s_assigny rfl (bK (gO (nm (by decide))) rfl (by decide) (by decide) (bC (I.queue hk I.lself) bE) (hpop_none (n := n + 4) x1)))))), by rw [show done ++ (goP T (turn T n) [] D).2.1 = done from List.append_nil _]; exact I, hq.symm, fun x e => zN e⟩
 | e :: r, D, Q, ps, done, s, fuel + 1, j, I, hq, hl, hf, hr => by
  obtain ⟨x, xs, x1, xl, x2, x3, I1⟩ := I.take hk hpl hq
  have he := hr e (.head _)
  have hkc := hT.kid k hk _ he
  have tst : ∀ {s : S} {v : V}, s.loc "next_stream" = some v → denT pi01 (phi pi01 (n + 5)) (evS false) (whileT schW) (denE pi01 (phi pi01 (n + 5)) (evS false) (whileT schW)) s = .ok (isNone v) s := fun h => tC (bN (by decide) (nm (by decide)) h) b_none b_cmpIs
  have hpl' : ps.length < 1000 := by rw [I.itm.length]; lia
  have plq : s0.next ≠ L (.cq k) := fun q => hpl (q ▸ (I.ss.at_ (.cq k) hk).2)
  have a1 : denS pi01 (phi pi01 (n + 5)) (evS false) ((whileB schW).getD 0 (.Pass default)) s = .ok .next ⟨upd s.heap (L (.cq k)) (.list (xs.map .ref)), s.next, updL s.loc "val" (.ref x)⟩ :=
   sA rfl (bK (gO (nm (by decide))) rfl (by decide) (by decide) (bC (I.queue hk I.lself) bE) (hpop_run (n := n + 4) x1 (by rw [List.length_map]; lia))) (aN (nm (by decide)))
  have a2 : denS pi01 (phi pi01 (n + 5)) (evS false) ((whileB schW).getD 1 (.Pass default)) ⟨upd s.heap (L (.cq k)) (.list (xs.map .ref)), s.next, updL s.loc "val" (.ref x)⟩ = .ok .next ⟨upd (upd s.heap (L (.cq k)) (.list (xs.map .ref))) s0.next (.list ((ps ++ [x]).map .ref)), s.next, updL s.loc "val" (.ref x)⟩ := by
   rw [List.map_append]
   exact s_expr rfl (b_append (by decide) rfl (bN (by decide) (nm (by decide)) ((cO (by decide)).trans I.lpop)) ((uO plq).trans I.pop) (bC (bN (by decide) (nm (by decide)) cS) bE) ((uO plq).trans I.pop) (by rw [List.length_map]; exact hpl'))
  have tx : upd (upd s.heap (L (.cq k)) (.list (xs.map .ref))) s0.next (.list ((ps ++ [x]).map .ref)) x = some (.tup [.int e.1, .ref (L (.A e.2))]) := (uO fun q => by rw [q, I.pop] at x2; nomatch x2).trans ((uO fun q => by rw [q, x1] at x2; nomatch x2).trans x2)
  generalize upd (upd s.heap (L (.cq k)) (.list (xs.map .ref))) s0.next (.list ((ps ++ [x]).map .ref)) = h1 at *
  have a3 : denS pi01 (phi pi01 (n + 5)) (evS false) ((whileB schW).getD 2 (.Pass default)) ⟨h1, s.next, updL s.loc "val" (.ref x)⟩ = .ok .next ⟨h1, s.next, updL (updL (updL s.loc "val" (.ref x)) "level" (.int e.1)) "child" (.ref (L (.A e.2)))⟩ :=
   sA rfl (bN (by decide) (nm (by decide)) cS) (a_tup (nm (by decide)) (nm (by decide)) tx)
  have I2 := I1.locs (l := updL (updL (updL s.loc "val" (.ref x)) "level" (.int e.1)) "child" (.ref (L (.A e.2)))) (ns' := .none) ((Lo (by decide)).trans ((Lo (by decide)).trans (Lo (by decide)))) ((Lo (by decide)).trans ((Lo (by decide)).trans (Lo (by decide)))) ((Lo (by decide)).trans ((Lo (by decide)).trans ((Lo (by decide)).trans I.lns)))
  have lc : (updL (updL (updL s.loc "val" (.ref x)) "level" (.int e.1)) "child" (.ref (L (.A e.2)))) "child" = some (.ref (L (.A e.2))) := lS
  generalize updL (updL (updL s.loc "val" (.ref x)) "level" (.int e.1)) "child" (.ref (L (.A e.2))) = l1 at *
  have hA := I2.ss.cc (.A e.2) hkc.1
  have tt : denT pi01 (phi pi01 (n + 5)) (evS false) (whileT ((whileB schW).getD 3 (.Pass default))) (denE pi01 (phi pi01 (n + 5)) (evS false) (whileT ((whileB schW).getD 3 (.Pass default)))) ⟨h1, s.next, l1⟩ = .ok (T.able e.2) ⟨h1, s.next, l1⟩ := bS (bA rfl (bN (by decide) (nm (by decide)) lc) hA (by decide) (by decide) rfl) rfl
  have fin : ∀ {s' : S} {x : Int} (i : Nat), s'.loc "next_stream" = some (.int x) → loopD fuel (fun _ => denT pi01 (phi pi01 (n + 5)) (evS false) (whileT schW) (denE pi01 (phi pi01 (n + 5)) (evS false) (whileT schW))) (denSs pi01 (phi pi01 (n + 5)) (evS false) (whileB schW)) i s' = .ok .next s' := fun {s' x} i h => by
   cases fuel with
   | zero => exact absurd hf (by lia)
   | succ f => exact bS (tst h) (b_ifn Bool.false_ne_true rfl)
  rw [List.length_cons] at hl hf
  by_cases ha : T.able e.2 = true
  ·have eg : goP T (turn T n) (e :: r) D = (some e.2, [e], D) := if_pos ha
   rw [eg]
   rw [ha] at tt
   have a4 : denS pi01 (phi pi01 (n + 5)) (evS false) ((whileB schW).getD 3 (.Pass default)) ⟨h1, s.next, l1⟩ = .ok .next ⟨h1, s.next, updL l1 "next_stream" (.int e.2)⟩ := s_ifT tt (sC (sA rfl (bA rfl (bN (by decide) (nm (by decide)) lc) hA (by decide) (by decide) rfl) (aN (nm (by decide)))) sN)
   exact ⟨_, _, .int e.2, _, bS (tst I.lns) (b_if rfl (bS (sC a1 (sC a2 (sC a3 (sC a4 sN)))) (fin _ cS))), I2.locs (Lo (by decide)) (Lo (by decide)) lS, by show _ = [e] ++ fset Q k r k; rw [fS]; rfl, fun x hx => by obtain rfl := sj hx; rfl⟩
  ·rw [Bool.not_eq_true] at ha
   rw [ha] at tt
   obtain ⟨Q', st', w1, O⟩ := IH e.2 hkc.1 (ltl (hh k hk _ he) (Nat.le_of_lt_succ hn)) ha own ⟨h1, s.next, l1⟩ D (fset Q k r) I2.ss fun j hj hj' => I2.syn j hj (Nat.le_trans (Nat.le_of_lt hkc.2.2) hj') fun q => by rw [q] at hj'; exact Nat.not_lt.mpr hj' hkc.2.2
   have I3 := I2.sub hT hk hpl how he O
   have qk : Q' k = r := (O.low k hkc.2.2).trans fS
   have call : denE pi01 (phi pi01 (n + 5)) (evS false) (whileT ((whileB ((parts ((whileB schW).getD 3 (.Pass default))).2.2.getD 0 (.Pass default))).getD 0 (.Pass default))) ⟨h1, s.next, l1⟩ = outR (turn T n D e.2).1 st' := b_meth (by decide) rfl (bN (by decide) (nm (by decide)) lc) hA rfl (by decide) bE w1
   unfold goP
   rw [ha, if_neg Bool.false_ne_true]
   cases ht' : (turn T n D e.2).1 with
   | some y =>
    rw [ht'] at call
    have a4 : denS pi01 (phi pi01 (n + 5)) (evS false) ((whileB schW).getD 3 (.Pass default)) ⟨h1, s.next, l1⟩ = .ok .next ⟨st'.heap, st'.next, updL st'.loc "next_stream" (.int y)⟩ :=
     s_ifF tt (sC (s_try rfl rfl (try_ok (sC (sA rfl call (aN (nm (by decide)))) sN))) sN)
    exact ⟨_, _, .int y, _, bS (tst I.lns) (b_if rfl (bS (sC a1 (sC a2 (sC a3 (sC a4 sN)))) (fin _ cS))), I3.locs (Lo (by decide)) (Lo (by decide)) lS, by show _ = [e] ++ Q' k; rw [qk]; rfl, fun x hx => by obtain rfl := sj hx; rfl⟩
   | none =>
    rw [ht'] at call
    have a4 : denS pi01 (phi pi01 (n + 5)) (evS false) ((whileB schW).getD 3 (.Pass default)) ⟨h1, s.next, l1⟩ = .ok .cont st' :=
     s_ifF tt (s_contin (s_try rfl rfl (try_x (s_flies (s_assigny rfl call)) (h := denHs pi01 (phi pi01 (n + 5)) (evS false) _) (k := denSs pi01 (phi pi01 (n + 5)) (withHd (evS false) true) [.Continue _]) rfl (s_contin rfl))))
    obtain ⟨Q2, s2, v, ps2, r1, r2, r3, r4⟩ := sched_loop hT IH hh hk hn hpl how r (turn T n D e.2).2 Q' _ _ st' fuel (j + 1) I3 qk (by rw [List.length_append]; show done.length + 1 + _ ≤ 40; lia) (by lia) fun e he => hr e (.tail _ he)
    exact ⟨Q2, s2, v, ps2, bS (tst I.lns) (b_if rfl (bS (sC a1 (sC a2 (sC a3 (s_contin a4)))) r1)), by rw [List.append_assoc] at r2; exact r2, congrArg (e :: ·) r3, r4⟩
end
section
theorem bumps_snoc {w : Int → Int} {k : Int} {e : Int × Int} : ∀ {ds : List (Int × Int)} {D : Dy}, bumps w k (ds ++ [e]) D = bump w k e (bumps w k ds D)
 | [], _ => rfl
 | _ :: ds, D => bumps_snoc (ds := ds)
theorem bump_lev {w : Int → Int} {k : Int} {e : Int × Int} {D : Dy} {x : Int} (h : x ≠ e.2) : bump w k e D (.lev x) = D (.lev x) := if_neg h
theorem bumps_lev {w : Int → Int} {k x : Int} : ∀ {ds : List (Int × Int)} {D : Dy}, (∀ e ∈ ds, x ≠ e.2) → bumps w k ds D (.lev x) = D (.lev x)
 | [], _, _ => rfl
 | e :: ds, D, h => (bumps_lev (ds := ds) fun e he => h e (.tail _ he)).trans (bump_lev (h e (.head _)))
theorem SS.below {T : Tab} {L : Rl → Nat} {Q : Int → List (Int × Int)} {own : Nat → Prop} {h : Nat → Option AObj} {nx : Nat} (H : SS T L Q own h nx) : SS T L Q (fun a => own a ∧ a < nx) h nx where
 cc := fun r hr => by
  have c := H.cc r hr
  cases r with
  | A k => exact c
  | ch k => exact c
  | cq k =>
   obtain ⟨xs, a, b, d⟩ := c
   exact ⟨xs, a, b, fun x hx => ⟨(d x hx).1, (d x hx).2, (d x hx).1⟩⟩
 at_ := fun r hr => ⟨(H.at_ r hr).1, (H.at_ r hr).2, (H.at_ r hr).1⟩
 inj := H.inj
 srt := H.srt
 few := H.few
section
variable {T : Tab} {rk ht : Int → Nat} {L : Rl → Nat} {own : Nat → Prop} {Q0 Q : Int → List (Int × Int)} {s0 s : S} {k : Int} {ns : V} {D : Dy} {all : List (Int × Int)} {ps : List Nat}
theorem SI.back (hT : Tree T rk) (I : SI T rk L own Q0 s0 k ns D Q ps all s) (hk : k ∈ T.nums) (hpl : ¬ own s0.next) (how : ∀ a, s0.next < a → own a) {e : Int × Int} (he : e.2 ∈ T.kids k) (hne : ∀ c ∈ Q k, c.2 ≠ e.2) (hlen : (Q k).length < 40) {n : Nat} {hd : Bool} :
  ∃ q s', denSs pi01 (phi pi01 (n + 5)) (evS hd) (whileB schF) ⟨s.heap, s.next, updL (updL s.loc "level" (.int e.1)) "child" (.ref (L (.A e.2)))⟩ = .ok .next s' ∧ q.Perm ((bump T.w k e D (.lev e.2), e.2) :: Q k) ∧ SI T rk L own Q0 s0 k ns (bump T.w k e D) (fset Q k q) ps all s' := by
 have hkc := hT.kid k hk _ he
 have hw := hT.wt _ hkc.1
 have H1 := I.ss.inst (T' := { T.wd D with last := fset (T.wd D).last k e.1 }) (k := k) (fs := putR "last_weight" (.int e.1) (sfs (T.wd D) L k)) hk rfl rfl (fun j hj => by
   show sf j _ _ _ _ _ (fset _ k e.1 j) _ = _
   rw [fO hj]; rfl) (by
   show _ = sf k _ _ _ _ _ (fset _ k e.1 k) _
   rw [fS]; rfl)
 have hA1 := H1.cc (.A e.2) hkc.1
 have H2 := H1.inst (T' := { T.wd D with last := fset (T.wd D).last k e.1, over := fset (T.wd D).over e.2 (Int.fmod (256 + D (.over e.2)) (T.w e.2)) }) (k := e.2) (fs := putR "_deficit" (.int (Int.fmod (256 + D (.over e.2)) (T.w e.2))) (sfs { T.wd D with last := fset (T.wd D).last k e.1 } L e.2)) hkc.1 rfl rfl (fun j hj => by
   show sf j _ _ _ _ _ _ (fset _ e.2 _ j) = _
   rw [fO hj]; rfl) (by
   show _ = sf e.2 _ _ _ _ _ _ (fset _ e.2 _ e.2)
   rw [fS]; rfl)
 have lv : bump T.w k e D (.lev e.2) = e.1 + Int.fdiv (256 + D (.over e.2)) (T.w e.2) := if_pos rfl
 rw [lv]
 have k2 : ∀ a v, s.heap a = some (.tup v) → upd (upd s.heap (L (.A k)) (.inst (putR "last_weight" (.int e.1) (sfs (T.wd D) L k)))) (L (.A e.2)) (.inst (putR "_deficit" (.int (Int.fmod (256 + D (.over e.2)) (T.w e.2))) (sfs { T.wd D with last := fset (T.wd D).last k e.1 } L e.2))) a = some (.tup v) := fun a v h => (uO (I.ss.notup (r := .A e.2) hkc.1 h)).trans ((uO (I.ss.notup (r := .A k) hk h)).trans h)
 have b2 : ∀ a, ¬ own a → upd (upd s.heap (L (.A k)) (.inst (putR "last_weight" (.int e.1) (sfs (T.wd D) L k)))) (L (.A e.2)) (.inst (putR "_deficit" (.int (Int.fmod (256 + D (.over e.2)) (T.w e.2))) (sfs { T.wd D with last := fset (T.wd D).last k e.1 } L e.2))) a = s.heap a := fun a h => (uO fun q => h (by rw [q]; exact (I.ss.at_ (.A e.2) hkc.1).2)).trans (uO fun q => h (by rw [q]; exact (I.ss.at_ (.A k) hk).2))
 have a1 : denS pi01 (phi pi01 (n + 5)) (evS hd) ((whileB schF).getD 0 (.Pass default)) ⟨s.heap, s.next, updL (updL s.loc "level" (.int e.1)) "child" (.ref (L (.A e.2)))⟩ = .ok .next ⟨upd s.heap (L (.A k)) (.inst (putR "last_weight" (.int e.1) (sfs (T.wd D) L k))), s.next, updL (updL s.loc "level" (.int e.1)) "child" (.ref (L (.A e.2)))⟩ :=
  sA rfl (bN (by decide) (nm (by decide)) ((cO (by decide)).trans lS)) (a_attr (bN (by decide) (nm (by decide)) ((cO (by decide)).trans ((Lo (by decide)).trans I.lself))) (I.ss.cc (.A k) hk) (by decide) ⟨by decide, by show (8 : Nat) < 100; decide⟩)
 have a2 : denS pi01 (phi pi01 (n + 5)) (evS hd) ((whileB schF).getD 1 (.Pass default)) ⟨upd s.heap (L (.A k)) (.inst (putR "last_weight" (.int e.1) (sfs (T.wd D) L k))), s.next, updL (updL s.loc "level" (.int e.1)) "child" (.ref (L (.A e.2)))⟩ = .ok .next ⟨upd s.heap (L (.A k)) (.inst (putR "last_weight" (.int e.1) (sfs (T.wd D) L k))), s.next, updL (updL (updL s.loc "level" (.int e.1)) "child" (.ref (L (.A e.2)))) "level" (.int (e.1 + Int.fdiv (256 + D (.over e.2)) (T.w e.2)))⟩ :=
  s_aug (b_load (by decide) (nm (by decide)) ((cO (by decide)).trans lS)) (bB (bB bI (bA rfl (bN (by decide) (nm (by decide)) cS) hA1 (by decide) (by decide) rfl) b_add) (b_attrW rfl (bN (by decide) (nm (by decide)) cS) hA1 (getW_run (n := n + 4) hA1 rfl)) (b_fdiv ⟨by show 0 < T.w e.2; lia, by show T.w e.2 < 1000; lia⟩)) rfl (bT (nm (by decide)))
 have a3 : ∀ {l : Str → Option V}, l "child" = some (.ref (L (.A e.2))) → denS pi01 (phi pi01 (n + 5)) (evS hd) ((whileB schF).getD 2 (.Pass default)) ⟨upd s.heap (L (.A k)) (.inst (putR "last_weight" (.int e.1) (sfs (T.wd D) L k))), s.next, l⟩ = .ok .next ⟨upd (upd s.heap (L (.A k)) (.inst (putR "last_weight" (.int e.1) (sfs (T.wd D) L k)))) (L (.A e.2)) (.inst (putR "_deficit" (.int (Int.fmod (256 + D (.over e.2)) (T.w e.2))) (sfs { T.wd D with last := fset (T.wd D).last k e.1 } L e.2))), s.next, l⟩ := fun {l} hl =>
  sA rfl (bB (bB bI (bA rfl (bN (by decide) (nm (by decide)) hl) hA1 (by decide) (by decide) rfl) b_add) (b_attrW rfl (bN (by decide) (nm (by decide)) hl) hA1 (getW_run (n := n + 4) hA1 rfl)) (b_mod (show T.w e.2 ≠ 0 by lia))) (a_attr (bN (by decide) (nm (by decide)) hl) hA1 (by decide) ⟨by decide, by show (8 : Nat) < 100; decide⟩)
 generalize upd (upd s.heap (L (.A k)) (.inst (putR "last_weight" (.int e.1) (sfs (T.wd D) L k)))) (L (.A e.2)) (.inst (putR "_deficit" (.int (Int.fmod (256 + D (.over e.2)) (T.w e.2))) (sfs { T.wd D with last := fset (T.wd D).last k e.1 } L e.2))) = h2 at *
 have b3 := a3 (l := updL (updL (updL s.loc "level" (.int e.1)) "child" (.ref (L (.A e.2)))) "level" (.int (e.1 + Int.fdiv (256 + D (.over e.2)) (T.w e.2)))) ((Lo (by decide)).trans lS)
 have l1 : (updL (updL (updL s.loc "level" (.int e.1)) "child" (.ref (L (.A e.2)))) "level" (.int (e.1 + Int.fdiv (256 + D (.over e.2)) (T.w e.2)))) "child" = some (.ref (L (.A e.2))) := (Lo (by decide)).trans lS
 have l2 : (updL (updL (updL s.loc "level" (.int e.1)) "child" (.ref (L (.A e.2)))) "level" (.int (e.1 + Int.fdiv (256 + D (.over e.2)) (T.w e.2)))) "level" = some (.int (e.1 + Int.fdiv (256 + D (.over e.2)) (T.w e.2))) := lS
 have l3 : ∀ {z : Str}, z ≠ "level" → z ≠ "child" → (updL (updL (updL s.loc "level" (.int e.1)) "child" (.ref (L (.A e.2)))) "level" (.int (e.1 + Int.fdiv (256 + D (.over e.2)) (T.w e.2)))) z = s.loc z := fun h1 h2 => (Lo h1).trans ((Lo h2).trans (Lo h1))
 generalize updL (updL (updL s.loc "level" (.int e.1)) "child" (.ref (L (.A e.2)))) "level" (.int (e.1 + Int.fdiv (256 + D (.over e.2)) (T.w e.2))) = lo at *
 have H3 := H2.grow (own' := own) (h' := upd h2 s.next (.tup [.int (e.1 + Int.fdiv (256 + D (.over e.2)) (T.w e.2)), .ref (L (.A e.2))])) (nx' := s.next + 1) (fun a ha _ => uO (Nat.ne_of_lt ha)) (Nat.le_succ _) fun _ h => h
 obtain ⟨xs, x1, x2, x3⟩ := H3.cc (.cq k) hk
 have hsr := I.ss.srt k hk
 obtain ⟨i, r1, r2, r3, r4⟩ := push_run (n := n + 2) (hd := hd) (q := L (.cq k)) (t := s.next) (k := (e.1 + Int.fdiv (256 + D (.over e.2)) (T.w e.2), e.2)) (st := ⟨_, s.next + 1, lo⟩) x1 x2 (fun c hc => H3.id (hsr.2.1 c hc)) (uS _ _ _) (H3.id hkc.1) (by rw [x2.length]; exact Nat.lt_trans hlen (by decide))
 obtain ⟨o1, o2⟩ := ins_sorted (k := (e.1 + Int.fdiv (256 + D (.over e.2)) (T.w e.2), e.2)) hsr.1 r2 r3 r4 hne
 have H4 := H3.que (k := k) (xs := xs.take i ++ s.next :: xs.drop i) (q := (Q k).take i ++ (e.1 + Int.fdiv (256 + D (.over e.2)) (T.w e.2), e.2) :: (Q k).drop i) hk (x2.insert (k := (e.1 + Int.fdiv (256 + D (.over e.2)) (T.w e.2), e.2)) (uS _ _ _)) (fun x hx => by
   rcases List.mem_append.mp hx with hx | hx
   ·exact x3 x (List.mem_of_mem_take hx)
   ·rcases List.mem_cons.mp hx with rfl | hx
    ·exact ⟨Nat.lt_succ_self _, how _ I.lt⟩
    ·exact x3 x (List.mem_of_mem_drop hx)) ⟨o1, fun c hc => by
   rcases List.mem_cons.mp (o2.mem_iff.mp hc) with rfl | hc
   ·exact hkc.1
   ·exact hsr.2.1 c hc, by rw [o2.length_eq]; exact hlen⟩
 have keep : ∀ a v, a < s.next → s.heap a = some (.tup v) → upd (upd h2 s.next (.tup [.int (e.1 + Int.fdiv (256 + D (.over e.2)) (T.w e.2)), .ref (L (.A e.2))])) (L (.cq k)) (.list ((xs.take i ++ s.next :: xs.drop i).map .ref)) a = some (.tup v) := fun a v hl h => (uO (I.ss.notup (r := .cq k) hk h)).trans ((uO (Nat.ne_of_lt hl)).trans (k2 a v h))
 have same : ∀ a, a < s.next → ¬ own a → upd (upd h2 s.next (.tup [.int (e.1 + Int.fdiv (256 + D (.over e.2)) (T.w e.2)), .ref (L (.A e.2))])) (L (.cq k)) (.list ((xs.take i ++ s.next :: xs.drop i).map .ref)) a = s.heap a := fun a hl h => (uO fun q => h (by rw [q]; exact (I.ss.at_ (.cq k) hk).2)).trans ((uO (Nat.ne_of_lt hl)).trans (b2 a h))
 refine ⟨_, _, sC a1 (sC a2 (sC b3 (sC (s_expr rfl (bK (gO (nm (by decide))) rfl (by decide) (by decide) (bC (bA rfl (bN (by decide) (nm (by decide)) ((l3 (by decide) (by decide)).trans I.lself)) (H2.cc (.A k) hk) (by decide) (by decide) rfl) (bC (b_tuple rfl (bC (bN (by decide) (nm (by decide)) l2) (bC (bN (by decide) (nm (by decide)) l1) bE))) bE)) r1)) sN))), o2, ?_⟩
 exact ⟨H4.data rfl (fun j => rfl) rfl, fun j h1 h2 h3 => (I.syn j h1 h2 h3).same (fO h3) fun x hx => bump_lev fun q => h3 (by
   have p1 := (hT.kid j h1 x hx).2.1
   rw [q, hkc.2.1] at p1
   exact (sj p1).symm), fun j hj => (fO fun q => by rw [q] at hj; exact Nat.lt_irrefl _ hj).trans (I.low j hj), (same _ I.lt hpl).trans I.pop, I.itm.mono2 fun x hx v hv => keep x v (I.far x hx) hv, fun x hx => Nat.lt_succ_of_lt (I.far x hx), Nat.lt_succ_of_lt I.lt,
  fun a h1 h2 => (same a (Nat.lt_trans h1 I.lt) h2).trans (I.hp a h1 h2), fun a v h1 h2 => keep a v (Nat.lt_trans h1 I.lt) (I.tp a v h1 h2), (l3 (by decide) (by decide)).trans I.lself, (l3 (by decide) (by decide)).trans I.lpop, (l3 (by decide) (by decide)).trans I.lns⟩
structure FI (T : Tab) (rk : Int → Nat) (L : Rl → Nat) (own : Nat → Prop) (Q0 : Int → List (Int × Int)) (s0 : S) (k : Int) (ns : V) (D : Dy) (r : List (Int × Int)) (ps : List Nat) (all ds es : List (Int × Int)) (Q : Int → List (Int × Int)) (rest : List V) (s : S) : Prop where
 e1 : rest = (ps.drop ds.length).map .ref
 e2 : ds ++ es = all
 si : SI T rk L own Q0 s0 k ns (bumps T.w k ds D) Q ps all s
 pm : (Q k).Perm ((ds.map fun e => (bumps T.w k ds D (.lev e.2), e.2)) ++ r)
theorem sched_fin (hT : Tree T rk) (I : SI T rk L own Q0 s0 k ns D Q ps all s) (hk : k ∈ T.nums) (hpl : ¬ own s0.next) (how : ∀ a, s0.next < a → own a) (hall : ∀ e ∈ all, e.2 ∈ T.kids k) (hnd : ((all ++ Q k).map (·.2)).Nodup) (hlen : all.length + (Q k).length ≤ 40) {n : Nat} {hd : Bool} :
  Wp (denS pi01 (phi pi01 (n + 5)) (evS hd) schF) s fun f s' => f = .next ∧ ∃ Q', FI T rk L own Q0 s0 k ns D (Q k) ps all all [] Q' [] s' := by
 have hpl0 : ps.length ≤ all.length := Nat.le_of_eq I.itm.length
 refine Wp_for (I := fun rest s => ∃ ds es Qc, FI T rk L own Q0 s0 k ns D (Q k) ps all ds es Qc rest s) rfl (bN (by decide) (nm (by decide)) I.lpop) I.pop (by rw [List.length_map]; lia) (fun rest s h => ?_) (fun v rest s h => ?_) (fun s h => ?_) ⟨[], all, Q, rfl, rfl, I, .refl _⟩
 ·obtain ⟨ds, es, Qc, F⟩ := h
  exact F.si.pop
 ·obtain ⟨ds, es, Qc, F⟩ := h
  have it := F.si.itm.drop (i := ds.length)
  have e1 := F.e1
  have ed : all.drop ds.length = es := by rw [← F.e2, List.drop_left]
  rw [ed] at it
  cases es with
  | nil =>
   cases hd' : ps.drop ds.length with
   | nil => rw [hd'] at e1; contradiction
   | cons _ _ => rw [hd'] at it; exact it.elim
  | cons e es =>
   have hn1 : ∀ c ∈ Qc k, c.2 ≠ e.2 := fun c hc q => by
    have hc' := F.pm.mem_iff.mp hc
    rw [← F.e2, List.append_assoc, List.map_append] at hnd
    have h3 := (List.nodup_append.mp hnd).2.2
    have h2 := (List.nodup_append.mp hnd).2.1
    rcases List.mem_append.mp hc' with z | z
    ·obtain ⟨d, hd1, rfl⟩ := List.mem_map.mp z
     exact h3 d.2 (List.mem_map.mpr ⟨d, hd1, rfl⟩) e.2 (.head _) q
    ·refine (List.nodup_cons.mp h2).1 ?_
     show e.2 ∈ _
     rw [← q]
     exact List.mem_map.mpr ⟨c, List.mem_append_right _ z, rfl⟩
   have hn2 : ∀ d ∈ ds, d.2 ≠ e.2 := fun d hd1 q => by
    rw [← F.e2, List.append_assoc, List.map_append] at hnd
    exact (List.nodup_append.mp hnd).2.2 d.2 (List.mem_map.mpr ⟨d, hd1, rfl⟩) e.2 (.head _) q
   have hl : (Qc k).length < 40 := by
    have a1 := F.pm.length_eq
    have a2 := congrArg List.length F.e2
    rw [List.length_append, List.length_map] at a1
    rw [List.length_append, List.length_cons] at a2
    lia
   have hmem : e ∈ all := by rw [← F.e2]; exact List.mem_append_right _ (.head _)
   cases hx : ps.drop ds.length with
   | nil => rw [hx] at it; exact it.elim
   | cons x xs =>
    rw [hx] at it e1
    obtain ⟨q, s', w1, w2, w3⟩ := F.si.back (n := n) (hd := hd) hT hk hpl how (hall e hmem) hn1 hl
    have ev : v = .ref x := (List.cons.inj e1).1
    refine ⟨_, by rw [ev]; exact a_tup (P := pi01) (Φ := phi pi01 0) (p := default) (k := 0) (q1 := default) (q2 := default) (nm (by decide)) (nm (by decide)) it.1, Wp_of (a := Mine.Flow.next) w1 ⟨ds ++ [e], es, _, (List.cons.inj e1).2.trans ?_, by rw [← F.e2, List.append_assoc]; rfl, by rw [bumps_snoc]; exact w3, ?_⟩⟩
    ·rw [List.length_append]
     show _ = (ps.drop (ds.length + 1)).map V.ref
     rw [← List.drop_drop, hx]
     rfl
    ·rw [fS, bumps_snoc]
     refine w2.trans ((F.pm.cons _).trans ?_)
     rw [List.map_append, show (ds.map fun d => (bump T.w k e (bumps T.w k ds D) (.lev d.2), d.2)) = ds.map fun d => (bumps T.w k ds D (.lev d.2), d.2) from List.map_congr_left fun d hd1 => congrArg (fun l => (l, d.2)) (bump_lev (hn2 d hd1)), List.append_assoc]
     exact List.perm_middle.symm
 ·obtain ⟨ds, es, Qc, F⟩ := h
  have it := F.si.itm.drop (i := ds.length)
  have ed : all.drop ds.length = es := by rw [← F.e2, List.drop_left]
  have e0 : ps.drop ds.length = [] := List.map_eq_nil_iff.mp F.e1.symm
  rw [ed, e0] at it
  cases es with
  | cons _ _ => exact it.elim
  | nil =>
   have e3 : ds = all := by rw [← F.e2, List.append_nil]
   subst e3
   exact ⟨rfl, Qc, F.e1, List.append_nil _, F.si, F.pm⟩
theorem FI.out (hT : Tree T rk) (hk : k ∈ T.nums) {own' : Nat → Prop} {n : Nat} {r ds : List (Int × Int)} {rest : List V} {Q' Qx : Int → List (Int × Int)} {l : Str → Option V} {d0 : Dy} (F : FI T rk L own Q0 s0 k ns (goP T (turn T n) (Q0 k) d0).2.2 r ps (goP T (turn T n) (Q0 k) d0).2.1 (goP T (turn T n) (Q0 k) d0).2.1 ds Q' rest s) (hQ : Q0 k = (goP T (turn T n) (Q0 k) d0).2.1 ++ r) (hsyn : Syn (T.wd d0) Q0 k) (hmem : ∀ e ∈ Q0 k, e.2 ∈ T.kids k ∧ e.1 = d0 (.lev e.2)) (hnd : ((Q0 k).map (·.2)).Nodup) (ho : ∀ a, own a → own' a ∨ s0.next ≤ a) (ho' : ∀ a, a < s0.next → own a → own' a) {st : S} (e1 : st.heap = s0.heap) (e2 : st.next = s0.next) :
  SO T rk L k own' st Q0 (goT T (turn T n) k (Q0 k) d0).2 Q' ⟨s.heap, s.next, st.loc⟩ := by
 have I := F.si
 have ge := go_eq (n := n) hT hk (fun e he => (hmem e he).1) d0
 rw [ge]
 refine ⟨I.ss.grow (fun _ _ _ => rfl) (Nat.le_refl _) fun a ha => by rw [e2]; exact ho a ha, fun j h1 h2 => ?_, I.low, ⟨by rw [e2]; exact Nat.le_of_lt I.lt, rfl, fun a ha hna => ?_⟩, fun a v ha hv => I.tp a v (e2 ▸ ha) (e1 ▸ hv)⟩
 ·by_cases q : j = k
  ·subst q
   have lev2 : ∀ e ∈ r, bumps T.w j (goP T (turn T n) (Q0 j) d0).2.1 (goP T (turn T n) (Q0 j) d0).2.2 (.lev e.2) = e.1 := fun e he => by
    have hm := hmem e (by rw [hQ]; exact List.mem_append_right _ he)
    rw [bumps_lev fun d hd q => ?_, goP_frame hT hk (by show rkO rk (T.par e.2) ≤ _; rw [(hT.kid j hk _ hm.1).2.1]; exact Nat.le_refl _) (fun e he => (hmem e he).1), ← hm.2]
    rw [hQ, List.map_append] at hnd
    exact (List.nodup_append.mp hnd).2.2 d.2 (List.mem_map.mpr ⟨d, hd, rfl⟩) e.2 (List.mem_map.mpr ⟨e, he, rfl⟩) q.symm
   have e3 : (Q0 j).map (fun e => (bumps T.w j (goP T (turn T n) (Q0 j) d0).2.1 (goP T (turn T n) (Q0 j) d0).2.2 (.lev e.2), e.2)) = ((goP T (turn T n) (Q0 j) d0).2.1.map fun e => (bumps T.w j (goP T (turn T n) (Q0 j) d0).2.1 (goP T (turn T n) (Q0 j) d0).2.2 (.lev e.2), e.2)) ++ r := by
    have e4 : ∀ f : Int × Int → Int × Int, (Q0 j).map f = (goP T (turn T n) (Q0 j) d0).2.1.map f ++ r.map f := fun f => by
     have := congrArg (List.map f) hQ
     rwa [List.map_append] at this
    have e5 : ∀ e ∈ r, (fun e : Int × Int => (bumps T.w j (goP T (turn T n) (Q0 j) d0).2.1 (goP T (turn T n) (Q0 j) d0).2.2 (.lev e.2), e.2)) e = id e := fun e he => Prod.ext (lev2 e he) rfl
    rw [e4, List.map_congr_left e5, List.map_id]
   refine F.pm.trans ?_
   rw [← e3]
   refine (hsyn.map _).trans ?_
   rw [List.map_map]
   exact .refl _
  ·exact I.syn j h1 h2 q
 ·refine (I.hp a (e2 ▸ ha) fun q => hna (ho' a (e2 ▸ ha) q)).trans (by rw [e1])
end
theorem fin_ok {m f1 f2 : M Flow} {st s1 s2 : S} {f : Flow} (h : m st = .ok f s1) (h1 : f1 s1 = .ok .next s2) : finM m f1 f2 st = .ok f s2 := by
 unfold finM
 rw [h]
 show thruM f1 _ s1 = _
 unfold thruM
 rw [h1]
theorem fin_x {m f1 f2 : M Flow} {st s1 s2 : S} {x : X} (h : m st = .exc x s1) (h1 : f2 s1 = .ok .next s2) : finM m f1 f2 st = .exc x s2 := by
 unfold finM
 rw [h]
 show thruM f2 _ s1 = _
 unfold thruM
 rw [h1]
noncomputable def cutO (own : Nat → Prop) (n : Nat) : Nat → Prop := fun a => (own a ∧ a < n) ∨ n < a
theorem sched_step {T : Tab} {rk ht : Int → Nat} {L : Rl → Nat} {n : Nat} (hT : Tree T rk) (hh : ∀ k ∈ T.nums, ∀ c ∈ T.kids k, ht c < ht k) (IH : SchedAt T rk ht L n) : SchedAt T rk ht L (n + 1) := by
  intro k hk hn ha own st D Q H hs
  have hy := hs k hk (Nat.le_refl _)
  have eQ : Q k = que T D k := sort2_of (H.srt k hk).1 hy
  have hlen := (H.srt k hk).2.2
  have hmem : ∀ e ∈ Q k, e.2 ∈ T.kids k ∧ e.1 = D (.lev e.2) := fun e he => mem_que (by rw [← eQ]; exact he)
  have hnd : ((Q k).map (·.2)).Nodup := by
   have e := hy.map (fun e : Int × Int => e.2)
   rw [List.map_map] at e
   exact e.nodup_iff.mpr (by rw [show ((fun e : Int × Int => e.2) ∘ fun c => ((T.wd D).lev c, c)) = id from rfl, List.map_id]; exact hT.nd k hk)
  have hA := H.cc (.A k) hk
  have hpl : ¬ cutO own st.next st.next := fun q => q.elim (fun q => Nat.lt_irrefl _ q.2) (Nat.lt_irrefl _)
  have I0 : SI T rk L (cutO own st.next) Q ⟨st.heap, st.next, fun x => (m_sched.params.zip [V.ref (L (.A k))]).lookup x⟩ k .none D Q [] [] ⟨upd st.heap st.next (.list []), st.next + 1, updL (updL (fun x => (m_sched.params.zip [V.ref (L (.A k))]).lookup x) "next_stream" .none) "popped_streams" (.ref st.next)⟩ :=
   ⟨H.below.grow (fun a h _ => uO (Nat.ne_of_lt h)) (Nat.le_succ _) (fun a h => .inl h), fun j h1 h2 _ => hs j h1 h2, fun _ _ => rfl, uS _ _ _, trivial, (fun _ h => zL h), Nat.lt_succ_self _, fun a h _ => uO (Nat.ne_of_lt h), fun a v h h' => (uO (Nat.ne_of_lt h)).trans h', (cO (by decide)).trans ((Lo (by decide)).trans rfl), cS, (cO (by decide)).trans lS⟩
  obtain ⟨Q1, s1, v, ps, r1, r2, r3, r4⟩ := sched_loop (s0 := ⟨st.heap, st.next, fun x => (m_sched.params.zip [V.ref (L (.A k))]).lookup x⟩) hT IH hh hk hn hpl (fun a h => .inr h) (Q k) D Q [] [] _ wlim 0 I0 rfl (by show 0 + _ ≤ 40; lia) (by show _ < 100; lia) fun e he => (hmem e he).1
  rw [List.nil_append] at r2
  have hall : ∀ e ∈ (goP T (turn T n) (Q k) D).2.1, e.2 ∈ T.kids k := fun e he => (hmem e (by rw [r3]; exact List.mem_append_left _ he)).1
  have fin := fun hd => sched_fin (n := n) (hd := hd) hT r2 hk hpl (fun a h => .inr h) hall (by rw [← r3]; exact hnd) (by have := congrArg List.length r3; rw [List.length_append] at this; lia)
  have out : ∀ {Q' s'}, FI T rk L (cutO own st.next) Q ⟨st.heap, st.next, fun x => (m_sched.params.zip [V.ref (L (.A k))]).lookup x⟩ k v (goP T (turn T n) (Q k) D).2.2 (Q1 k) ps (goP T (turn T n) (Q k) D).2.1 (goP T (turn T n) (Q k) D).2.1 [] Q' [] s' → SO T rk L k own st Q (turn T (n + 1) D k).2 Q' ⟨s'.heap, s'.next, st.loc⟩ := fun F => by
   have o := F.out (own' := own) (Qx := Q) (l := st.loc) (st := st) hT hk r3 hy hmem hnd (fun a h => Or.elim h (fun h => .inl h.1) fun h => .inr (Nat.le_of_lt h)) (fun a h h' =>  Or.elim h' (fun z => z.1) fun z => absurd h (Nat.not_lt.mpr (Nat.le_of_lt z))) rfl rfl
   rw [eQ] at o
   exact o
  have et : (turn T (n + 1) D k).1 = (goP T (turn T n) (Q k) D).1 := by
   show (goT T (turn T n) k (que T D k) D).1 = _
   rw [← eQ, go_eq hT hk fun e he => (hmem e he).1]
  rw [et]
  have hact : getR "active" (sfs (T.wd D) L k) = some (.bool false) := by
   show some (V.bool (T.able k)) = _
   rw [ha]
  have run : ∀ {r : R Flow}, denSs pi01 (phi pi01 (n + 5)) (evS false) (m_sched.body.drop 3) ⟨upd st.heap st.next (.list []), st.next + 1, updL (updL (fun x => (m_sched.params.zip [V.ref (L (.A k))]).lookup x) "next_stream" .none) "popped_streams" (.ref st.next)⟩ = r → denSs pi01 (phi pi01 (n + 5)) (evS false) m_sched.body ⟨st.heap, st.next, fun x => (m_sched.params.zip [V.ref (L (.A k))]).lookup x⟩ = r := fun h =>
   sC (s_assert (b := true) rfl (t_not (b := false) (bS (bA rfl (bN (by decide) (nm (by decide)) rfl) hA (by decide) (by decide) hact) rfl)) rfl) (sC (sA rfl b_none (aN (nm (by decide)))) (sC (sA rfl (b_list rfl bE) (aN (nm (by decide)))) h))
  cases hx : (goP T (turn T n) (Q k) D).1 with
  | none =>
   obtain ⟨f, s3, e3, rfl, Q', F⟩ := fin true
   rw [hx] at r1
   exact ⟨Q', _, body_exc (s' := s3) ⟨rfl, by decide⟩ (run (s_flies (s_fin rfl (by decide) (fin_x (s_flies (b_if (c := ([] : List Stmt).isEmpty = true) (m' := failM) rfl r1)) (sC e3 sN))))), out F⟩
  | some x =>
   obtain ⟨f, s3, e3, rfl, Q', F⟩ := fin false
   rw [hx] at r1
   have lv : s3.loc "next_stream" = some (.int x) := by rw [← r4 x hx]; exact F.si.lns
   exact ⟨Q', _, bO (f := .ret (.int x)) (s' := s3) ⟨rfl, by decide⟩ (run (sC (s_fin rfl (by decide) (fin_ok (sC (b_if (c := ([] : List Stmt).isEmpty = true) (m' := failM) rfl r1) sN) (sC e3 sN))) (sE (s_ret (bN (by decide) (nm (by decide)) lv))))), out F⟩
theorem sched_all {T : Tab} {rk ht : Int → Nat} {L : Rl → Nat} (hT : Tree T rk) (hh : ∀ k ∈ T.nums, ∀ c ∈ T.kids k, ht c < ht k) : ∀ n, SchedAt T rk ht L n
 | 0 => fun k hk h0 => absurd h0 (Nat.not_lt_zero _)
 | n + 1 => sched_step hT hh (sched_all hT hh n)
end
section
noncomputable abbrev Hp := Nat → Option AObj
noncomputable def parI : Option Int → V
 | none => .none
 | some p => .int p
noncomputable def rowE (T : Tab) (k : Int) (b : Nat) : List (Str × V) :=
 [("number", .int k), ("weight", .int (T.w k)), ("able", .bool (T.able k)), ("parent", parI (T.par k)), ("beneath", .ref b), ("level", .int (T.lev k)), ("over", .int (T.over k)), ("last", .int (T.last k))]
structure Row (T : Tab) (k : Int) (own : Nat → Prop) (h : Hp) (nx a b : Nat) : Prop where
 d : h a = some (.dictS (rowE T k b))
 l : h b = some (.list ((T.kids k).map .int))
 lt : b < nx
 ow : own b
structure RS (T : Tab) (B : Int → Nat) (DR : Nat) (own : Nat → Prop) (h : Hp) (nx : Nat) : Prop where
 dr : ∃ ver, h DR = some (.dictI (T.nums.map fun k => (k, .ref (B k))) ver)
 row : ∀ k ∈ T.nums, ∃ b, Row T k own h nx (B k) b
 at_ : ∀ k ∈ T.nums, B k < nx ∧ own (B k)
 inj : ∀ k ∈ T.nums, ∀ j ∈ T.nums, B k = B j → k = j
 lt : DR < nx
structure RF (n0 : Nat) (h0 : Hp) (n : Nat) (h : Hp) : Prop where
 le : n0 ≤ n
 st : ∀ a o, a < n0 → h0 a = some o → (∀ es, o ≠ .dictS es) → h a = some o
theorem RF.ls {n0 n : Nat} {h0 h : Hp} (f : RF n0 h0 n h) {a : Nat} {xs : List V} (ha : a < n0) (e : h0 a = some (.list xs)) : h a = some (.list xs) := f.st a _ ha e fun _ q => (by contradiction)
theorem getF_map {α : Type} {f : Int → V} {k : Int} : ∀ {l : List Int}, k ∈ l → getF k (l.map fun k => (k, f k)) = some (f k)
 | j :: l, h => by
  unfold getF
  rw [List.map_cons, List.find?_cons]
  by_cases e : j = k
  ·subst e
   rw [decide_eq_true rfl]
   rfl
  ·rw [decide_eq_false e]
   exact getF_map (α := α) ((List.mem_cons.mp h).resolve_left fun q => e q.symm)
section
variable {T T' : Tab} {B : Int → Nat} {DR : Nat} {own own' : Nat → Prop} {h h' : Hp} {nx nx' : Nat}
theorem RF.refl : RF nx h nx h := ⟨Nat.le_refl _, fun _ _ _ e _ => e⟩
theorem RF.step {h'' : Hp} {nx'' : Nat} (f : RF nx h nx' h') (g : RF nx' h' nx'' h'') : RF nx h nx'' h'' := ⟨Nat.le_trans f.le g.le, fun a o ha e q => g.st a o (ltl ha f.le) (f.st a o ha e q) q⟩
theorem RF.new {o : AObj} : RF nx h (nx + 1) (upd h nx o) := ⟨Nat.le_succ _, fun a o ha e _ => (uO (Nat.ne_of_lt ha)).trans e⟩
theorem RS.grow (H : RS T B DR own h nx) (hk : ∀ a, a < nx → own a → h' a = h a) (hd : h' DR = h DR) (hn : nx ≤ nx') (ho : ∀ a, own a → own' a) : RS T B DR own' h' nx' where
 dr := by rw [hd]; exact H.dr
 row := fun k hm => by
  obtain ⟨b, R⟩ := H.row k hm
  have a := H.at_ k hm
  exact ⟨b, (hk _ a.1 a.2).trans R.d, (hk _ R.lt R.ow).trans R.l, ltl R.lt hn, ho _ R.ow⟩
 at_ := fun k hm => ⟨ltl (H.at_ k hm).1 hn, ho _ (H.at_ k hm).2⟩
 inj := H.inj
 lt := ltl H.lt hn
theorem RS.al (H : RS T B DR own h nx) {o : AObj} : RS T B DR own (upd h nx o) (nx + 1) := H.grow (fun a ha _ => uO (Nat.ne_of_lt ha)) (uO (Nat.ne_of_lt H.lt)) (Nat.le_succ _) fun _ h => h
theorem RS.put (H : RS T B DR own h nx) {k : Int} (hk : k ∈ T.nums) (hn : T'.nums = T.nums) {es : List (Str × V)} (new : ∃ b, es = rowE T' k b ∧ h b = some (.list ((T'.kids k).map .int)) ∧ b < nx ∧ own b) (oth : ∀ j, j ≠ k → (∀ b, rowE T' j b = rowE T j b) ∧ T'.kids j = T.kids j) :
  RS T' B DR own (upd h (B k) (.dictS es)) nx where
 dr := by
  obtain ⟨ver, e⟩ := H.dr
  obtain ⟨b, R⟩ := H.row k hk
  exact ⟨ver, (uO fun q => by rw [q, R.d] at e; nomatch e).trans (by rw [hn]; exact e)⟩
 row := fun j hj => by
  rw [hn] at hj
  obtain ⟨b0, R0⟩ := H.row k hk
  by_cases q : j = k
  ·subst q
   obtain ⟨b, e, l, lt, ow⟩ := new
   exact ⟨b, by rw [e]; exact uS _ _ _, (uO fun q => by rw [q, R0.d] at l; nomatch l).trans l, lt, ow⟩
  ·obtain ⟨b, R⟩ := H.row j hj
   obtain ⟨o1, o2⟩ := oth j q
   exact ⟨b, (uO fun z => q (H.inj j hj k hk z)).trans (by rw [o1]; exact R.d), (uO fun z => by have := R.l; rw [z, R0.d] at this; nomatch this).trans (by rw [o2]; exact R.l), R.lt, R.ow⟩
 at_ := fun j hj => H.at_ j (hn ▸ hj)
 inj := fun j hj i hi => H.inj j (hn ▸ hj) i (hn ▸ hi)
 lt := H.lt
end
section
variable {T T' : Tab} {B : Int → Nat} {DR : Nat} {own : Nat → Prop} {h : Hp} {nx : Nat} {l : Str → Option V} {P : PI} {Φ : Phi} {ev : AEnv}
theorem RS.look (H : RS T B DR own h nx) {k : Int} (hk : k ∈ T.nums) {re ke : Expr} {p : Pos} (h1 : denE P Φ ev re ⟨h, nx, l⟩ = .ok (.ref DR) ⟨h, nx, l⟩) (h2 : denE P Φ ev ke ⟨h, nx, l⟩ = .ok (.int k) ⟨h, nx, l⟩) (hs : stepless ke = true) (hix : ∀ (m : M V) (w : V), denIx P Φ ev ke m w = (m >>= fun x => subV w x)) : denE P Φ ev (.Subscript re ke p) ⟨h, nx, l⟩ = .ok (.ref (B k)) ⟨h, nx, l⟩ := by
 obtain ⟨ver, e⟩ := H.dr
 exact b_item hs hix h1 h2 e (su_dI (getF_map (α := Int) hk))
theorem RS.fld (H : RS T B DR own h nx) {k : Int} (hk : k ∈ T.nums) {re : Expr} {p q : Pos} {i : Nat} {x : Str} {v : V} (h1 : denE P Φ ev re ⟨h, nx, l⟩ = .ok (.ref (B k)) ⟨h, nx, l⟩) (hv : ∀ b, getF x (rowE T k b) = some v) : denE P Φ ev (.Subscript re (.Constant (.str x) i q) p) ⟨h, nx, l⟩ = .ok v ⟨h, nx, l⟩ := by
 obtain ⟨b, R⟩ := H.row k hk
 exact b_item rfl (fun _ _ => rfl) h1 b_str R.d (su_dS (hv b))
theorem RS.ben (H : RS T B DR own h nx) {k : Int} (hk : k ∈ T.nums) : ∃ b, h b = some (.list ((T.kids k).map .int)) ∧ b < nx ∧ own b ∧ ∀ {re : Expr} {p q : Pos} {i : Nat}, denE P Φ ev re ⟨h, nx, l⟩ = .ok (.ref (B k)) ⟨h, nx, l⟩ → denE P Φ ev (.Subscript re (.Constant (.str "beneath") i q) p) ⟨h, nx, l⟩ = .ok (.ref b) ⟨h, nx, l⟩ := by
 obtain ⟨b, R⟩ := H.row k hk
 exact ⟨b, R.l, R.lt, R.ow, fun h1 => b_item rfl (fun _ _ => rfl) h1 b_str R.d (su_dS rfl)⟩
noncomputable def SetTo (h : Hp) (nx a : Nat) (x : Str) (v : V) (h' : Hp) : Prop := ∀ {P : PI} {Φ : Phi} {ev : AEnv} {l : Str → Option V} {re : Expr} {p q : Pos} {i : Nat}, denE P Φ ev re ⟨h, nx, l⟩ = .ok (.ref a) ⟨h, nx, l⟩ → assignV P Φ ev (.Subscript re (.Constant (.str x) i q) p) v ⟨h, nx, l⟩ = .ok () ⟨h', nx, l⟩
theorem RS.set (H : RS T B DR own h nx) {k : Int} (hk : k ∈ T.nums) (x : Str) (v : V) (hn : T'.nums = T.nums) (hx : ∀ b, putF x v (rowE T k b) = rowE T' k b) (hkid : T'.kids = T.kids) (oth : ∀ j, j ≠ k → ∀ b, rowE T' j b = rowE T j b) :
  ∃ h', SetTo h nx (B k) x v h' ∧ RS T' B DR own h' nx ∧ RF nx h nx h' := by
 obtain ⟨b, R⟩ := H.row k hk
 exact ⟨_, fun h1 => a_sub h1 b_str R.d (so_dS (by show (8 : Nat) < 1000; decide)), H.put hk hn ⟨b, hx b, by rw [hkid]; exact R.l, R.lt, R.ow⟩ fun j hj => ⟨oth j hj, by rw [hkid]⟩, Nat.le_refl _, fun a o _ e z => (uO fun q => by rw [q, R.d] at e; exact z _ (sj e).symm).trans e⟩
theorem RS.setB (H : RS T B DR own h nx) {k : Int} (hk : k ∈ T.nums) {b : Nat} (cs : List Int) (hb : h b = some (.list (cs.map .int))) (hlt : b < nx) (how : own b) :
  ∃ h', SetTo h nx (B k) "beneath" (.ref b) h' ∧ RS { T with kids := fset T.kids k cs } B DR own h' nx ∧ RF nx h nx h' := by
 obtain ⟨b0, R⟩ := H.row k hk
 exact ⟨_, fun h1 => a_sub h1 b_str R.d (so_dS (by show (8 : Nat) < 1000; decide)), H.put (T' := { T with kids := fset T.kids k cs }) hk rfl ⟨b, rfl, by rw [show ({ T with kids := fset T.kids k cs } : Tab).kids k = cs from fS]; exact hb, hlt, how⟩ fun j hj => ⟨fun _ => rfl, fO hj⟩, Nat.le_refl _, fun a o _ e z => (uO fun q => by rw [q, R.d] at e; exact z _ (sj e).symm).trans e⟩
theorem RS.setLast (H : RS T B DR own h nx) {k : Int} (hk : k ∈ T.nums) (v : Int) : ∃ h', SetTo h nx (B k) "last" (.int v) h' ∧ RS { T with last := fset T.last k v } B DR own h' nx ∧ RF nx h nx h' :=
 H.set hk "last" (.int v) rfl (fun b => by
  show _ = [_, _, _, _, _, _, _, ((_ : Str), V.int (fset T.last k v k))]
  rw [fS]; rfl) rfl fun j hj b => by
  show [_, _, _, _, _, _, _, ((_ : Str), V.int (fset T.last k v j))] = _
  rw [fO hj]; rfl
theorem RS.setLev (H : RS T B DR own h nx) {k : Int} (hk : k ∈ T.nums) (v : Int) : ∃ h', SetTo h nx (B k) "level" (.int v) h' ∧ RS { T with lev := fset T.lev k v } B DR own h' nx ∧ RF nx h nx h' :=
 H.set hk "level" (.int v) rfl (fun b => by
  show _ = [_, _, _, _, _, ((_ : Str), V.int (fset T.lev k v k)), _, _]
  rw [fS]; rfl) rfl fun j hj b => by
  show [_, _, _, _, _, ((_ : Str), V.int (fset T.lev k v j)), _, _] = _
  rw [fO hj]; rfl
theorem RS.setOver (H : RS T B DR own h nx) {k : Int} (hk : k ∈ T.nums) (v : Int) : ∃ h', SetTo h nx (B k) "over" (.int v) h' ∧ RS { T with over := fset T.over k v } B DR own h' nx ∧ RF nx h nx h' :=
 H.set hk "over" (.int v) rfl (fun b => by
  show _ = [_, _, _, _, _, _, ((_ : Str), V.int (fset T.over k v k)), _]
  rw [fS]; rfl) rfl fun j hj b => by
  show [_, _, _, _, _, _, ((_ : Str), V.int (fset T.over k v j)), _] = _
  rw [fO hj]; rfl
theorem RS.setPar (H : RS T B DR own h nx) {k : Int} (hk : k ∈ T.nums) (v : Int) : ∃ h', SetTo h nx (B k) "parent" (.int v) h' ∧ RS { T with par := fset T.par k (some v) } B DR own h' nx ∧ RF nx h nx h' :=
 H.set hk "parent" (.int v) rfl (fun b => by
  show _ = [_, _, _, ((_ : Str), parI (fset T.par k (some v) k)), _, _, _, _]
  rw [fS]; rfl) rfl fun j hj b => by
  show [_, _, _, ((_ : Str), parI (fset T.par k (some v) j)), _, _, _, _] = _
  rw [fO hj]; rfl
end
theorem lay_run {n : Nat} {hd : Bool} {T : Tab} {B : Int → Nat} {DR : Nat} {own : Nat → Prop} {st : S} (H : RS T B DR own st.heap st.next) {p c : Int} (hp : p ∈ T.nums) (hc : c ∈ T.nums) (hl : (T.kids p).length ≤ 40) :
  ∃ h' n', bodyM pi01 (phi pi01 n) hd g_lay [.ref DR, .int p, .int c] st = .ok .none ⟨h', n', st.loc⟩ ∧ RS (T.lay p c) B DR (ext own st.next) h' n' ∧ RF st.next st.heap n' h' := by
 let l : Str → Option V := fun x => (g_lay.params.zip [V.ref DR, V.int p, V.int c]).lookup x
 have nr : ∀ {h : Hp} {k : Nat} {pp : Pos}, denE pi01 (phi pi01 n) { names := g_lay.scope.names, cells := [], hd } (.Name "rows" pp) ⟨h, k, l⟩ = .ok (.ref DR) ⟨h, k, l⟩ := bN (by decide) (nm (by decide)) rfl
 have np : ∀ {h : Hp} {k : Nat} {pp : Pos}, denE pi01 (phi pi01 n) { names := g_lay.scope.names, cells := [], hd } (.Name "parent" pp) ⟨h, k, l⟩ = .ok (.int p) ⟨h, k, l⟩ := bN (by decide) (nm (by decide)) rfl
 have nn : ∀ {h : Hp} {k : Nat} {pp : Pos}, denE pi01 (phi pi01 n) { names := g_lay.scope.names, cells := [], hd } (.Name "number" pp) ⟨h, k, l⟩ = .ok (.int c) ⟨h, k, l⟩ := bN (by decide) (nm (by decide)) rfl
 have H0 : RS T B DR (ext own st.next) st.heap st.next := H.grow (fun _ _ _ => rfl) rfl (Nat.le_refl _) fun a h => .inl h
 obtain ⟨h1, r1, H1, f1⟩ := H0.setPar hc p
 obtain ⟨h2, r2, H2, f2⟩ := H1.setLev hc (T.last p)
 obtain ⟨b, e1, e2, e3, e4⟩ := RS.ben (P := pi01) (Φ := phi pi01 n) (ev := { names := g_lay.scope.names, cells := [], hd }) (l := l) H2 hp
 have H4 := H2.al (o := .list [.int c]) |>.al (o := .list ((T.kids p ++ [c]).map .int))
 obtain ⟨h5, r5, H5, f5⟩ := H4.setB (b := st.next + 1) hp (T.kids p ++ [c]) (uS _ _ _) (Nat.lt_succ_self _) (.inr (Nat.le_succ _))
 refine ⟨h5, st.next + 2, bO (f := .next) (s' := ⟨h5, st.next + 2, l⟩) ⟨rfl, by decide⟩ ?_, H5, ((f1.step f2).step (RF.new.step RF.new)).step f5⟩
 refine sC (sA rfl np (r1 (H0.look hc nr nn rfl fun _ _ => rfl))) (sC (sA rfl (H1.fld hp (H1.look hp nr np rfl fun _ _ => rfl) fun _ => rfl) (r2 (H1.look hc nr nn rfl fun _ _ => rfl))) (sC (sA rfl (bB (e4 (H2.look hp nr np rfl fun _ _ => rfl)) (b_list rfl (bC nn bE)) ?_) (r5 (H4.look hp nr np rfl fun _ _ => rfl))) sN))
 have := b_cat (st := ⟨upd h2 st.next (.list [.int c]), st.next + 1, l⟩) (i := b) (j := st.next) ((uO (Nat.ne_of_lt e2)).trans e1) (uS _ _ _) (by rw [List.length_map]; show (T.kids p).length + 1 < 100000; lia)
 rw [List.map_append]
 exact this
structure RL (T : Tab) (B : Int → Nat) (DR : Nat) (own : Nat → Prop) (st : S) (c : Int) (os : List Int) (x : Str) (rest : List V) (rs : List Int) (T' : Tab) (s : S) : Prop where
 e : rest = rs.map .int
 t : T'.lays c rs = T.lays c os
 n : T'.nums = T.nums
 r : RS T' B DR (ext own st.next) s.heap s.next
 m : ∀ o ∈ rs, o ∈ T.nums
 l : (T'.kids c).length + rs.length ≤ 41
 f : RF st.next st.heap s.next s.heap
 lo : ∀ z, z ≠ x → s.loc z = st.loc z
theorem rlays {n : Nat} {ev : AEnv} {x y : Str} {q1 q2 q3 q4 q5 q6 q7 q8 : Pos} {T : Tab} {B : Int → Nat} {DR : Nat} {own : Nat → Prop} {st : S} {c : Int} {os : List Int} {old : Nat} {it : Expr} {s0 : S} (hx : ev.names.lookup x = some .local) (hy : ev.names.lookup y = some .local) (hr : ev.names.lookup ("rows" : Str) = some .local) (hg : ev.names.lookup ("_law_lay" : Str) = some .globalImplicit) (hxy : x ≠ y) (hxr : x ≠ "rows") (hdx : x ≠ "__debug__") (hdy : y ≠ "__debug__")
  (hci : noRange it = true) (hit : denE pi01 (phi pi01 (n + 1)) ev it s0 = .ok (.ref old) st) (H : RS T B DR own st.heap st.next) (hold : st.heap old = some (.list (os.map .int))) (hlt : old < st.next) (hc : c ∈ T.nums) (hly : st.loc y = some (.int c)) (hlr : st.loc "rows" = some (.ref DR)) (ho : ∀ o ∈ os, o ∈ T.nums) (hlen : (T.kids c).length + os.length ≤ 41) :
  Wp (denS pi01 (phi pi01 (n + 1)) ev (.For (.Name x q1) it [.Expr (.Call (.Name "_law_lay" q2) [.Name "rows" q3, .Name y q4, .Name x q5] [] q6) q7] [] q8)) s0 fun f s => f = .next ∧ RS (T.lays c os) B DR (ext own st.next) s.heap s.next ∧ RF st.next st.heap s.next s.heap ∧ ∀ z, z ≠ x → s.loc z = st.loc z := by
 refine Wp_for (I := fun rest s => ∃ rs T', RL T B DR own st c os x rest rs T' s) hci hit hold (by rw [List.length_map]; lia) (fun rest s h => ?_) (fun v rest s h => ?_) (fun s h => ?_) ⟨os, T, rfl, rfl, rfl, H.grow (fun _ _ _ => rfl) rfl (Nat.le_refl _) fun a h => .inl h, ho, hlen, .refl, fun _ _ => rfl⟩
 ·obtain ⟨rs, T', F⟩ := h
  exact F.f.ls hlt hold
 ·obtain ⟨rs, T', F⟩ := h
  have e := F.e
  cases rs with
  | nil => nomatch e
  | cons o rs =>
   have hl := F.l
   rw [List.length_cons] at hl
   obtain ⟨h', n', r1, r2, r3⟩ := lay_run (n := n) (hd := ev.hd) (st := ⟨s.heap, s.next, updL s.loc x v⟩) F.r (F.n ▸ hc) (F.n ▸ F.m o (.head _)) (by lia)
   rw [(List.cons.inj e).1]
   rw [(List.cons.inj e).1] at r1
   refine ⟨_, bT hx, Wp_of (a := Mine.Flow.next) (sC (s_expr rfl (bK (gO hg) rfl (by decide) (by decide) (bC (bN (by decide) hr ((cO (Ne.symm hxr)).trans ((F.lo _ (Ne.symm hxr)).trans hlr))) (bC (bN hdy hy ((cO (Ne.symm hxy)).trans ((F.lo y (Ne.symm hxy)).trans hly))) (bC (bN hdx hx cS) bE))) r1)) sN) ⟨rs, T'.lay c o, (List.cons.inj e).2, F.t, F.n, r2.grow (fun _ _ _ => rfl) rfl (Nat.le_refl _) fun a ha => ha.elim (fun q => q) fun q => .inr (Nat.le_trans F.f.le q), fun o ho => F.m o (.tail _ ho), ?_, F.f.step r3, fun z hz => (Lo hz).trans (F.lo z hz)⟩⟩
   show (fset T'.kids c (T'.kids c ++ [o]) c).length + _ ≤ _
   rw [fS, List.length_append]
   show (T'.kids c).length + 1 + _ ≤ _
   lia
 ·obtain ⟨rs, T', F⟩ := h
  have e := F.e
  cases rs with
  | cons _ _ => nomatch e
  | nil => exact ⟨rfl, by rw [← F.t]; exact F.r, F.f, F.lo⟩
theorem alone_run {n : Nat} {hd : Bool} {T : Tab} {B : Int → Nat} {DR : Nat} {own : Nat → Prop} {st : S} (H : RS T B DR own st.heap st.next) {p c : Int} (hp : p ∈ T.nums) (hc : c ∈ T.nums) (hpc : p ≠ c) (ho : ∀ o ∈ T.kids p, o ∈ T.nums) (hl : (T.kids c).length + (T.kids p).length ≤ 40) :
  ∃ h' n', bodyM pi01 (phi pi01 (n + 1)) hd g_alone [.ref DR, .int p, .int c] st = .ok .none ⟨h', n', st.loc⟩ ∧ RS (T.alone p c) B DR (ext own st.next) h' n' ∧ RF st.next st.heap n' h' := by
 let l : Str → Option V := fun x => (g_alone.params.zip [V.ref DR, V.int p, V.int c]).lookup x
 have nr : ∀ {h : Hp} {k : Nat} {pp : Pos} {v : V}, denE pi01 (phi pi01 (n + 1)) { names := g_alone.scope.names, cells := [], hd } (.Name "rows" pp) ⟨h, k, updL l "others" v⟩ = .ok (.ref DR) ⟨h, k, updL l "others" v⟩ := bN (by decide) (nm (by decide)) ((cO (by decide)).trans rfl)
 have np : ∀ {h : Hp} {k : Nat} {pp : Pos} {v : V}, denE pi01 (phi pi01 (n + 1)) { names := g_alone.scope.names, cells := [], hd } (.Name "parent" pp) ⟨h, k, updL l "others" v⟩ = .ok (.int p) ⟨h, k, updL l "others" v⟩ := bN (by decide) (nm (by decide)) ((cO (by decide)).trans rfl)
 have nn : ∀ {h : Hp} {k : Nat} {pp : Pos} {v : V}, denE pi01 (phi pi01 (n + 1)) { names := g_alone.scope.names, cells := [], hd } (.Name "number" pp) ⟨h, k, updL l "others" v⟩ = .ok (.int c) ⟨h, k, updL l "others" v⟩ := bN (by decide) (nm (by decide)) ((cO (by decide)).trans rfl)
 have H0 : RS T B DR (ext own st.next) st.heap st.next := H.grow (fun _ _ _ => rfl) rfl (Nat.le_refl _) fun a h => .inl h
 obtain ⟨b, e1, e2, e3, e4⟩ := RS.ben (P := pi01) (Φ := phi pi01 (n + 1)) (ev := { names := g_alone.scope.names, cells := [], hd }) (l := l) H0 hp
 have H1 := H0.al (o := .list [])
 obtain ⟨h2, r2, H2, f2⟩ := H1.setB (b := st.next) hp [] (uS _ _ _) (Nat.lt_succ_self _) (.inr (Nat.le_refl _))
 obtain ⟨h3, r3, H3, f3⟩ := H2.setLast hp 0
 have F3 : RF st.next st.heap (st.next + 1) h3 := (RF.new.step f2).step f3
 have kp : (T.cut p).kids p = [] := fS
 have kc : (T.cut p).kids c = T.kids c := fO (Ne.symm hpc)
 obtain ⟨h4, n4, r4, H4, f4⟩ := lay_run (n := n) (hd := hd) (T := T.cut p) (st := ⟨h3, st.next + 1, updL l "others" (.ref b)⟩) H3 hp hc (by rw [kp]; exact Nat.zero_le _)
 have F4 : RF st.next st.heap n4 h4 := F3.step f4
 have H4' : RS ((T.cut p).lay p c) B DR (ext own st.next) h4 n4 := H4.grow (fun _ _ _ => rfl) rfl (Nat.le_refl _) fun a h => h.elim (fun q => q) fun q => .inr (Nat.le_of_succ_le q)
 have kc4 : ((T.cut p).lay p c).kids c = T.kids c := (fO (Ne.symm hpc)).trans kc
 obtain ⟨f, s, e, rfl, q1, q2, q3⟩ := rlays (n := n) (ev := { names := g_alone.scope.names, cells := [], hd }) (x := "other") (y := "number") (T := (T.cut p).lay p c) (c := c) (os := T.kids p) (old := b) (it := whileT (g_alone.body.getD 4 (.Pass default))) (st := ⟨h4, n4, updL l "others" (.ref b)⟩) (s0 := ⟨h4, n4, updL l "others" (.ref b)⟩) (nm (by decide)) (nm (by decide)) (nm (by decide)) (nm (by decide)) (by decide) (by decide) (by decide) (by decide) rfl
  (bN (by decide) (nm (by decide)) cS) H4' (F4.ls e2 e1) (ltl e2 F4.le) hc ((cO (by decide)).trans rfl) ((cO (by decide)).trans rfl) ho (by rw [kc4]; lia)
 refine ⟨s.heap, s.next, bO (f := .next) (s' := s) ⟨rfl, by decide⟩ ?_, q1.grow (fun _ _ _ => rfl) rfl (Nat.le_refl _) fun a h => h.elim (fun q => q) fun q => .inr (Nat.le_trans F4.le q), F4.step q2⟩
 refine sC (sA rfl (e4 (H0.look hp (bN (by decide) (nm (by decide)) rfl) (bN (by decide) (nm (by decide)) rfl) rfl fun _ _ => rfl)) (aN (nm (by decide)))) (sC (sA rfl (b_list rfl bE) (r2 (H1.look hp nr np rfl fun _ _ => rfl))) (sC (sA rfl bI (r3 (H2.look hp nr np rfl fun _ _ => rfl))) ?_))
 exact sC (s_expr rfl (bK (gO (nm (by decide))) rfl (by decide) (by decide) (bC nr (bC np (bC nn bE))) r4)) (sC e sN)
end
section
noncomputable def compNames (N : List (Str × NameKind)) (sc : Scope) : List (Str × NameKind) := sc.names.map fun p => if p.2 == .free && N.lookup p.1 == some .cell then (p.1, .cell) else p
theorem cnm {N : List (Str × NameKind)} {cells : List (Str × Nat)} {hd : Bool} {sc : Scope} {x : Str} {k : Option NameKind} (h : (compNames N sc).lookup x = k) : (compEnv (AEnv.mk N cells hd) sc).names.lookup x = k := h
theorem ct_yes {acc : Nat} {ok : M Bool} {elt : M V} {s s2 : S} {w : V} {ys : List V} (h1 : ok s = .ok true s) (h2 : elt s = .ok w s2) (ha : s2.heap acc = some (.list ys)) (hl : ys.length < 1000) : compTurnM acc ok elt s = .ok .next { s2 with heap := upd s2.heap acc (.list (ys ++ [w])) } :=
 bS h1 (b_if rfl (bS h2 (bS (app_at ha hl) rfl)))
theorem ct_no {acc : Nat} {ok : M Bool} {elt : M V} {s : S} (h1 : ok s = .ok false s) : compTurnM acc ok elt s = .ok .next s := bS h1 (b_ifn Bool.false_ne_true rfl)
section
variable {P : PI} {Φ : Phi} {ev : AEnv} {t it elt : Expr} {ifs : List Expr} {sc : Scope} {p : Pos} {st s1 : S} {i : Nat}
theorem comp_den (hok : compOk ev sc = true) (hd : ev.hd = false) {r : R V} (h : (denE P Φ ev it >>= fun x => compRest (compEnv ev sc) t (denAll P Φ (compEnv ev sc) ifs) (denE P Φ (compEnv ev sc) elt) x) st = r) : denE P Φ ev (.ListComp elt [⟨t, it, ifs, 0⟩] sc p) st = r :=
 b_if (c := (((0 : Nat) == 0) && ([] : List Comprehension).isEmpty && compOk ev sc && !ev.hd) = true) (by rw [hok, hd]; rfl) h
theorem Wp_comp {I : List V → S → Prop} {xs : List V} (hok : compOk ev sc = true) (hd : ev.hd = false) (hit : denE P Φ ev it st = .ok (.ref i) s1) (hh : s1.heap i = some (.list xs)) (hlen : xs.length < 100) (hl : ∀ rest s, I rest s → s.heap i = some (.list xs))
  (step : ∀ v rest s, I (v :: rest) s → ∃ s', targetV (compEnv ev sc) t v s = .ok () s' ∧ Wp (compTurnM s1.next (denAll P Φ (compEnv ev sc) ifs) (denE P Φ (compEnv ev sc) elt)) s' fun f s => f = .next ∧ I rest s) (h0 : I xs ⟨upd s1.heap s1.next (.list []), s1.next + 1, fun _ => none⟩) :
  ∃ s', I [] s' ∧ denE P Φ ev (.ListComp elt [⟨t, it, ifs, 0⟩] sc p) st = .ok (.ref s1.next) ⟨s'.heap, s'.next, s1.loc⟩ := by
 obtain ⟨f, s', e, q⟩ := Wp_each (Q := fun _ s => I [] s) hl (fun v rest s h => by
  obtain ⟨s', e, f, s'', e2, rfl, q⟩ := step v rest s h
  exact ⟨s', e, .next, s'', e2, q⟩) (fun s h => h) wlim 0 xs _ rfl hlen h0
 refine ⟨s', q, comp_den hok hd (bS hit (bS (itOf_list hh) (bS (a := s1.next) rfl (bS (a := s1.loc) rfl (bS (a := ()) rfl (bS (show noExc _ _ = .ok f s' by unfold noExc; exact (by rw [show loopD wlim (nextOf (.list i) (targetV (compEnv ev sc) t)) _ 0 _ = _ from e])) rfl))))))⟩
structure CP {α : Type} (as : List α) (g : α → V) (pd : α → Bool) (f : α → V) (s1 : S) (rest : List V) (done rs : List α) (s : S) : Prop where
 e : rest = rs.map g
 d : done ++ rs = as
 h : s.heap = upd s1.heap s1.next (.list ((done.filter pd).map f))
 n : s.next = s1.next + 1
theorem comp_pure {α : Type} (as : List α) (g : α → V) (pd : α → Bool) (f : α → V) (hok : compOk ev sc = true) (hd : ev.hd = false) (hit : denE P Φ ev it st = .ok (.ref i) s1) (hh : s1.heap i = some (.list (as.map g))) (hlt : i < s1.next) (hlen : as.length < 100)
  (step : ∀ a ∈ as, ∀ (h : Hp) (n : Nat) (l : Str → Option V), (∀ b, b < s1.next → h b = s1.heap b) → ∃ l', targetV (compEnv ev sc) t (g a) ⟨h, n, l⟩ = .ok () ⟨h, n, l'⟩ ∧ denAll P Φ (compEnv ev sc) ifs ⟨h, n, l'⟩ = .ok (pd a) ⟨h, n, l'⟩ ∧ (pd a = true → denE P Φ (compEnv ev sc) elt ⟨h, n, l'⟩ = .ok (f a) ⟨h, n, l'⟩)) :
  denE P Φ ev (.ListComp elt [⟨t, it, ifs, 0⟩] sc p) st = .ok (.ref s1.next) ⟨upd s1.heap s1.next (.list ((as.filter pd).map f)), s1.next + 1, s1.loc⟩ := by
 have hstep : ∀ v rest s, (∃ done rs, CP as g pd f s1 (v :: rest) done rs s) → ∃ s', targetV (compEnv ev sc) t v s = .ok () s' ∧ Wp (compTurnM s1.next (denAll P Φ (compEnv ev sc) ifs) (denE P Φ (compEnv ev sc) elt)) s' fun f' s => f' = .next ∧ ∃ done rs, CP as g pd f s1 rest done rs s := fun v rest s h => by
  obtain ⟨done, rs, C⟩ := h
  have e1 := C.e
  cases rs with
  | nil => nomatch e1
  | cons a rs =>
   have hm : a ∈ as := by rw [← C.d]; exact List.mem_append_right _ (.head _)
   obtain ⟨l', r1, r2, r3⟩ := step a hm s.heap s.next s.loc fun b hb => by rw [C.h]; exact uO (Nat.ne_of_lt hb)
   rw [(List.cons.inj e1).1]
   refine ⟨_, r1, ?_⟩
   have hl : ((done.filter pd).map f).length < 1000 := by
    rw [List.length_map]
    have a1 := List.length_filter_le pd done
    have a2 := congrArg List.length C.d
    rw [List.length_append] at a2
    lia
   cases hp : pd a with
   | true =>
    rw [hp] at r2
    refine ⟨_, _, ct_yes r2 (r3 hp) (by rw [C.h]; exact uS _ _ _) hl, rfl, done ++ [a], rs, (List.cons.inj e1).2, by rw [← C.d, List.append_assoc]; rfl, ?_, C.n⟩
    rw [List.filter_append, List.filter_cons_of_pos hp, List.filter_nil, List.map_append, C.h]
    exact upd_upd
   | false =>
    rw [hp] at r2
    refine ⟨_, _, ct_no r2, rfl, done ++ [a], rs, (List.cons.inj e1).2, by rw [← C.d, List.append_assoc]; rfl, ?_, C.n⟩
    rw [List.filter_append, List.filter_cons_of_neg (by rw [hp]; exact Bool.false_ne_true), List.filter_nil, List.append_nil]
    exact C.h
 obtain ⟨s', ⟨done, rs, C⟩, e⟩ := Wp_comp (p := p) (I := fun rest s => ∃ done rs, CP as g pd f s1 rest done rs s) hok hd hit hh (by rw [List.length_map]; exact hlen) (fun rest s h => by
   obtain ⟨done, rs, C⟩ := h
   rw [C.h]; exact (uO (Nat.ne_of_lt hlt)).trans hh) hstep ⟨[], as, rfl, rfl, rfl, rfl⟩
 ·have e1 := C.e
  cases rs with
  | cons _ _ => nomatch e1
  | nil =>
   have d := C.d
   rw [List.append_nil] at d
   rw [e, C.h, C.n, d]
noncomputable def Prs (h : Hp) : List Nat → List (Int × Int) → Prop
 | [], [] => True
 | x :: xs, k :: ks => h x = some (.tup [.int k.1, .int k.2]) ∧ Prs h xs ks
 | _, _ => False
theorem Prs.mono {h h' : Hp} : ∀ {xs : List Nat} {ks : List (Int × Int)}, (∀ x ∈ xs, ∀ v, h x = some (.tup v) → h' x = some (.tup v)) → Prs h xs ks → Prs h' xs ks
 | [], [], _, _ => trivial
 | x :: _, _ :: _, hk, i => ⟨hk x (.head _) _ i.1, Prs.mono (fun y hy => hk y (.tail _ hy)) i.2⟩
 | [], _ :: _, _, i => i.elim
 | _ :: _, [], _, i => i.elim
theorem Prs.snoc {h : Hp} {x : Nat} {k : Int × Int} (hx : h x = some (.tup [.int k.1, .int k.2])) : ∀ {xs : List Nat} {ks : List (Int × Int)}, Prs h xs ks → Prs h (xs ++ [x]) (ks ++ [k])
 | [], [], _ => ⟨hx, trivial⟩
 | _ :: _, _ :: _, i => ⟨i.1, Prs.snoc hx i.2⟩
 | [], _ :: _, i => i.elim
 | _ :: _, [], i => i.elim
theorem Prs.length {h : Hp} : ∀ {xs : List Nat} {ks : List (Int × Int)}, Prs h xs ks → xs.length = ks.length
 | [], [], _ => rfl
 | _ :: _, _ :: _, i => congrArg (· + 1) (Prs.length i.2)
 | [], _ :: _, i => i.elim
 | _ :: _, [], i => i.elim
structure CT {α : Type} (as : List α) (g : α → V) (f : α → Int × Int) (s1 : S) (rest : List V) (done rs : List α) (ys : List Nat) (s : S) : Prop where
 e : rest = rs.map g
 d : done ++ rs = as
 a : ∀ b, b < s1.next → s.heap b = s1.heap b
 l : s.heap s1.next = some (.list (ys.map .ref))
 p : Prs s.heap ys (done.map f)
 y : ∀ y ∈ ys, s1.next < y ∧ y < s.next
 n : s1.next < s.next
theorem comp_pair {α : Type} {e1 e2 : Expr} {kp : Nat} {pp : Pos} (as : List α) (g : α → V) (f : α → Int × Int) (hok : compOk ev sc = true) (hd : ev.hd = false) (hit : denE P Φ ev it st = .ok (.ref i) s1) (hh : s1.heap i = some (.list (as.map g))) (hlt : i < s1.next) (hlen : as.length < 100) (hs : noStars [e1, e2] = true)
  (step : ∀ a ∈ as, ∀ (h : Hp) (n : Nat) (l : Str → Option V), (∀ b, b < s1.next → h b = s1.heap b) → s1.next < n → ∃ l', targetV (compEnv ev sc) t (g a) ⟨h, n, l⟩ = .ok () ⟨h, n, l'⟩ ∧ denE P Φ (compEnv ev sc) e1 ⟨h, n, l'⟩ = .ok (.int (f a).1) ⟨h, n, l'⟩ ∧ denE P Φ (compEnv ev sc) e2 ⟨h, n, l'⟩ = .ok (.int (f a).2) ⟨h, n, l'⟩) :
  ∃ h' n' ys, denE P Φ ev (.ListComp (.Tuple [e1, e2] kp pp) [⟨t, it, [], 0⟩] sc p) st = .ok (.ref s1.next) ⟨h', n', s1.loc⟩ ∧ (∀ b, b < s1.next → h' b = s1.heap b) ∧ h' s1.next = some (.list (ys.map .ref)) ∧ Prs h' ys (as.map f) ∧ (∀ y ∈ ys, y < n') ∧ s1.next < n' := by
 have hstep : ∀ v rest s, (∃ done rs ys, CT as g f s1 (v :: rest) done rs ys s) → ∃ s', targetV (compEnv ev sc) t v s = .ok () s' ∧ Wp (compTurnM s1.next (denAll P Φ (compEnv ev sc) []) (denE P Φ (compEnv ev sc) (.Tuple [e1, e2] kp pp))) s' fun f' s => f' = .next ∧ ∃ done rs ys, CT as g f s1 rest done rs ys s := fun v rest s h => by
  obtain ⟨done, rs, ys, C⟩ := h
  have e1 := C.e
  cases rs with
  | nil => nomatch e1
  | cons a rs =>
   have hm : a ∈ as := by rw [← C.d]; exact List.mem_append_right _ (.head _)
   obtain ⟨l', r1, r2, r3⟩ := step a hm s.heap s.next s.loc C.a C.n
   rw [(List.cons.inj e1).1]
   have hl : (ys.map V.ref).length < 1000 := by
    rw [List.length_map, C.p.length, List.length_map]
    have a2 := congrArg List.length C.d
    rw [List.length_append] at a2
    lia
   have keep : ∀ {o : AObj} x v, x < s.next → s.heap x = some (.tup v) → upd (upd s.heap s.next o) s1.next (.list (ys.map .ref ++ [.ref s.next])) x = some (.tup v) := fun x v hx hv => (uO fun q => by rw [q, C.l] at hv; nomatch hv).trans ((uO (Nat.ne_of_lt hx)).trans hv)
   refine ⟨_, r1, _, _, ct_yes (ys := ys.map .ref) rfl (b_tuple hs (bC r2 (bC r3 bE))) ((uO (Nat.ne_of_lt C.n)).trans C.l) hl, rfl, done ++ [a], rs, ys ++ [s.next], (List.cons.inj e1).2, by rw [← C.d, List.append_assoc]; rfl, fun b hb => (uO (Nat.ne_of_lt hb)).trans ((uO (Nat.ne_of_lt (Nat.lt_trans hb C.n))).trans (C.a b hb)), by rw [List.map_append]; exact uS _ _ _, ?_, fun y hy => ?_, Nat.lt_succ_of_lt C.n⟩
   ·rw [List.map_append]
    exact (C.p.mono fun x hx v hv => keep x v (C.y x hx).2 hv).snoc ((uO (Nat.ne_of_gt C.n)).trans (uS _ _ _))
   ·rcases List.mem_append.mp hy with hy | hy
    ·exact ⟨(C.y y hy).1, Nat.lt_succ_of_lt (C.y y hy).2⟩
    ·rw [smp hy]; exact ⟨C.n, Nat.lt_succ_self _⟩
 obtain ⟨s', ⟨done, rs, ys, C⟩, e⟩ := Wp_comp (p := p) (elt := .Tuple [e1, e2] kp pp) (I := fun rest s => ∃ done rs ys, CT as g f s1 rest done rs ys s) hok hd hit hh (by rw [List.length_map]; exact hlen) (fun rest s h => by
   obtain ⟨done, rs, ys, C⟩ := h
   rw [C.a _ hlt]; exact hh) hstep ⟨[], as, [], rfl, rfl, fun b hb => uO (Nat.ne_of_lt hb), uS _ _ _, trivial, (fun _ h => zL h), Nat.lt_succ_self _⟩
 ·have e3 := C.e
  cases rs with
  | cons _ _ => nomatch e3
  | nil =>
   have d := C.d
   rw [List.append_nil] at d
   exact ⟨_, _, ys, e, C.a, C.l, d ▸ C.p, fun y hy => (C.y y hy).2, C.n⟩
end
theorem prs_pairs {h : Hp} : ∀ {ys : List Nat} {ks : List (Int × Int)}, Prs h ys ks → optAll ((ys.map V.ref).map (pairV h)) = some (ks.zip (ys.map .ref))
 | [], [], _ => rfl
 | y :: ys, k :: ks, i => by
  have e : pairV h (.ref y) = some (k, .ref y) := by
   show (match tupAt h y with | some [a, b] => (intPair a b).map fun p => (p, V.ref y) | _ => none) = _
   unfold tupAt
   rw [i.1]
   rfl
  rw [List.map_cons, List.map_cons]
  unfold optAll
  rw [e, prs_pairs i.2]
  rfl
 | [], _ :: _, i => i.elim
 | _ :: _, [], i => i.elim
theorem insP_fst (p : (Int × Int) × V) : ∀ r, (insP p r).map (·.1) = ins2 p.1 (r.map (·.1))
 | [] => rfl
 | q :: r => by
  show (if le2 p.1 q.1 = true then p :: q :: r else q :: insP p r).map (·.1) = if le2 p.1 q.1 = true then _ else _
  by_cases h : le2 p.1 q.1 = true
  ·rw [if_pos h, if_pos h]; rfl
  ·rw [if_neg h, if_neg h]; exact congrArg (q.1 :: ·) (insP_fst p r)
theorem sortP_fst : ∀ ps, (sortP ps).map (·.1) = sort2 (ps.map (·.1))
 | [] => rfl
 | p :: r => (insP_fst p _).trans (congrArg (ins2 p.1) (sortP_fst r))
theorem insP_mem {p x : (Int × Int) × V} : ∀ {r}, x ∈ insP p r → x = p ∨ x ∈ r
 | [], h => .inl (smp h)
 | q :: r, h => by
  have h : x ∈ (if leP p q = true then p :: q :: r else q :: insP p r) := h
  by_cases z : leP p q = true
  ·rw [if_pos z] at h; exact List.mem_cons.mp h
  ·rw [if_neg z] at h
   rcases List.mem_cons.mp h with rfl | h
   ·exact .inr (.head _)
   ·exact (insP_mem h).imp_right (.tail _)
theorem sortP_mem {x : (Int × Int) × V} : ∀ {r}, x ∈ sortP r → x ∈ r
 | _ :: _, h => by
  rcases insP_mem h with rfl | h
  ·exact .head _
  ·exact .tail _ (sortP_mem h)
noncomputable def PrAt (h : Hp) (N : Nat) (p : (Int × Int) × V) : Prop := ∃ y, p.2 = .ref y ∧ y < N ∧ h y = some (.tup [.int p.1.1, .int p.1.2])
theorem prs_at {h : Hp} {N : Nat} : ∀ {ys : List Nat} {ks : List (Int × Int)}, Prs h ys ks → (∀ y ∈ ys, y < N) → ∀ p ∈ ks.zip (ys.map V.ref), PrAt h N p
 | y :: ys, k :: ks, i, hy, p, hp => by
  rcases List.mem_cons.mp hp with rfl | hp
  ·exact ⟨y, rfl, hy y (.head _), i.1⟩
  ·exact prs_at i.2 (fun y h => hy y (.tail _ h)) p hp
 | [], [], _, _, _, hp => zL hp
 | [], _ :: _, i, _, _, _ => i.elim
 | _ :: _, [], i, _, _, _ => i.elim
theorem prs_of {h : Hp} {N : Nat} : ∀ {ps : List ((Int × Int) × V)}, (∀ p ∈ ps, PrAt h N p) → ∃ zs : List Nat, ps.map (·.2) = zs.map .ref ∧ Prs h zs (ps.map (·.1)) ∧ ∀ z ∈ zs, z < N
 | [], _ => ⟨[], rfl, trivial, fun _ h => zL h⟩
 | p :: ps, hp => by
  obtain ⟨zs, a, b, c⟩ := prs_of fun q hq => hp q (.tail _ hq)
  obtain ⟨y, d, e, f⟩ := hp p (.head _)
  refine ⟨y :: zs, by rw [List.map_cons, a, d]; rfl, ⟨f, b⟩, fun z hz => ?_⟩
  rcases List.mem_cons.mp hz with rfl | hz
  ·exact e
  ·exact c z hz
theorem zip_fst : ∀ {ks : List (Int × Int)} {ys : List Nat}, ys.length = ks.length → (ks.zip (ys.map V.ref)).map (·.1) = ks
 | [], _, _ => rfl
 | k :: ks, y :: ys, h => congrArg (k :: ·) (zip_fst (Nat.succ.inj h))
theorem sorted_run {a : Nat} {ys : List Nat} {ks : List (Int × Int)} {st : S} (ha : st.heap a = some (.list (ys.map .ref))) (hp : Prs st.heap ys ks) (hy : ∀ y ∈ ys, y < st.next) (hl : ks.length < 64) (hn : ks.Nodup) :
  ∃ zs, sortedV (.ref a) st = .ok (.ref st.next) ⟨upd st.heap st.next (.list (zs.map .ref)), st.next + 1, st.loc⟩ ∧ Prs st.heap zs (sort2 ks) ∧ ∀ z ∈ zs, z < st.next := by
 have e0 := zip_fst hp.length
 obtain ⟨zs, a1, a2, a3⟩ := prs_of (ps := sortP (ks.zip (ys.map V.ref))) fun p h => prs_at hp hy p (sortP_mem h)
 rw [sortP_fst, e0] at a2
 refine ⟨zs, b_ref (bS (rdL_at ha) (bS (bG (prs_pairs hp)) (b_if ⟨?_, by rw [e0]; exact hn⟩ ?_))), a2, a3⟩
 ·have := congrArg List.length e0
  rw [List.length_map] at this
  lia
 ·rw [a1]; rfl
end
noncomputable abbrev locC (x : Str) (c : FnC) (vs : List V) : Str → Option V := fun y => if y = x then none else (c.params.zip vs).lookup y
theorem all_one {P : PI} {Φ : Phi} {ev : AEnv} {x : Expr} {b : Bool} {st s1 : S} (h : denT P Φ ev x (denE P Φ ev x) st = .ok b s1) : denAll P Φ ev [x] st = .ok b s1 := bS h (by cases b <;> rfl)
theorem out_run {n : Nat} {T : Tab} {B : Int → Nat} {DR : Nat} {own : Nat → Prop} {st : S} (H : RS T B DR own st.heap st.next) {p c : Int} (hp : p ∈ T.nums) (hc : c ∈ T.nums) (hpar : T.par c = some p) (hl : (T.kids p).length ≤ 40) :
  ∃ h' n', bodyM pi01 (phi pi01 n) false g_out [.ref DR, .int c] st = .ok (.int p) ⟨h', n', st.loc⟩ ∧ RS (T.off p c) B DR (ext own st.next) h' n' ∧ RF st.next st.heap n' h' := by
 have H0 : RS T B DR (ext own st.next) (upd st.heap st.next (.cell (some (.int c)))) (st.next + 1) := (H.grow (fun _ _ _ => rfl) rfl (Nat.le_refl _) fun a h => .inl h).al
 have nr : ∀ {h : Hp} {k : Nat} {pp : Pos}, denE pi01 (phi pi01 n) { names := g_out.scope.names, cells := [("number", st.next)], hd := false } (.Name "rows" pp) ⟨h, k, updL (locC "number" g_out [.ref DR, .int c]) "parent" (.int p)⟩ = .ok (.ref DR) ⟨h, k, updL (locC "number" g_out [.ref DR, .int c]) "parent" (.int p)⟩ := bN (by decide) (nm (by decide)) ((cO (by decide)).trans rfl)
 have np : ∀ {h : Hp} {k : Nat} {pp : Pos}, denE pi01 (phi pi01 n) { names := g_out.scope.names, cells := [("number", st.next)], hd := false } (.Name "parent" pp) ⟨h, k, updL (locC "number" g_out [.ref DR, .int c]) "parent" (.int p)⟩ = .ok (.int p) ⟨h, k, updL (locC "number" g_out [.ref DR, .int c]) "parent" (.int p)⟩ := bN (by decide) (nm (by decide)) cS
 obtain ⟨b, e1, e2, e3, e4⟩ := RS.ben (P := pi01) (Φ := phi pi01 n) (ev := { names := g_out.scope.names, cells := [("number", st.next)], hd := false }) (l := updL (locC "number" g_out [.ref DR, .int c]) "parent" (.int p)) H0 hp
 have H1 := H0.al (o := .list (((T.kids p).filter fun o => o != c).map .int))
 obtain ⟨h2, r2, H2, f2⟩ := H1.setB (b := st.next + 1) hp ((T.kids p).filter fun o => o != c) (uS _ _ _) (Nat.lt_succ_self _) (.inr (Nat.le_succ _))
 refine ⟨h2, st.next + 2, body_okC (f := .ret (.int p)) (s' := ⟨h2, st.next + 2, updL (locC "number" g_out [.ref DR, .int c]) "parent" (.int p)⟩) (x := "number") rfl (by decide) (by decide) ?_, H2, (RF.new.step RF.new).step f2⟩
 refine sC (sA rfl (H0.fld hc (H0.look hc (bN (by decide) (nm (by decide)) rfl) (b_cell (by decide) (nm (by decide)) rfl (uS _ _ _)) rfl fun _ _ => rfl) (v := .int p) fun b => by show some (parI (T.par c)) = _; rw [hpar]; rfl) (aN (nm (by decide)))) ?_
 refine sC (sA rfl (comp_pure (s1 := ⟨upd st.heap st.next (.cell (some (.int c))), st.next + 1, updL (locC "number" g_out [.ref DR, .int c]) "parent" (.int p)⟩) (T.kids p) .int (fun o => o != c) .int rfl rfl (e4 (H0.look hp nr np rfl fun _ _ => rfl)) e1 e2 (by lia) fun a ha h k l hh => ⟨updL l "other" (.int a), bT (cnm (by decide)), ?_, fun _ => bN (by decide) (cnm (by decide)) cS⟩) (r2 (H1.look hp nr np rfl fun _ _ => rfl))) (sE (s_ret np))
 exact all_one (tC (bN (by decide) (cnm (by decide)) cS) (b_cell (by decide) (cnm (by decide)) rfl ((hh _ (Nat.lt_succ_self _)).trans (uS _ _ _))) b_cmpNe)
theorem Wp_forW {P : PI} {Φ : Phi} {ev : AEnv} {t it : Expr} {b : List Stmt} {p : Pos} {s : S} {Q : Flow → S → Prop} (hc : noRange it = true)
  (h : Wp (denE P Φ ev it) s fun v s1 => ∃ i xs, v = .ref i ∧ s1.heap i = some (.list xs) ∧ xs.length < 100 ∧ ∃ I : List V → S → Prop, (∀ rest s, I rest s → s.heap i = some (.list xs)) ∧ (∀ v rest s, I (v :: rest) s → ∃ s', targetV ev t v s = .ok () s' ∧ Wp (denSs P Φ ev b) s' (Turn Q (I rest))) ∧ (∀ s, I [] s → Q .next s) ∧ I xs s1) : Wp (denS P Φ ev (.For t it b [] p)) s Q := by
 obtain ⟨v, s1, e, i, xs, rfl, h1, h2, I, h3, h4, h5, h6⟩ := h
 exact Wp_for hc e h1 h2 h3 h4 h5 h6
theorem Wp_call1 {P : PI} {Φ : Phi} {ev : AEnv} {f : Str} {arg : Expr} {fp p : Pos} {st : S} {Q : V → S → Prop} (hg : isGlobal ev f = true) (hs : noStars [arg] = true) (hi : f ≠ ("isinstance" : Str)) (hk : knownFn P f = true)
  (h : Wp (denE P Φ ev arg) st fun v s1 => Wp (callName P Φ ev f [v]) s1 Q) : Wp (denE P Φ ev (.Call (.Name f fp) [arg] [] p)) st Q := by
 obtain ⟨v, s1, e, w, s2, e2, q⟩ := h
 exact ⟨w, s2, bK hg hs hi hk (bC e bE) e2, q⟩
theorem Wp_pair {α : Type} {P : PI} {Φ : Phi} {ev : AEnv} {t it : Expr} {sc : Scope} {p : Pos} {st s1 : S} {i : Nat} {e1 e2 : Expr} {kp : Nat} {pp : Pos} {Q : V → S → Prop} (as : List α) (g : α → V) (f : α → Int × Int) (hok : compOk ev sc = true) (hd : ev.hd = false) (hit : denE P Φ ev it st = .ok (.ref i) s1) (hh : s1.heap i = some (.list (as.map g))) (hlt : i < s1.next) (hlen : as.length < 100) (hs : noStars [e1, e2] = true)
  (step : ∀ a ∈ as, ∀ (h : Hp) (n : Nat) (l : Str → Option V), (∀ b, b < s1.next → h b = s1.heap b) → s1.next < n → ∃ l', targetV (compEnv ev sc) t (g a) ⟨h, n, l⟩ = .ok () ⟨h, n, l'⟩ ∧ denE P Φ (compEnv ev sc) e1 ⟨h, n, l'⟩ = .ok (.int (f a).1) ⟨h, n, l'⟩ ∧ denE P Φ (compEnv ev sc) e2 ⟨h, n, l'⟩ = .ok (.int (f a).2) ⟨h, n, l'⟩)
  (hQ : ∀ h' n' ys, (∀ b, b < s1.next → h' b = s1.heap b) → h' s1.next = some (.list (ys.map .ref)) → Prs h' ys (as.map f) → (∀ y ∈ ys, y < n') → s1.next < n' → Q (.ref s1.next) ⟨h', n', s1.loc⟩) : Wp (denE P Φ ev (.ListComp (.Tuple [e1, e2] kp pp) [⟨t, it, [], 0⟩] sc p)) st Q := by
 obtain ⟨h', n', ys, e, r1, r2, r3, r4, r5⟩ := comp_pair (P := P) (Φ := Φ) (t := t) (kp := kp) (pp := pp) (p := p) as g f hok hd hit hh hlt hlen hs step
 exact ⟨_, _, e, hQ h' n' ys r1 r2 r3 r4 r5⟩
noncomputable def optV : Option Int → V
 | some x => .int x
 | none => .none
noncomputable def flowO : Option Int → Flow
 | some x => .ret (.int x)
 | none => .next
noncomputable def RTurn (T : Tab) (ht : Int → Nat) (B : Int → Nat) (DR m : Nat) (n : Nat) : Prop := ∀ k ∈ T.nums, ht k < n → ∀ own st D, RS (T.wd D) B DR own st.heap st.next →
 ∃ h' n', bodyM pi01 (phi pi01 (m + n)) false g_turn [.ref DR, .int k] st = .ok (optV (turn T n D k).1) ⟨h', n', st.loc⟩ ∧ RS (T.wd (turn T n D k).2) B DR (ext own st.next) h' n' ∧ RF st.next st.heap n' h'
noncomputable abbrev evT (c : Nat) : AEnv := { names := g_turn.scope.names, cells := [("rows", c)], hd := false }
noncomputable def turnF : Stmt := g_turn.body.getD 0 (.Pass default)
structure RT (T : Tab) (F : Dy → Int → Option Int × Dy) (B : Int → Nat) (DR : Nat) (own : Nat → Prop) (cl : Nat) (k : Int) (h1 : Hp) (n1 : Nat) (res : Option Int × Dy) (rest : List V) (r : List (Int × Int)) (zs : List Nat) (D : Dy) (s : S) : Prop where
 e : rest = zs.map .ref
 p : Prs s.heap zs r
 fa : ∀ z ∈ zs, z < n1
 g : goT T F k r D = res
 rs : RS (T.wd D) B DR own s.heap s.next
 f : RF n1 h1 s.next s.heap
 lo : s.loc "number" = some (.int k)
 ce : s.heap cl = some (.cell (some (.ref DR)))
 cn : cl < n1
 m : ∀ e ∈ r, e.2 ∈ T.kids k
theorem rturn_step {T : Tab} {rk ht : Int → Nat} {B : Int → Nat} {DR m : Nat} {n : Nat} (hT : Tree T rk) (IH : RTurn T ht B DR m n) {k : Int} (hk : k ∈ T.nums) (hh : ∀ c ∈ T.kids k, ht c < n) {own : Nat → Prop} {cl n1 : Nat} {h1 : Hp} {res : Option Int × Dy} {v : V} {rest : List V} {e : Int × Int} {r : List (Int × Int)} {z : Nat} {zs : List Nat} {D : Dy} {s : S} (how : ∀ a, n1 ≤ a → own a)
  (I : RT T (turn T n) B DR own cl k h1 n1 res (v :: rest) (e :: r) (z :: zs) D s) :
  ∃ s', targetV (evT cl) (.Tuple [.Name "level" default, .Name "other" default] 0 default) v s = .ok () s' ∧ Wp (denSs pi01 (phi pi01 (m + n + 1)) (evT cl) (whileB turnF)) s' (Turn (fun f s => f = flowO res.1 ∧ RS (T.wd res.2) B DR own s.heap s.next ∧ RF n1 h1 s.next s.heap) fun s => ∃ D', RT T (turn T n) B DR own cl k h1 n1 res rest r zs D' s) := by
 have he := I.m e (.head _)
 have hkc := hT.kid k hk _ he
 have hw := hT.wt _ hkc.1
 have hv : v = .ref z := (List.cons.inj I.e).1
 rw [hv]
 refine ⟨_, a_tup (P := pi01) (Φ := phi pi01 0) (p := default) (k := 0) (q1 := default) (q2 := default) (nm (by decide)) (nm (by decide)) I.p.1, ?_⟩
 have look : ∀ {T' : Tab} {h : Hp} {nx : Nat} {l : Str → Option V} {p1 p2 p3 : Pos}, RS T' B DR own h nx → T'.nums = T.nums → h cl = some (.cell (some (.ref DR))) → l "other" = some (.int e.2) → denE pi01 (phi pi01 (m + n + 1)) (evT cl) (.Subscript (.Name "rows" p1) (.Name "other" p2) p3) ⟨h, nx, l⟩ = .ok (.ref (B e.2)) ⟨h, nx, l⟩ := fun {T' h nx l p1 p2 p3} R hn hc hl =>
  R.look (hn ▸ hkc.1) (b_cell (by decide) (nm (by decide)) rfl hc) (bN (by decide) (nm (by decide)) hl) rfl fun _ _ => rfl
 obtain ⟨h2, r2, R2, f2⟩ := I.rs.setLast (k := k) hk e.1
 obtain ⟨h3, r3, R3, f3⟩ := R2.setLev (k := e.2) hkc.1 (e.1 + Int.fdiv (256 + D (.over e.2)) (T.w e.2))
 obtain ⟨h4, r4, R4, f4⟩ := R3.setOver (k := e.2) hkc.1 (Int.fmod (256 + D (.over e.2)) (T.w e.2))
 have R5 : RS (T.wd (bump T.w k e D)) B DR own h4 s.next := R4
 have F4 : RF s.next s.heap s.next h4 := (f2.step f3).step f4
 let lo : Str → Option V := updL (updL (updL s.loc "level" (.int e.1)) "other" (.int e.2)) "row" (.ref (B e.2))
 have nrow : ∀ {h : Hp} {k : Nat} {pp : Pos}, denE pi01 (phi pi01 (m + n + 1)) (evT cl) (.Name "row" pp) ⟨h, k, lo⟩ = .ok (.ref (B e.2)) ⟨h, k, lo⟩ := bN (by decide) (nm (by decide)) cS
 have nlev : ∀ {h : Hp} {k : Nat} {pp : Pos}, denE pi01 (phi pi01 (m + n + 1)) (evT cl) (.Name "level" pp) ⟨h, k, lo⟩ = .ok (.int e.1) ⟨h, k, lo⟩ := bN (by decide) (nm (by decide)) ((cO (by decide)).trans ((Lo (by decide)).trans lS))
 have noth : ∀ {h : Hp} {k : Nat} {pp : Pos}, denE pi01 (phi pi01 (m + n + 1)) (evT cl) (.Name "other" pp) ⟨h, k, lo⟩ = .ok (.int e.2) ⟨h, k, lo⟩ := bN (by decide) (nm (by decide)) ((cO (by decide)).trans lS)
 have nnum : lo "number" = some (.int k) := (Lo (by decide)).trans ((Lo (by decide)).trans ((Lo (by decide)).trans I.lo))
 have clt : cl < s.next := ltl I.cn I.f.le
 have c2 := f2.st cl _ clt I.ce fun _ q => (by contradiction)
 have run : ∀ {r : R Flow}, denSs pi01 (phi pi01 (m + n + 1)) (evT cl) ((whileB turnF).drop 4) ⟨h4, s.next, lo⟩ = r → denSs pi01 (phi pi01 (m + n + 1)) (evT cl) (whileB turnF) ⟨s.heap, s.next, updL (updL s.loc "level" (.int e.1)) "other" (.int e.2)⟩ = r := fun h =>
  sC (sA rfl (look I.rs rfl I.ce lS) (aN (nm (by decide)))) (sC (sA rfl nlev (r2 (I.rs.look hk (b_cell (by decide) (nm (by decide)) rfl I.ce) (bN (by decide) (nm (by decide)) nnum) rfl fun _ _ => rfl)))
   (sC (sA rfl (bB nlev (bB (bB bI (R2.fld hkc.1 nrow fun _ => rfl) b_add) (R2.fld hkc.1 nrow fun _ => rfl) (b_fdiv ⟨by show 0 < T.w e.2; lia, by show T.w e.2 < 1000; lia⟩)) b_add) (r3 nrow))
   (sC (sA rfl (bB (bB bI (R3.fld hkc.1 nrow fun _ => rfl) b_add) (R3.fld hkc.1 nrow fun _ => rfl) (b_mod (show T.w e.2 ≠ 0 by lia))) (r4 nrow)) h)))
 have c4 : h4 cl = some (.cell (some (.ref DR))) := F4.st cl _ clt I.ce fun _ q => (by contradiction)
 have hg := I.g
 unfold goT at hg
 have fin : ∀ {h : Hp} {nx : Nat} {v : V}, RF s.next s.heap nx h → ∀ {b : Bool}, isNone v = b → denSs pi01 (phi pi01 (m + n + 1)) (evT cl) ((whileB turnF).drop 5) ⟨h, nx, updL lo "served" v⟩ = .ok (if b then Mine.Flow.next else .ret v) ⟨h, nx, updL lo "served" v⟩ := fun {h nx v} _ {b} hb => by
  have nv : ∀ {pp : Pos}, denE pi01 (phi pi01 (m + n + 1)) (evT cl) (.Name "served" pp) ⟨h, nx, updL lo "served" v⟩ = .ok v ⟨h, nx, updL lo "served" v⟩ := bN (by decide) (nm (by decide)) cS
  cases b with
  | true => exact sC (s_ifF (tC nv b_none (b_cmpIsNot.trans (by rw [hb]; rfl))) sN) sN
  | false => exact sE (s_ifT (tC nv b_none (b_cmpIsNot.trans (by rw [hb]; rfl))) (sE (s_ret nv)))
 by_cases ha : T.able e.2 = true
 ·rw [if_pos ha] at hg
  have a5 : denS pi01 (phi pi01 (m + n + 1)) (evT cl) ((whileB turnF).getD 4 (.Pass default)) ⟨h4, s.next, lo⟩ = .ok .next ⟨h4, s.next, updL lo "served" (.int e.2)⟩ :=
   sA rfl (b_ifexpT (bS (R5.fld hkc.1 nrow (v := .bool true) fun _ => by show some (V.bool (T.able e.2)) = _; rw [ha]) rfl) noth) (aN (nm (by decide)))
  exact Wp_of (a := Mine.Flow.ret (.int e.2)) (run (sC a5 (fin F4 rfl))) ⟨by rw [← hg]; rfl, by rw [← hg]; exact R5, I.f.step F4⟩
 ·rw [if_neg ha] at hg
  rw [Bool.not_eq_true] at ha
  obtain ⟨h5, n5, w1, R6, F6⟩ := IH e.2 hkc.1 (hh _ he) own ⟨h4, s.next, lo⟩ (bump T.w k e D) R5
  have R7 : RS (T.wd (turn T n (bump T.w k e D) e.2).2) B DR own h5 n5 := R6.grow (fun _ _ _ => rfl) rfl (Nat.le_refl _) fun a h => h.elim (fun q => q) fun q => how a (Nat.le_trans I.f.le q)
  have a5 : denS pi01 (phi pi01 (m + n + 1)) (evT cl) ((whileB turnF).getD 4 (.Pass default)) ⟨h4, s.next, lo⟩ = .ok .next ⟨h5, n5, updL lo "served" (optV (turn T n (bump T.w k e D) e.2).1)⟩ :=
   sA rfl (b_ifexpF (bS (R5.fld hkc.1 nrow (v := .bool false) fun _ => by show some (V.bool (T.able e.2)) = _; rw [ha]) rfl) (bK (gO (nm (by decide))) rfl (by decide) (by decide) (bC (b_cell (by decide) (nm (by decide)) rfl c4) (bC noth bE)) w1)) (aN (nm (by decide)))
  cases hx : (turn T n (bump T.w k e D) e.2).1 with
  | some x =>
   rw [hx] at hg a5
   exact Wp_of (a := Mine.Flow.ret (.int x)) (run (sC a5 (fin (F4.step F6) rfl))) ⟨by rw [← hg]; rfl, by rw [← hg]; exact R7, I.f.step (F4.step F6)⟩
  | none =>
   rw [hx] at hg a5
   have F7 := F4.step F6
   exact Wp_of (a := Mine.Flow.next) (run (sC a5 (fin F7 rfl))) ⟨_, (List.cons.inj I.e).2, I.p.2.mono fun x hx v hv => F7.st x _ (ltl (I.fa x (.tail _ hx)) I.f.le) hv (fun _ q => ((by contradiction))), fun z hz => I.fa z (.tail _ hz), hg, R7, I.f.step F7, (cO (by decide)).trans nnum, F6.st cl _ clt c4 (fun _ q => ((by contradiction))), I.cn, fun e he => I.m e (.tail _ he)⟩
theorem rturn_succ {T : Tab} {rk ht : Int → Nat} {B : Int → Nat} {DR m : Nat} {n : Nat} (hT : Tree T rk) (hh : ∀ k ∈ T.nums, ∀ c ∈ T.kids k, ht c < ht k) (few : ∀ k ∈ T.nums, (T.kids k).length ≤ 40) (IH : RTurn T ht B DR m n) : RTurn T ht B DR m (n + 1) := by
 intro k hk hn own st D H
 have H0 : RS (T.wd D) B DR (ext own st.next) (upd st.heap st.next (.cell (some (.ref DR)))) (st.next + 1) := (H.grow (fun _ _ _ => rfl) rfl (Nat.le_refl _) fun a h => .inl h).al
 have hcl : (upd st.heap st.next (.cell (some (.ref DR)))) st.next = some (.cell (some (.ref DR))) := uS _ _ _
 obtain ⟨b, e1, e2, e3, e4⟩ := RS.ben (P := pi01) (Φ := phi pi01 (m + n + 1)) (ev := evT st.next) (l := locC "rows" g_turn [.ref DR, .int k]) H0 hk
 have hl := few k hk
 have W : Wp (denS pi01 (phi pi01 (m + n + 1)) (evT st.next) turnF) ⟨upd st.heap st.next (.cell (some (.ref DR))), st.next + 1, locC "rows" g_turn [.ref DR, .int k]⟩ fun f s => f = flowO (turn T (n + 1) D k).1 ∧ RS (T.wd (turn T (n + 1) D k).2) B DR (ext own st.next) s.heap s.next ∧ RF (st.next + 1) (upd st.heap st.next (.cell (some (.ref DR)))) s.next s.heap := by
  refine Wp_forW rfl (Wp_call1 (gO (nm (by decide))) rfl (by decide) (by decide) (Wp_pair (T.kids k) .int (fun c => (D (.lev c), c)) rfl rfl (e4 (H0.look hk (b_cell (by decide) (nm (by decide)) rfl hcl) (bN (by decide) (nm (by decide)) rfl) rfl fun _ _ => rfl)) e1 e2 (by lia) rfl (fun a ha h nx l hh' hn' => ⟨updL l "other" (.int a), bT (cnm (by decide)), ?_, bN (by decide) (cnm (by decide)) cS⟩) fun h1 n1 ys r1 r2 r3 r4 r5 => ?_))
  ·have R : RS (T.wd D) B DR (ext own st.next) h nx := H0.grow (fun a ha _ => hh' a ha) (hh' _ H0.lt) (Nat.le_of_lt hn') fun _ q => q
   exact R.fld (hT.kid k hk a ha).1 (R.look (hT.kid k hk a ha).1 (b_cell (by decide) (cnm (by decide)) rfl ((hh' _ (Nat.lt_succ_self _)).trans hcl)) (bN (by decide) (cnm (by decide)) cS) rfl fun _ _ => rfl) fun _ => rfl
  ·have hnd : ((T.kids k).map fun c => (D (.lev c), c)).Nodup := List.pairwise_map.mpr ((hT.nd k hk).imp fun h e => h (congrArg Prod.snd e))
   obtain ⟨zs, q1, q2, q3⟩ := sorted_run (st := ⟨h1, n1, locC "rows" g_turn [.ref DR, .int k]⟩) r2 r3 r4 (by rw [List.length_map]; lia) hnd
   refine Wp_of q1 ⟨n1, zs.map .ref, rfl, uS _ _ _, by rw [List.length_map, q2.length, (sort2_perm _).length_eq, List.length_map]; lia, ?_⟩
   have F1 : RF (st.next + 1) (upd st.heap st.next (.cell (some (.ref DR)))) (n1 + 1) (upd h1 n1 (.list (zs.map .ref))) := ⟨Nat.le_succ_of_le (Nat.le_of_lt r5), fun a o ha e _ => (uO (Nat.ne_of_lt (Nat.lt_trans ha r5))).trans ((r1 a ha).trans e)⟩
   have R1 : RS (T.wd D) B DR (ext own st.next) (upd h1 n1 (.list (zs.map .ref))) (n1 + 1) := (H0.grow (fun a ha _ => r1 a ha) (r1 _ H0.lt) (Nat.le_of_lt r5) fun _ q => q).al
   have I0 : RT T (turn T n) B DR (ext own st.next) st.next k (upd h1 n1 (.list (zs.map .ref))) (n1 + 1) (turn T (n + 1) D k) (zs.map .ref) (que T D k) zs D ⟨upd h1 n1 (.list (zs.map .ref)), n1 + 1, locC "rows" g_turn [.ref DR, .int k]⟩ :=
    ⟨rfl, q2.mono fun x hx v hv => (uO (Nat.ne_of_lt (q3 x hx))).trans hv, fun z hz => Nat.lt_succ_of_lt (q3 z hz), rfl, R1, .refl, rfl, F1.st _ _ (Nat.lt_succ_self _) hcl (fun _ q => ((by contradiction))), Nat.lt_succ_of_lt (Nat.lt_trans (Nat.lt_succ_self _) r5), fun e he => (mem_que he).1⟩
   refine ⟨fun rest s => ∃ r zs' D', RT T (turn T n) B DR (ext own st.next) st.next k (upd h1 n1 (.list (zs.map .ref))) (n1 + 1) (turn T (n + 1) D k) rest r zs' D' s, fun rest s h => ?_, fun v rest s h => ?_, fun s h => ?_, ⟨_, _, _, I0⟩⟩
   ·obtain ⟨r, zs', D', I⟩ := h
    exact I.f.ls (Nat.lt_succ_self _) (uS _ _ _)
   ·obtain ⟨r, zs', D', I⟩ := h
    have e := I.e
    have p := I.p
    cases zs' with
    | nil => nomatch e
    | cons z zs' =>
     cases r with
     | nil => exact p.elim
     | cons e0 r =>
      obtain ⟨s', w1, w2⟩ := rturn_step hT IH hk (fun c hc => ltl (hh k hk c hc) (Nat.le_of_lt_succ hn)) (fun a ha => .inr (Nat.le_trans (Nat.le_of_lt (Nat.lt_trans (ltl (Nat.lt_succ_self _) (Nat.le_of_lt r5)) (Nat.lt_succ_self _))) ha)) I
      refine ⟨s', w1, Wp_mono w2 fun f s'' q => ?_⟩
      cases f with
      | next => obtain ⟨D'', q⟩ := q; exact ⟨_, _, D'', q⟩
      | cont => obtain ⟨D'', q⟩ := q; exact ⟨_, _, D'', q⟩
      | brk => exact ⟨q.1, q.2.1, F1.step q.2.2⟩
      | ret v => exact ⟨q.1, q.2.1, F1.step q.2.2⟩
   ·obtain ⟨r, zs', D', I⟩ := h
    have e := I.e
    have p := I.p
    cases zs' with
    | cons _ _ => nomatch e
    | nil =>
     cases r with
     | cons _ _ => exact p.elim
     | nil =>
      have g := I.g
      rw [show goT T (turn T n) k [] D' = (none, D') from rfl] at g
      exact ⟨by rw [← g]; rfl, by rw [← g]; exact I.rs, F1.step I.f⟩
 obtain ⟨f, s, e, q1, q2, q3⟩ := W
 have F : RF st.next st.heap s.next s.heap := RF.new.step q3
 cases hx : (turn T (n + 1) D k).1 with
 | some x =>
  rw [hx] at q1
  exact ⟨s.heap, s.next, body_okC (f := .ret (.int x)) (s' := s) (x := "rows") rfl (by decide) (by decide) (sE (by rw [q1] at e; exact e)), q2, F⟩
 | none =>
  rw [hx] at q1
  exact ⟨s.heap, s.next, body_okC (f := .ret .none) (s' := s) (x := "rows") rfl (by decide) (by decide) (sC (by rw [q1] at e; exact e) (sE (s_ret b_none))), q2, F⟩
theorem rturn_all {T : Tab} {rk ht : Int → Nat} {B : Int → Nat} {DR m : Nat} (hT : Tree T rk) (hh : ∀ k ∈ T.nums, ∀ c ∈ T.kids k, ht c < ht k) (few : ∀ k ∈ T.nums, (T.kids k).length ≤ 40) : ∀ n, RTurn T ht B DR m n
 | 0 => fun k hk h0 => absurd h0 (Nat.not_lt_zero _)
 | n + 1 => rturn_succ hT hh few (rturn_all hT hh few n)
noncomputable def toldO : Option Int → V
 | some x => .int x
 | none => .str "none"
noncomputable def toldV (T : Tab) (n : Nat) (k : Int) : V := if T.able k then .str "active" else toldO (turn T n T.dy k).1
noncomputable def Tab.after (T : Tab) (n : Nat) (k : Int) : Tab := if T.able k then T else T.wd (turn T n T.dy k).2
theorem told_spec {n : Nat} {T : Tab} {rk ht : Int → Nat} {L : Rl → Nat} {own : Nat → Prop} {st : S} (hT : Tree T rk) (hh : ∀ k ∈ T.nums, ∀ c ∈ T.kids k, ht c < ht k) (H : SY T L own st) {k : Int} (hk : k ∈ T.nums) (hn : ht k < n) :
  ∃ st', bodyM pi01 (phi pi01 (n + 5)) false g_told [.ref (L (.A k))] st = .ok (toldV T n k) st' ∧ SY (T.after n k) L (ext own st.next) st' ∧ Fr own st st' := by
 obtain ⟨Q, h1, h2⟩ := H.ss
 have hA := h1.cc (.A k) hk
 have hs : ∀ {p : Pos}, denE pi01 (phi pi01 (n + 5)) { names := g_told.scope.names, cells := [], hd := false } (.Name "stream" p) ⟨st.heap, st.next, fun x => (g_told.params.zip [V.ref (L (.A k))]).lookup x⟩ = .ok (.ref (L (.A k))) ⟨st.heap, st.next, fun x => (g_told.params.zip [V.ref (L (.A k))]).lookup x⟩ := bN (by decide) (nm (by decide)) rfl
 unfold toldV Tab.after
 by_cases ha : T.able k = true
 ·rw [if_pos ha, if_pos ha]
  have a := sched_active (n := n + 4) (st := ⟨st.heap, st.next, fun x => (g_told.params.zip [V.ref (L (.A k))]).lookup x⟩) hA (show some (V.bool (T.able k)) = _ by rw [ha])
  exact ⟨⟨st.heap, st.next, st.loc⟩, bO (f := .ret (.str "active")) (s' := ⟨st.heap, st.next, fun x => (g_told.params.zip [V.ref (L (.A k))]).lookup x⟩) ⟨rfl, by decide⟩ (sE (s_try rfl rfl (try_x (s_flies (s_retx (b_meth (by decide) rfl hs hA rfl (by decide) bE a))) (h := denHs pi01 (phi pi01 (n + 5)) { names := g_told.scope.names, cells := [], hd := false } _) (k := denSs pi01 (phi pi01 (n + 5)) (withHd { names := g_told.scope.names, cells := [], hd := false } true) [.Return (some (.Constant (.str "active") _ _)) _]) rfl (sE (s_ret b_str))))), H.grow (fun _ _ _ => rfl) (Nat.le_refl _) fun a h => .inl h, Fr.refl own st⟩
 ·rw [if_neg ha, if_neg ha]
  rw [Bool.not_eq_true] at ha
  obtain ⟨Q', st', w, O⟩ := sched_all (L := L) hT hh n k hk hn ha own ⟨st.heap, st.next, fun x => (g_told.params.zip [V.ref (L (.A k))]).lookup x⟩ T.dy Q h1 fun j hj _ => h2 j hj
  have hy : SY (T.wd (turn T n T.dy k).2) L (ext own st.next) ⟨st'.heap, st'.next, st.loc⟩ := ⟨Q', O.ss, fun j hj => by
   rcases Nat.lt_or_ge (rk j) (rk k) with q | q
   ·exact Syn.same (D := T.dy) (h2 j hj) (O.low j q) fun x hx => turn_frame hT n hk T.dy (by show rkO rk (T.par x) ≤ _; rw [(hT.kid j hj x hx).2.1]; exact q)
   ·exact O.syn j hj q⟩
  have hf : Fr own st ⟨st'.heap, st'.next, st.loc⟩ := ⟨O.fr.le, rfl, O.fr.heap⟩
  cases hx : (turn T n T.dy k).1 with
  | some x =>
   rw [hx] at w
   exact ⟨_, bO (f := .ret (.int x)) (s' := st') ⟨rfl, by decide⟩ (sE (s_try rfl rfl (try_ok (sE (s_ret (b_meth (by decide) rfl hs hA rfl (by decide) bE w)))))), hy, hf⟩
  | none =>
   rw [hx] at w
   exact ⟨_, bO (f := .ret (.str "none")) (s' := st') ⟨rfl, by decide⟩ (sE (s_try rfl rfl (try_x (s_flies (s_retx (b_meth (by decide) rfl hs hA rfl (by decide) bE w))) (h := denHs pi01 (phi pi01 (n + 5)) { names := g_told.scope.names, cells := [], hd := false } _) (k := denSs pi01 (phi pi01 (n + 5)) (withHd { names := g_told.scope.names, cells := [], hd := false } true) [.Return (some (.Constant (.str "none") _ _)) _]) rfl (sE (s_ret b_str))))), hy, hf⟩
theorem served_spec {m n : Nat} {T : Tab} {rk ht : Int → Nat} {B : Int → Nat} {DR : Nat} {own : Nat → Prop} {st : S} (hT : Tree T rk) (hh : ∀ k ∈ T.nums, ∀ c ∈ T.kids k, ht c < ht k) (few : ∀ k ∈ T.nums, (T.kids k).length ≤ 40) (H : RS T B DR own st.heap st.next) {k : Int} (hk : k ∈ T.nums) (hn : ht k < n) :
  ∃ h' n', bodyM pi01 (phi pi01 (m + n + 1)) false g_served [.ref DR, .int k] st = .ok (toldV T n k) ⟨h', n', st.loc⟩ ∧ RS (T.after n k) B DR (ext own st.next) h' n' ∧ RF st.next st.heap n' h' := by
 let l : Str → Option V := fun x => (g_served.params.zip [V.ref DR, V.int k]).lookup x
 have nr : ∀ {pp : Pos}, denE pi01 (phi pi01 (m + n + 1)) { names := g_served.scope.names, cells := [], hd := false } (.Name "rows" pp) ⟨st.heap, st.next, l⟩ = .ok (.ref DR) ⟨st.heap, st.next, l⟩ := bN (by decide) (nm (by decide)) rfl
 have nn : ∀ {pp : Pos}, denE pi01 (phi pi01 (m + n + 1)) { names := g_served.scope.names, cells := [], hd := false } (.Name "number" pp) ⟨st.heap, st.next, l⟩ = .ok (.int k) ⟨st.heap, st.next, l⟩ := bN (by decide) (nm (by decide)) rfl
 unfold toldV Tab.after
 by_cases ha : T.able k = true
 ·rw [if_pos ha, if_pos ha]
  exact ⟨st.heap, st.next, bO (f := .ret (.str "active")) (s' := ⟨st.heap, st.next, l⟩) ⟨rfl, by decide⟩ (sE (s_ifT (bS (H.fld hk (H.look hk nr nn rfl fun _ _ => rfl) (v := .bool true) fun _ => by show some (V.bool (T.able k)) = _; rw [ha]) rfl) (sE (s_ret b_str)))), H.grow (fun _ _ _ => rfl) rfl (Nat.le_refl _) fun a h => .inl h, .refl⟩
 ·rw [if_neg ha, if_neg ha]
  rw [Bool.not_eq_true] at ha
  obtain ⟨h', n', w, R, F⟩ := rturn_all (B := B) (DR := DR) hT hh few n k hk hn own ⟨st.heap, st.next, l⟩ T.dy H
  have t0 : denS pi01 (phi pi01 (m + n + 1)) { names := g_served.scope.names, cells := [], hd := false } (g_served.body.getD 0 (.Pass default)) ⟨st.heap, st.next, l⟩ = .ok .next ⟨st.heap, st.next, l⟩ := s_ifF (bS (H.fld hk (H.look hk nr nn rfl fun _ _ => rfl) (v := .bool false) fun _ => by show some (V.bool (T.able k)) = _; rw [ha]) rfl) sN
  have t1 : denS pi01 (phi pi01 (m + n + 1)) { names := g_served.scope.names, cells := [], hd := false } (g_served.body.getD 1 (.Pass default)) ⟨st.heap, st.next, l⟩ = .ok .next ⟨h', n', updL l "served" (optV (turn T n T.dy k).1)⟩ := sA rfl (bK (gO (nm (by decide))) rfl (by decide) (by decide) (bC nr (bC nn bE)) w) (aN (nm (by decide)))
  have nv : ∀ {v : V} {pp : Pos}, denE pi01 (phi pi01 (m + n + 1)) { names := g_served.scope.names, cells := [], hd := false } (.Name "served" pp) ⟨h', n', updL l "served" v⟩ = .ok v ⟨h', n', updL l "served" v⟩ := bN (by decide) (nm (by decide)) cS
  refine ⟨h', n', ?_, R, F⟩
  cases hx : (turn T n T.dy k).1 with
  | some x =>
   rw [hx] at t1
   exact bO (f := .ret (.int x)) (s' := ⟨h', n', updL l "served" (.int x)⟩) ⟨rfl, by decide⟩ (sC t0 (sC t1 (sE (s_ret (b_ifexpF (tC nv b_none b_cmpIs) nv)))))
  | none =>
   rw [hx] at t1
   exact bO (f := .ret (.str "none")) (s' := ⟨h', n', updL l "served" .none⟩) ⟨rfl, by decide⟩ (sC t0 (sC t1 (sE (s_ret (b_ifexpT (tC nv b_none b_cmpIs) b_str)))))
theorem ne_data {P : PI} {Φ : Phi} {hd : Bool} {a b : V} {d : PyData} {st : S} (hi : isInst st.heap a = false) (hv : isV .NotEq a b = none) (hp : intPair a b = none) (ha : pyOf depthLim st.heap a = some d) (hb : pyOf depthLim st.heap b = some d) (hs : SeqAt.shaped d = true) : compareV P Φ hd .NotEq a b st = .ok (.bool false) st := by
 have e : eqD st.heap a b = some true := by
  unfold eqD
  rw [ha, hb]
  dsimp only
  rw [hs]
  exact congrArg some (SeqAt.eqv_refl d (SeqAt.canLay_of_shaped hs))
 unfold compareV
 rw [hv]
 show cmpV P Φ hd .NotEq a b st = _
 unfold cmpV
 rw [hi, if_neg Bool.false_ne_true, hp]
 show okB ((eqD st.heap a b).map (!·)) st = _
 rw [e]
 rfl
theorem ne_str {P : PI} {Φ : Phi} {hd : Bool} {x : Str} {st : S} (hs : SeqAt.shaped (.str x) = true) : compareV P Φ hd .NotEq (.str x) (.str x) st = .ok (.bool false) st := ne_data rfl rfl rfl rfl rfl hs
theorem ne_same {P : PI} {Φ : Phi} {T : Tab} {n : Nat} {k : Int} {st : S} : compareV P Φ false .NotEq (toldV T n k) (toldV T n k) st = .ok (.bool false) st := by
 unfold toldV
 by_cases ha : T.able k = true
 ·rw [if_pos ha]; exact ne_str (by decide +kernel)
 ·rw [if_neg ha]
  cases (turn T n T.dy k).1 with
  | some x => exact b_cmpNe.trans (by rw [beq_self_eq_true]; rfl)
  | none => exact ne_str (by decide +kernel)
theorem refused_ok {n a : Nat} {st : S} {fs : List (Str × V)} {w : Int} (ha : st.heap a = some (.inst fs)) (hl : fs.length < 100) (hw : 1 ≤ w ∧ w ≤ 256) : bodyM pi01 (phi pi01 (n + 1)) false g_refused [.ref a, .int w] st = .ok (.bool false) { st with heap := upd st.heap a (.inst (putR "_weight" (.int w) fs)) } := by
 refine bO (f := .ret (.bool false)) (s' := ⟨upd st.heap a (.inst (putR "_weight" (.int w) fs)), st.next, fun x => (g_refused.params.zip [V.ref a, V.int w]).lookup x⟩) ⟨rfl, by decide⟩ ?_
 exact sC (s_try rfl rfl (try_ok (sC (sA rfl (bN (by decide) (nm (by decide)) rfl) (a_attrW (bN (by decide) (nm (by decide)) rfl) ha (callSet ((setW_run (n := n) (st := ⟨st.heap, st.next, fun x => (g_refused.params.zip [V.ref a, V.int w]).lookup x⟩) ha hl).1 hw)))) sN))) (sE (s_ret b_bool))
theorem refused_no {n a : Nat} {st : S} {fs : List (Str × V)} {v : V} (ha : st.heap a = some (.inst fs)) (h : ∀ l, bodyM pi01 (phi pi01 n) false m_setW [.ref a, v] ⟨st.heap, st.next, l⟩ = .exc .weight ⟨st.heap, st.next, l⟩) : bodyM pi01 (phi pi01 (n + 1)) false g_refused [.ref a, v] st = .ok (.bool true) st := by
 refine bO (f := .ret (.bool true)) (s' := ⟨st.heap, st.next, fun x => (g_refused.params.zip [V.ref a, v]).lookup x⟩) ⟨rfl, by decide⟩ ?_
 exact sE (s_try rfl rfl (try_x (s_flies (s_assignx rfl (bN (by decide) (nm (by decide)) rfl) (a_attrWx (bN (by decide) (nm (by decide)) rfl) ha (callSet (h _))))) (h := denHs pi01 (phi pi01 (n + 1)) { names := g_refused.scope.names, cells := [], hd := false } _) (k := denSs pi01 (phi pi01 (n + 1)) (withHd { names := g_refused.scope.names, cells := [], hd := false } true) [.Return (some (.Constant (.bool true) _ _)) _]) rfl (sE (s_ret b_bool))))
section
noncomputable def insd (T : Tab) : Nat → Int → List Int
 | 0, _ => []
 | n + 1, k => k :: (T.kids k).flatMap (insd T n)
section
variable {T : Tab} {rk ht : Int → Nat}
theorem insd_rk (hT : Tree T rk) : ∀ {n : Nat} {k x : Int}, k ∈ T.nums → x ∈ insd T n k → rk k ≤ rk x ∧ x ∈ T.nums
 | 0, _, _, _, h => zL h
 | n + 1, k, x, hk, h => by
  rcases List.mem_cons.mp h with rfl | h
  ·exact ⟨Nat.le_refl _, hk⟩
  ·obtain ⟨c, hc, hx⟩ := List.mem_flatMap.mp h
   have kc := hT.kid k hk c hc
   have := insd_rk hT kc.1 hx
   exact ⟨Nat.le_trans (Nat.le_of_lt kc.2.2) this.1, this.2⟩
theorem insd_par (hT : Tree T rk) : ∀ {n : Nat} {k x : Int}, k ∈ T.nums → x ∈ insd T n k → x = k ∨ ∃ p ∈ insd T n k, T.par x = some p ∧ rk p < rk x
 | 0, _, _, _, h => zL h
 | n + 1, k, x, hk, h => by
  rcases List.mem_cons.mp h with rfl | h
  ·exact .inl rfl
  ·obtain ⟨c, hc, hx⟩ := List.mem_flatMap.mp h
   have kc := hT.kid k hk c hc
   rcases insd_par hT kc.1 hx with rfl | ⟨p, hp, e, q⟩
   ·exact .inr ⟨k, .head _, kc.2.1, kc.2.2⟩
   ·exact .inr ⟨p, .tail _ (List.mem_flatMap.mpr ⟨c, hc, hp⟩), e, q⟩
theorem insd_kid (hh : ∀ k ∈ T.nums, ∀ c ∈ T.kids k, ht c < ht k) (hT : Tree T rk) : ∀ {n : Nat} {k p c : Int}, k ∈ T.nums → ht k < n → p ∈ insd T n k → c ∈ T.kids p → c ∈ insd T n k
 | 0, _, _, _, _, h, _, _ => absurd h (Nat.not_lt_zero _)
 | n + 1, k, p, c, hk, hn, h, hc => by
  refine .tail _ (List.mem_flatMap.mpr ?_)
  rcases List.mem_cons.mp h with rfl | h
  ·have h1 := hh p hk c hc
   cases n with
   | zero => exact absurd hn (by lia)
   | succ n => exact ⟨c, hc, .head _⟩
  ·obtain ⟨o, ho, hx⟩ := List.mem_flatMap.mp h
   exact ⟨o, ho, insd_kid hh hT (hT.kid k hk o ho).1 (ltl (hh k hk o ho) (Nat.le_of_lt_succ hn)) hx hc⟩
theorem insd_one (hT : Tree T rk) {k c c' : Int} (hk : k ∈ T.nums) (hc : c ∈ T.kids k) (hc' : c' ∈ T.kids k) {n : Nat} : ∀ (m : Nat) {x : Int}, rk x < m → x ∈ insd T n c → x ∈ insd T n c' → c = c'
 | 0, _, h, _, _ => absurd h (Nat.not_lt_zero _)
 | m + 1, x, hm, h, h' => by
  have kc := hT.kid k hk c hc
  have kc' := hT.kid k hk c' hc'
  rcases insd_par hT kc.1 h with rfl | ⟨p, hp, e, q⟩
  ·rcases insd_par hT kc'.1 h' with e' | ⟨p', hp', e', _⟩
   ·exact e'
   ·rw [kc.2.1] at e'
    obtain rfl := sj e'
    exact absurd (insd_rk hT kc'.1 hp').1 (Nat.not_le.mpr kc'.2.2)
  ·rcases insd_par hT kc'.1 h' with rfl | ⟨p', hp', e', _⟩
   ·rw [kc'.2.1] at e
    obtain rfl := sj e
    exact absurd (insd_rk hT kc.1 hp).1 (Nat.not_le.mpr kc.2.2)
   ·rw [e] at e'
    obtain rfl := sj e'
    exact insd_one hT hk hc hc' m (ltl q (Nat.le_of_lt_succ hm)) hp hp'
theorem insd_nodup (hT : Tree T rk) : ∀ {n : Nat} {k : Int}, k ∈ T.nums → (insd T n k).Nodup
 | 0, _, _ => .nil
 | n + 1, k, hk => by
  refine List.nodup_cons.mpr ⟨fun h => ?_, ?_⟩
  ·obtain ⟨c, hc, hx⟩ := List.mem_flatMap.mp h
   have kc := hT.kid k hk c hc
   exact absurd (insd_rk hT kc.1 hx).1 (Nat.not_le.mpr kc.2.2)
  ·refine List.pairwise_flatMap.mpr ⟨fun c hc => insd_nodup hT (hT.kid k hk c hc).1, (hT.nd k hk).imp_of_mem fun {a b} ha hb hab x hx y hy e => hab ?_⟩
   subst e
   exact insd_one hT hk ha hb (rk x + 1) (Nat.lt_succ_self _) hx hy
theorem insd_len (hT : Tree T rk) {n : Nat} {k : Int} (hk : k ∈ T.nums) : (insd T n k).length ≤ T.nums.length := (insd_nodup hT hk).length_le_of_subset fun x hx => (insd_rk hT hk hx).2
end
structure Ag (n0 : Nat) (h0 : Hp) (n : Nat) (h : Hp) : Prop where
 le : n0 ≤ n
 eq : ∀ b, b < n0 → h b = h0 b
theorem Ag.trans {n0 n1 n2 : Nat} {h0 h1 h2 : Hp} (a : Ag n0 h0 n1 h1) (b : Ag n1 h1 n2 h2) : Ag n0 h0 n2 h2 := ⟨Nat.le_trans a.le b.le, fun x hx => (b.eq x (ltl hx a.le)).trans (a.eq x hx)⟩
theorem Ag.refl {n0 : Nat} {h0 : Hp} : Ag n0 h0 n0 h0 := ⟨Nat.le_refl _, fun _ _ => rfl⟩
theorem Ag.new {n0 : Nat} {h0 : Hp} {o : AObj} : Ag n0 h0 (n0 + 1) (upd h0 n0 o) := ⟨Nat.le_succ _, fun _ hb => uO (Nat.ne_of_lt hb)⟩
theorem RS.ag {T : Tab} {B : Int → Nat} {DR : Nat} {own : Nat → Prop} {h h' : Hp} {n n' : Nat} (H : RS T B DR own h n) (a : Ag n h n' h') : RS T B DR own h' n' := H.grow (fun x hx _ => a.eq x hx) (a.eq _ H.lt) a.le fun _ q => q
theorem SY.ag {T : Tab} {L : Rl → Nat} {own : Nat → Prop} {h h' : Hp} {n n' : Nat} {l l' : Str → Option V} (H : SY T L own ⟨h, n, l⟩) (a : Ag n h n' h') : SY T L own ⟨h', n', l'⟩ := H.grow (fun x hx _ => a.eq x hx) a.le fun _ q => q
structure IL (T : Tab) (n : Nat) (k : Int) (l : Str → Option V) (h0 : Hp) (n0 : Nat) (rest : List V) (done rs : List Int) (a : Nat) (s : S) : Prop where
 e : rest = rs.map .int
 d : done ++ rs = T.kids k
 g : Ag n0 h0 s.next s.heap
 f : s.heap a = some (.list ((k :: done.flatMap (insd T n)).map .int))
 lt : a < s.next
 lf : s.loc "found" = some (.ref a)
 lo : ∀ z : Str, z ≠ "found" → z ≠ "other" → s.loc z = l z
theorem inside_run {T : Tab} {rk ht : Int → Nat} {B : Int → Nat} {DR : Nat} (hT : Tree T rk) (hh : ∀ k ∈ T.nums, ∀ c ∈ T.kids k, ht c < ht k) (few : T.nums.length ≤ 40) : ∀ (n : Nat) {k : Int}, k ∈ T.nums → ht k < n → ∀ {own : Nat → Prop} {st : S}, RS T B DR own st.heap st.next →
  ∃ a h' n', bodyM pi01 (phi pi01 n) false g_inside [.ref DR, .int k] st = .ok (.ref a) ⟨h', n', st.loc⟩ ∧ h' a = some (.list ((insd T n k).map .int)) ∧ a < n' ∧ st.next ≤ a ∧ Ag st.next st.heap n' h'
 | 0, _, _, h, _, _, _ => absurd h (Nat.not_lt_zero _)
 | n + 1, k, hk, hn, own, st, H => by
  let l : Str → Option V := fun x => (g_inside.params.zip [V.ref DR, V.int k]).lookup x
  have H1 := H.al (o := .list [.int k])
  obtain ⟨b, e1, e2, e3, e4⟩ := RS.ben (P := pi01) (Φ := phi pi01 (n + 1)) (ev := { names := g_inside.scope.names, cells := [], hd := false }) (l := updL l "found" (.ref st.next)) H1 hk
  have len := insd_len hT (n := n + 1) hk
  rw [show insd T (n + 1) k = k :: (T.kids k).flatMap (insd T n) from rfl, List.length_cons] at len
  have kl : (T.kids k).length ≤ T.nums.length := (hT.nd k hk).length_le_of_subset fun c hc => (hT.kid k hk c hc).1
  have W : Wp (denS pi01 (phi pi01 (n + 1)) { names := g_inside.scope.names, cells := [], hd := false } (g_inside.body.getD 1 (.Pass default))) ⟨upd st.heap st.next (.list [.int k]), st.next + 1, updL l "found" (.ref st.next)⟩ fun f s => f = .next ∧ ∃ a, st.next ≤ a ∧ IL T n k l (upd st.heap st.next (.list [.int k])) (st.next + 1) [] (T.kids k) [] a s := by
   refine Wp_for (I := fun rest s => ∃ done rs a, st.next ≤ a ∧ IL T n k l (upd st.heap st.next (.list [.int k])) (st.next + 1) rest done rs a s) rfl (e4 (H1.look hk (bN (by decide) (nm (by decide)) ((cO (by decide)).trans rfl)) (bN (by decide) (nm (by decide)) ((cO (by decide)).trans rfl)) rfl fun _ _ => rfl)) e1 (by rw [List.length_map]; lia) (fun rest s h => ?_) (fun v rest s h => ?_) (fun s h => ?_) ⟨[], T.kids k, st.next, Nat.le_refl _, rfl, rfl, .refl, uS _ _ _, Nat.lt_succ_self _, cS, fun z z1 _ => cO z1⟩
   ·obtain ⟨done, rs, a, ha, I⟩ := h
    exact (I.g.eq b e2).trans e1
   ·obtain ⟨done, rs, a, ha, I⟩ := h
    have e := I.e
    cases rs with
    | nil => nomatch e
    | cons o rs =>
     have ho : o ∈ T.kids k := by rw [← I.d]; exact List.mem_append_right _ (.head _)
     obtain ⟨a', h', n', r1, r2, r3, r4, r5⟩ := inside_run hT hh few n (hT.kid k hk o ho).1 (ltl (hh k hk o ho) (Nat.le_of_lt_succ hn)) (st := ⟨s.heap, s.next, updL s.loc "other" (.int o)⟩) (H1.ag I.g)
     have ll : (done.flatMap (insd T n)).length + (insd T n o).length < 99999 := by
      have := congrArg (fun l => (l.flatMap (insd T n)).length) I.d
      rw [List.flatMap_append, List.flatMap_cons, List.length_append, List.length_append] at this
      lia
     rw [(List.cons.inj e).1]
     refine ⟨_, bT (nm (by decide)), Wp_of (a := Mine.Flow.next) (sC (sA rfl (bB (bN (by decide) (nm (by decide)) ((cO (by decide)).trans I.lf)) (bK (gO (nm (by decide))) rfl (by decide) (by decide) (bC (bN (by decide) (nm (by decide)) ((cO (by decide)).trans ((I.lo _ (by decide) (by decide)).trans rfl))) (bC (bN (by decide) (nm (by decide)) cS) bE)) r1) (b_cat ((r5.eq a I.lt).trans I.f) r2 (by rw [List.length_map, List.length_map, List.length_cons]; lia))) (aN (nm (by decide)))) sN) ⟨done ++ [o], rs, n', Nat.le_trans (Nat.le_trans (Nat.le_succ _) I.g.le) r5.le, (List.cons.inj e).2, by rw [← I.d, List.append_assoc]; rfl, (I.g.trans r5).trans .new, ?_, Nat.lt_succ_self _, cS, fun z z1 z2 => (cO z1).trans ((Lo z2).trans (I.lo z z1 z2))⟩⟩
     rw [List.flatMap_append, List.flatMap_singleton, ← List.cons_append, List.map_append]
     exact uS _ _ _
   ·obtain ⟨done, rs, a, ha, I⟩ := h
    have e := I.e
    cases rs with
    | cons _ _ => nomatch e
    | nil =>
     have d := I.d
     rw [List.append_nil] at d
     subst d
     exact ⟨rfl, a, ha, I⟩
  obtain ⟨f, s, e, rfl, a, ha, I⟩ := W
  refine ⟨a, s.heap, s.next, bO (f := .ret (.ref a)) (s' := s) ⟨rfl, by decide⟩ (sC (sA rfl (b_list rfl (bC (bN (by decide) (nm (by decide)) rfl) bE)) (aN (nm (by decide)))) (sC e (sE (s_ret (bN (by decide) (nm (by decide)) I.lf))))), I.f, I.lt, ha, Ag.new.trans I.g⟩
end
noncomputable def strT : Tab := ⟨[99, 98], fun _ => 16, fun _ => true, fun _ => none, fun _ => [], fun _ => 0, fun _ => 0, fun _ => 0⟩
noncomputable def strA (a : Nat) (k : Int) : Nat := if k = 99 then a else a + 3
noncomputable def strL (a : Nat) : Rl → Nat
 | .A k => strA a k
 | .ch k => strA a k + 1
 | .cq k => strA a k + 2
theorem str99 {a : Nat} : strL a (.A 99) = a := by
 show strA a 99 = a
 exact if_pos rfl
theorem str98 {a : Nat} : strL a (.A 98) = a + 3 := by
 show strA a 98 = a + 3
 exact if_neg (by decide)
theorem str_ss {a : Nat} {h : Hp} (hA : ∀ k : Int, k ∈ strT.nums → h (strA a k) = some (.inst (sf k 16 (strA a k + 1) .none (strA a k + 2) true 0 0)) ∧ h (strA a k + 1) = some (.list []) ∧ h (strA a k + 2) = some (.list [])) : SS strT (strL a) (fun _ => []) (fun x => a ≤ x) h (a + 6) where
 cc := fun r hr => by
  cases r with
  | A k => exact (hA k hr).1
  | ch k => exact (hA k hr).2.1
  | cq k => exact ⟨[], (hA k hr).2.2, trivial, fun _ h => zL h⟩
 at_ := fun r hr => by
  have : ∀ k : Int, strA a k = a ∨ strA a k = a + 3 := fun k => by unfold strA; by_cases e : k = 99 <;> simp [e]
  cases r with
  | A k => rcases this k with e | e <;> (show strA a k < a + 6 ∧ a ≤ strA a k; lia)
  | ch k => rcases this k with e | e <;> (show strA a k + 1 < a + 6 ∧ a ≤ strA a k + 1; lia)
  | cq k => rcases this k with e | e <;> (show strA a k + 2 < a + 6 ∧ a ≤ strA a k + 2; lia)
 inj := fun r r' hr hr' e => by
  have key : ∀ k : Int, k ∈ strT.nums → (k = 99 ∧ strA a k = a) ∨ (k = 98 ∧ strA a k = a + 3) := fun k hk => by
   rcases List.mem_cons.mp hk with rfl | hk
   ·exact .inl ⟨rfl, if_pos rfl⟩
   ·cases smp hk; exact .inr ⟨rfl, if_neg (by decide)⟩
  have h1 := key _ hr
  have h2 := key _ hr'
  cases r <;> cases r' <;> (rename_i k k'; dsimp only [Rl.key] at h1 h2; dsimp only [strL] at e) <;> first | exact absurd e (by lia) | (have : k = k' := by lia); rw [this]
 srt := fun k _ => ⟨.nil, (fun _ h => zL h), Nat.zero_le _⟩
 few := fun k _ => Nat.zero_le _
theorem stranger_spec {n : Nat} {T : Tab} {L : Rl → Nat} {own : Nat → Prop} {st : S} (H : SY T L own st) {k : Int} {b : Bool} (hk : k ∈ T.nums) (hck : (99 : Int) ∉ T.kids k) (hkk : ∀ o ∈ T.kids k, o ∈ T.nums) (hnd : (T.kids k).Nodup) :
  ∃ h' n', bodyM pi01 (phi pi01 (n + 5)) false g_stranger [.ref (L (.A k)), .bool b] st = .ok (.bool true) ⟨h', n', st.loc⟩ ∧ Ag st.next st.heap n' h' := by
 let l : Str → Option V := fun x => (g_stranger.params.zip [V.ref (L (.A k)), V.bool b]).lookup x
 obtain ⟨s1, a1, a2, a3, a4, a5, a6, a7⟩ := new_run (n + 3) ⟨st.heap, st.next, l⟩ 99 16 [.int 99] (.inr ⟨rfl, rfl⟩) ⟨by decide, by decide⟩
 obtain ⟨s2, b1, b2, b3, b4, b5, b6, b7⟩ := new_run (n + 3) ⟨s1.heap, s1.next, updL s1.loc "stranger" (.ref st.next)⟩ 98 16 [.int 98] (.inr ⟨rfl, rfl⟩) ⟨by decide, by decide⟩
 have a2 : s1.next = st.next + 3 := a2
 have a3 : s1.loc = l := a3
 have b2 : s2.next = s1.next + 3 := b2
 have b3 : s2.loc = updL s1.loc "stranger" (.ref st.next) := b3
 have old : ∀ j, j < s1.next → s2.heap j = s1.heap j := b7
 have S2 : SS strT (strL st.next) (fun _ => []) (fun x => st.next ≤ x) s2.heap s2.next := by
  rw [b2, a2]
  refine str_ss fun j hj => ?_
  rcases List.mem_cons.mp hj with rfl | hj
  ·rw [show strA st.next 99 = st.next from if_pos rfl]
   exact ⟨(old _ (by lia)).trans a4, (old _ (by lia)).trans a5, (old _ (by lia)).trans a6⟩
  ·cases smp hj
   rw [show strA st.next 98 = s1.next by rw [a2]; exact if_neg (by decide)]
   exact ⟨b4, b5, b6⟩
 obtain ⟨s3, c1, c2, c3⟩ := add_spec (n := n + 1) (hd := false) (T := strT) (L := strL st.next) (p := 99) (c := 98) (own := fun x => st.next ≤ x) ⟨_, S2, fun _ _ => .refl _⟩ (.head _) (.tail _ (.head _)) (by decide) (fun _ _ h => zL h) (by decide)
 rw [str99, str98, ← a2] at c1
 have le := c3.le
 have ag : Ag st.next st.heap s3.next s3.heap := ⟨by lia, fun x hx => (c3.heap x (by lia) (Nat.not_le.mpr hx)).trans ((old x (by lia)).trans (a7 x hx))⟩
 obtain ⟨Q, d1, d2⟩ := c2.ss
 have hx : s3.heap (strL st.next (.A 99)) = some (.inst (sfs (strT.lay 99 98) (strL st.next) 99)) := d1.cc (.A 99) (.head _)
 rw [str99] at hx
 have loc3 : s3.loc = updL l "stranger" (.ref st.next) := by rw [c3.loc, b3, a3]
 have no := rem_no (n := n + 3) (b := b) (H.ag (l := st.loc) (l' := s3.loc) ag) hk hx rfl hck hkk hnd
 have hA : s3.heap (L (.A k)) = some (.inst (sfs T L k)) := by
  obtain ⟨Q', h1, h2⟩ := (H.ag (l := st.loc) (l' := s3.loc) ag).ss
  exact h1.cc (.A k) hk
 refine ⟨s3.heap, s3.next, bO (f := .ret (.bool true)) (s' := s3) ⟨rfl, by decide⟩ ?_, ag⟩
 refine sC (sA rfl (bK (gO (nm (by decide))) rfl (by decide) (by decide) (bC bI bE) a1) (aN (nm (by decide)))) ?_
 refine sC (s_expr rfl (b_meth (by decide) rfl (bN (by decide) (nm (by decide)) cS) a4 rfl (by decide) (bC (bK (gO (nm (by decide))) rfl (by decide) (by decide) (bC bI bE) b1) bE) c1)) ?_
 refine sE (s_try rfl rfl (try_x (s_flies (s_exprx rfl (b_meth (by decide) rfl (bN (by decide) (nm (by decide)) (by rw [loc3]; exact (Lo (by decide)).trans rfl)) hA rfl (by decide) (bC (bN (by decide) (nm (by decide)) (by rw [loc3]; exact lS)) (bC (bN (by decide) (nm (by decide)) (by rw [loc3]; exact (Lo (by decide)).trans rfl)) bE)) no))) (h := denHs pi01 (phi pi01 (n + 5)) { names := g_stranger.scope.names, cells := [], hd := false } _) (k := denSs pi01 (phi pi01 (n + 5)) (withHd { names := g_stranger.scope.names, cells := [], hd := false } true) [.Return (some (.Constant (.bool true) _ _)) _]) rfl (sE (s_ret b_bool))))
theorem py_ints {h : Hp} {n a : Nat} {l : List Int} (ha : h a = some (.list (l.map .int))) : pyOf (n + 2) h (.ref a) = some (.list (l.map .int)) := by
 show pyObj (pyOf (n + 1) h) (h a) = _
 rw [ha]
 show (optAll ((l.map V.int).map (pyOf (n + 1) h))).map PyData.list = _
 have e : ∀ l : List Int, optAll ((l.map V.int).map (pyOf (n + 1) h)) = some (l.map PyData.int) := by
  intro l
  induction l with
  | nil => rfl
  | cons x l ih =>
   rw [List.map_cons, List.map_cons]
   unfold optAll
   rw [ih]
   rfl
 rw [e]
 rfl
theorem py_pairs {h : Hp} {n a : Nat} {zs : List Nat} {ks : List (Int × Int)} (ha : h a = some (.list (zs.map .ref))) (hp : Prs h zs ks) : pyOf (n + 3) h (.ref a) = some (.list (ks.map fun k => .tuple [.int k.1, .int k.2])) := by
 show pyObj (pyOf (n + 2) h) (h a) = _
 rw [ha]
 show (optAll ((zs.map V.ref).map (pyOf (n + 2) h))).map PyData.list = _
 have e : ∀ (zs : List Nat) (ks : List (Int × Int)), Prs h zs ks → optAll ((zs.map V.ref).map (pyOf (n + 2) h)) = some (ks.map fun k => .tuple [.int k.1, .int k.2]) := by
  intro zs
  induction zs with
  | nil => intro ks hp; cases ks with | nil => rfl | cons _ _ => exact hp.elim
  | cons z zs ih =>
   intro ks hp
   cases ks with
   | nil => exact hp.elim
   | cons k ks =>
    rw [List.map_cons, List.map_cons]
    unfold optAll
    rw [ih ks hp.2, show pyOf (n + 2) h (.ref z) = some (.tuple [.int k.1, .int k.2]) from (congrArg (pyObj (pyOf (n + 1) h)) hp.1)]
    rfl
 rw [e zs ks hp]
 rfl
theorem lay_all {α : Type} {f : α → PyData} (h1 : ∀ a, (f a).canLay0 = true) (h2 : ∀ a, (f a).depth ≤ 1) (l : List α) : SeqAt.shaped (.list (l.map f)) = true := by
 have e : PyData.canLayAll0 (l.map f) = true ∧ PyData.depthAll (l.map f) ≤ 1 := by
  induction l with
  | nil => exact ⟨rfl, Nat.zero_le _⟩
  | cons x l ih =>
   refine ⟨?_, ?_⟩
   ·show ((f x).canLay0 && PyData.canLayAll0 (l.map f)) = true
    rw [h1, ih.1]; rfl
   ·exact Nat.max_le.mpr ⟨h2 x, ih.2⟩
 have e3 : PyData.depth (.list (l.map f)) ≤ 64 := Nat.le_trans (Nat.succ_le_succ e.2) (by decide)
 show (PyData.canLayAll0 (l.map f) && decide (PyData.depth (.list (l.map f)) ≤ 64)) = true
 rw [e.1, decide_eq_true e3]
 rfl
theorem Wp_dict {I : List Int → S → Prop} {i ver : Nat} {es : List (Int × V)} {tv : V → M Unit} {body : M Flow} {Q : Flow → S → Prop} (hl : ∀ rest s, I rest s → s.heap i = some (.dictI es ver))
  (step : ∀ k rest s, I (k :: rest) s → ∃ s', tv (.int k) s = .ok () s' ∧ Wp body s' (Turn Q (I rest))) (hQ : ∀ s, I [] s → Q .next s) :
  ∀ (fuel j : Nat) (rest : List Int) (s : S), (es.map (·.1)).drop j = rest → rest.length < fuel → I rest s → Wp (loopD fuel (nextD i ver es.length tv) body j) s Q
 | 0, _, _, _, _, hf, _ => absurd hf (Nat.not_lt_zero _)
 | fuel + 1, j, rest, s, e, hf, hI => by
  have rd : rdDI i s = .ok (es, ver) s := bG (by unfold dctI; rw [hl _ s hI])
  cases rest with
  | nil =>
   have hj : es[j]? = none := List.getElem?_eq_none (by have := List.drop_eq_nil_iff.mp e; rw [List.length_map] at this; exact this)
   exact ⟨.next, s, bS (bS rd (b_if ⟨rfl, rfl⟩ (by rw [hj]; rfl))) (b_ifn Bool.false_ne_true rfl), hQ s hI⟩
  | cons k rest =>
   have hk : j < es.length := by
    rcases Nat.lt_or_ge j es.length with h | h
    ·exact h
    ·rw [List.drop_of_length_le (by rw [List.length_map]; exact h)] at e; contradiction
   rw [List.drop_eq_getElem_cons (by rw [List.length_map]; exact hk)] at e
   have e0 := (List.cons.inj e).1
   rw [List.getElem_map] at e0
   obtain ⟨s', e1, f, s'', e2, q⟩ := step k rest s hI
   have nx : nextD i ver es.length tv j s = .ok true s' := bS rd (b_if ⟨rfl, rfl⟩ (by rw [List.getElem?_eq_getElem hk]; dsimp only; rw [e0]; exact bS e1 rfl))
   have go : I rest s'' → Wp (loopD fuel (nextD i ver es.length tv) body (j + 1)) s'' Q := Wp_dict hl step hQ fuel (j + 1) rest s'' (List.cons.inj e).2 (Nat.lt_of_succ_lt_succ hf)
   cases f with
   | next => obtain ⟨a, t, e3, q'⟩ := go q; exact ⟨a, t, bS nx (b_if rfl (bS e2 e3)), q'⟩
   | cont => obtain ⟨a, t, e3, q'⟩ := go q; exact ⟨a, t, bS nx (b_if rfl (bS e2 e3)), q'⟩
   | brk => exact ⟨_, s'', bS nx (b_if rfl (bS e2 rfl)), q⟩
   | ret v => exact ⟨_, s'', bS nx (b_if rfl (bS e2 rfl)), q⟩
theorem itOf_dict {i ver : Nat} {es : List (Int × V)} {s : S} (h : s.heap i = some (.dictI es ver)) : itOf false (.ref i) s = .ok (.dict i ver es.length) s := b_ref (bS (bG h) rfl)
theorem Wp_forD {P : PI} {Φ : Phi} {ev : AEnv} {t it : Expr} {b : List Stmt} {p : Pos} {I : List Int → S → Prop} {i ver : Nat} {es : List (Int × V)} {s s1 : S} {Q : Flow → S → Prop} (hd : ev.hd = false) (hc : noRange it = true) (hit : denE P Φ ev it s = .ok (.ref i) s1) (hh : s1.heap i = some (.dictI es ver)) (hlen : es.length < 100)
  (hl : ∀ rest s, I rest s → s.heap i = some (.dictI es ver)) (step : ∀ k rest s, I (k :: rest) s → ∃ s', targetV ev t (.int k) s = .ok () s' ∧ Wp (denSs P Φ ev b) s' (Turn Q (I rest))) (hQ : ∀ s, I [] s → Q .next s) (h0 : I (es.map (·.1)) s1) : Wp (denS P Φ ev (.For t it b [] p)) s Q := by
 obtain ⟨f, s', e, q⟩ := Wp_dict hl step hQ wlim 0 (es.map (·.1)) s1 rfl (by rw [List.length_map]; exact hlen) h0
 refine ⟨f, s', b_if (c := ([] : List Stmt).isEmpty = true) (m' := failM) rfl ?_, q⟩
 rw [den_for hc]
 have ei : itOf ev.hd (.ref i) s1 = .ok (.dict i ver es.length) s1 := by rw [hd]; exact itOf_dict hh
 exact bS hit (bS ei e)
theorem s_swap {P : PI} {Φ : Phi} {ev : AEnv} {t v : Expr} {p : Pos} {x y : Str} {a b : V} {i : Nat} {st s1 : S} (ht : (isTup v && isTup t) = true) (h2 : tup2 t = some (x, y)) (hs : swapOk ev x y t v = true) (hv : denE P Φ ev v st = .ok (.ref i) s1) (hi : s1.heap i = some (.tup [a, b])) (hx : ev.names.lookup x = some .local) (hy : ev.names.lookup y = some .local) :
  denS P Φ ev (.Assign [t] v p) st = .ok .next { s1 with loc := updL (updL s1.loc y b) x a } := by
 refine b_if ht ?_
 show (match tup2 t with | some xy => if swapOk ev xy.1 xy.2 t v then denE P Φ ev v >>= fun w => swapV ev xy.1 xy.2 w >>= fun _ => pure Mine.Flow.next else failM | none => failM) st = _
 rw [h2]
 refine b_if hs (bS hv (bS (b_ref (bS (bG (by unfold tupAt; rw [hi])) (bS (bG rfl) (bS (bT hy) (bT hx))))) rfl))
theorem Wp_if {P : PI} {Φ : Phi} {ev : AEnv} {l r : Expr} {op : CmpOp} {b rest : List Stmt} {p q : Pos} {st : S} {Q : Flow → S → Prop} (h : Wp (denE P Φ ev l) st fun a s1 => Wp (denE P Φ ev r) s1 fun b' s2 => compareV P Φ ev.hd op a b' s2 = .ok (.bool false) s2 ∧ Wp (denSs P Φ ev rest) s2 Q) : Wp (denSs P Φ ev (.If (.Compare l [op] [r] q) b [] p :: rest)) st Q := by
 obtain ⟨a, s1, e1, b', s2, e2, e3, f, s3, e4, q⟩ := h
 exact ⟨f, s3, sC (s_ifF (tC e1 e2 e3) sN) e4, q⟩
theorem zip_ref : ∀ {xs : List Nat} {ks : List (Int × Int)}, xs.length = ks.length → (xs.zip ks).map (fun a => V.ref a.1) = xs.map .ref ∧ (xs.zip ks).map (fun a => (a.2.1, a.2.2)) = ks
 | [], [], _ => ⟨rfl, rfl⟩
 | x :: xs, k :: ks, h => ⟨congrArg (V.ref x :: ·) (zip_ref (Nat.succ.inj h)).1, congrArg (k :: ·) (zip_ref (Nat.succ.inj h)).2⟩
theorem Itms.zip {h : Hp} {ad : Int → Nat} : ∀ {xs : List Nat} {ks : List (Int × Int)}, Itms h ad xs ks → ∀ a ∈ xs.zip ks, h a.1 = some (.tup [.int a.2.1, .ref (ad a.2.2)]) ∧ a.1 ∈ xs ∧ a.2 ∈ ks
 | x :: xs, k :: ks, i, a, ha => by
  rcases List.mem_cons.mp ha with rfl | ha
  ·exact ⟨i.1, .head _, .head _⟩
  ·have := Itms.zip i.2 a ha
   exact ⟨this.1, .tail _ this.2.1, .tail _ this.2.2⟩
 | [], [], _, _, ha => zL ha
 | [], _ :: _, i, _, _ => i.elim
 | _ :: _, [], i, _, _ => i.elim
section
structure SB (T : Tab) (L : Rl → Nat) (B : Int → Nat) (DS DR : Nat) (oS oR : Nat → Prop) (h : Hp) (n : Nat) : Prop where
 sy : SY T L oS ⟨h, n, fun _ => none⟩
 rs : RS T B DR oR h n
 ds : ∃ ver, h DS = some (.dictI (T.nums.map fun k => (k, .ref (L (.A k)))) ver)
 lt : DS < n
theorem SB.ag {T : Tab} {L : Rl → Nat} {B : Int → Nat} {DS DR : Nat} {oS oR : Nat → Prop} {h h' : Hp} {n n' : Nat} (H : SB T L B DS DR oS oR h n) (a : Ag n h n' h') : SB T L B DS DR oS oR h' n' :=
 ⟨H.sy.ag a, H.rs.ag a, by rw [a.eq _ H.lt]; exact H.ds, ltl H.lt a.le⟩
noncomputable abbrev evM (cl : Nat) : AEnv := { names := g_same.scope.names, cells := [("rows", cl)], hd := false }
noncomputable def sameF : Stmt := g_same.body.getD 0 (.Pass default)
section
variable {T : Tab} {rk : Int → Nat} {L : Rl → Nat} {B : Int → Nat} {DS DR cl : Nat} {oS oR : Nat → Prop} {h : Hp} {n m : Nat} {l : Str → Option V} {k : Int} {Q : Mine.Flow → S → Prop}
structure SK (T : Tab) (L : Rl → Nat) (B : Int → Nat) (DS DR cl : Nat) (oS oR : Nat → Prop) (k : Int) (l : Str → Option V) (h : Hp) (n : Nat) : Prop where
 sb : SB T L B DS DR oS oR h n
 ce : h cl = some (.cell (some (.ref DR)))
 cn : cl < n
 ls : l "stream" = some (.ref (L (.A k)))
 lr : l "row" = some (.ref (B k))
 ln : l "number" = some (.int k)
theorem SK.ag {h' : Hp} {n' : Nat} (K : SK T L B DS DR cl oS oR k l h n) (a : Ag n h n' h') : SK T L B DS DR cl oS oR k l h' n' := ⟨K.sb.ag a, (a.eq _ K.cn).trans K.ce, ltl K.cn a.le, K.ls, K.lr, K.ln⟩
theorem SK.str (K : SK T L B DS DR cl oS oR k l h n) {pp : Pos} : denE pi01 (phi pi01 m) (evM cl) (.Name "stream" pp) ⟨h, n, l⟩ = .ok (.ref (L (.A k))) ⟨h, n, l⟩ := bN (by decide) (nm (by decide)) K.ls
theorem SK.row (K : SK T L B DS DR cl oS oR k l h n) {pp : Pos} : denE pi01 (phi pi01 m) (evM cl) (.Name "row" pp) ⟨h, n, l⟩ = .ok (.ref (B k)) ⟨h, n, l⟩ := bN (by decide) (nm (by decide)) K.lr
theorem SK.inst (K : SK T L B DS DR cl oS oR k l h n) {j : Int} (hj : j ∈ T.nums) : h (L (.A j)) = some (.inst (sfs T L j)) := by
 obtain ⟨Q, h1, h2⟩ := K.sb.sy.ss
 exact h1.cc (.A j) hj
theorem SK.att (K : SK T L B DS DR cl oS oR k l h n) (hk : k ∈ T.nums) {x : Str} {p1 p2 : Pos} {v : V} (hn : x ≠ wName) (hf : pi01.fields.contains x = true) (hg : getR x (sfs T L k) = some v) : denE pi01 (phi pi01 m) (evM cl) (.Attribute (.Name "stream" p1) x p2) ⟨h, n, l⟩ = .ok v ⟨h, n, l⟩ := bA rfl K.str (K.inst hk) hn hf hg
theorem noInst {h : Hp} {a : Nat} {xs : List V} (e : h a = some (.list xs)) : isInst h (.ref a) = false := by
 show (instAt h a).isSome = false
 unfold instAt
 rw [e]
 rfl
theorem same1 (hk : k ∈ T.nums) (K : SK T L B DS DR cl oS oR k l h n) (hQ : ∀ h' n', Ag n h n' h' → Wp (denSs pi01 (phi pi01 (m + 1)) (evM cl) ((whileB sameF).drop 2)) ⟨h', n', l⟩ Q) : Wp (denSs pi01 (phi pi01 (m + 1)) (evM cl) ((whileB sameF).drop 1)) ⟨h, n, l⟩ Q := by
 have A1 : Ag n h (n + 1) (upd h n (.list [.int k, .int (T.w k), .bool (T.able k), .int (T.last k)])) := .new
 have A2 : Ag (n + 1) (upd h n (.list [.int k, .int (T.w k), .bool (T.able k), .int (T.last k)])) (n + 2) (upd (upd h n (.list [.int k, .int (T.w k), .bool (T.able k), .int (T.last k)])) (n + 1) (.list [.int k, .int (T.w k), .bool (T.able k), .int (T.last k)])) := .new
 have K1 := K.ag A1
 refine Wp_if (Wp_of (b_list rfl (bC (K.att hk (by decide) (by decide) rfl) (bC (b_attrW rfl K.str (K.inst hk) (getW_run (n := m) (K.inst hk) rfl)) (bC (K.att hk (by decide) (by decide) rfl) (bC (K.att hk (by decide) (by decide) rfl) bE))))) (Wp_of (b_list rfl (bC (bN (by decide) (nm (by decide)) K.ln) (bC (K1.sb.rs.fld hk K1.row fun _ => rfl) (bC (K1.sb.rs.fld hk K1.row fun _ => rfl) (bC (K1.sb.rs.fld hk K1.row fun _ => rfl) bE))))) ⟨?_, hQ _ _ (A1.trans A2)⟩))
 have py : ∀ {h : Hp} {a : Nat}, h a = some (.list [.int k, .int (T.w k), .bool (T.able k), .int (T.last k)]) → pyOf depthLim h (.ref a) = some (.list [.int k, .int (T.w k), .bool (T.able k), .int (T.last k)]) := fun {h a} e => by
  show pyObj (pyOf 3 h) (h a) = _
  rw [e]; rfl
 exact ne_data (noInst ((A2.eq n (Nat.lt_succ_self _)).trans (uS _ _ _))) rfl rfl (py ((A2.eq n (Nat.lt_succ_self _)).trans (uS _ _ _))) (py (uS _ _ _)) rfl
theorem same2 (hk : k ∈ T.nums) (hp : ∀ p, T.par k = some p → p ∈ T.nums) (K : SK T L B DS DR cl oS oR k l h n) (hQ : Wp (denSs pi01 (phi pi01 (m + 1)) (evM cl) ((whileB sameF).drop 3)) ⟨h, n, l⟩ Q) : Wp (denSs pi01 (phi pi01 (m + 1)) (evM cl) ((whileB sameF).drop 2)) ⟨h, n, l⟩ Q := by
 have right : ∀ {p1 p2 p3 : Pos} {i : Nat}, denE pi01 (phi pi01 (m + 1)) (evM cl) (.Subscript (.Name "row" p1) (.Constant (.str "parent") i p2) p3) ⟨h, n, l⟩ = .ok (parI (T.par k)) ⟨h, n, l⟩ := K.sb.rs.fld hk K.row fun _ => rfl
 cases hx : T.par k with
 | none =>
  rw [hx] at right
  have gp : getR "parent" (sfs T L k) = some .none := by show some (parV L (T.par k)) = _; rw [hx]; rfl
  exact Wp_if (Wp_of (b_ifexpT (tC (K.att hk (by decide) (by decide) gp) b_none b_cmpIs) b_none) (Wp_of right ⟨ne_data rfl rfl rfl rfl rfl (d := .none) (by decide), hQ⟩))
 | some p =>
  rw [hx] at right
  have gp : getR "parent" (sfs T L k) = some (.ref (L (.A p))) := by show some (parV L (T.par k)) = _; rw [hx]; rfl
  exact Wp_if (Wp_of (b_ifexpF (tC (K.att hk (by decide) (by decide) gp) b_none b_cmpIs) (bA rfl (K.att hk (by decide) (by decide) gp) (K.inst (hp p hx)) (by decide) (by decide) rfl)) (Wp_of right ⟨b_cmpNe.trans (by rw [beq_self_eq_true]; rfl), hQ⟩))
theorem same3 (hT : Tree T rk) (few : ∀ k ∈ T.nums, (T.kids k).length ≤ 40) (hk : k ∈ T.nums) (K : SK T L B DS DR cl oS oR k l h n) (hQ : ∀ h' n', Ag n h n' h' → Wp (denSs pi01 (phi pi01 (m + 1)) (evM cl) ((whileB sameF).drop 4)) ⟨h', n', l⟩ Q) : Wp (denSs pi01 (phi pi01 (m + 1)) (evM cl) ((whileB sameF).drop 3)) ⟨h, n, l⟩ Q := by
 obtain ⟨Q1, h1, h2⟩ := K.sb.sy.ss
 obtain ⟨b, e1, e2, e3, e4⟩ := RS.ben (P := pi01) (Φ := phi pi01 (m + 1)) (ev := evM cl) (l := l) (K.sb.rs.ag (Ag.new (o := .list ((T.kids k).map .int)))) hk
 have hl := few k hk
 have ef : ((T.kids k).filter fun _ => true) = T.kids k := List.filter_eq_self.mpr fun _ _ => rfl
 have K1 := K.ag (Ag.new (o := .list ((T.kids k).map .int)))
 refine Wp_if (Wp_of (comp_pure (s1 := ⟨h, n, l⟩) (T.kids k) (fun c => .ref (L (.A c))) (fun _ => true) .int rfl rfl (K.att hk (by decide) (by decide) rfl) (h1.cc (.ch k) hk) (h1.at_ (.ch k) hk).1 (by lia) fun a ha h' n' l' hh => ⟨updL l' "child" (.ref (L (.A a))), bT (cnm (by decide)), rfl, fun _ => bA rfl (bN (by decide) (cnm (by decide)) cS) ((hh _ (h1.at_ (.A a) (hT.kid k hk a ha).1).1).trans (h1.cc (.A a) (hT.kid k hk a ha).1)) (by decide) (by decide) rfl⟩) ?_)
 rw [ef]
 exact Wp_of (e4 K1.row) ⟨ne_data (noInst (uS _ _ _)) rfl rfl (py_ints (n := 2) (uS _ _ _)) (py_ints (n := 2) e1) (lay_all (fun _ => rfl) (fun _ => Nat.zero_le _) _), hQ _ _ .new⟩
theorem same4 (hT : Tree T rk) (few : ∀ k ∈ T.nums, (T.kids k).length ≤ 40) (hk : k ∈ T.nums) (K : SK T L B DS DR cl oS oR k l h n) (hQ : ∀ h' n', Ag n h n' h' → Q .next ⟨h', n', l⟩) : Wp (denSs pi01 (phi pi01 (m + 1)) (evM cl) ((whileB sameF).drop 4)) ⟨h, n, l⟩ Q := by
 obtain ⟨Q1, h1, h2⟩ := K.sb.sy.ss
 obtain ⟨xs, x1, x2, x3⟩ := h1.cc (.cq k) hk
 have srt := h1.srt k hk
 have hl := few k hk
 have z := zip_ref x2.length
 have hq : sort2 (Q1 k) = sort2 ((T.kids k).map fun c => (T.lev c, c)) := (sort2_of srt.1 (.refl _)).symm.trans (sort2_of srt.1 (h2 k hk))
 have nq : (Q1 k).Nodup := srt.1.imp fun {a b} h e => by
  subst e
  unfold lexLt at h
  rw [decide_eq_true_eq] at h
  lia
 have nk : ((T.kids k).map fun c => (T.lev c, c)).Nodup := List.pairwise_map.mpr ((hT.nd k hk).imp fun h e => h (congrArg Prod.snd e))
 refine Wp_if (Wp_call1 (gO (nm (by decide))) rfl (by decide) (by decide) (Wp_pair (s1 := ⟨h, n, l⟩) (i := L (.cq k)) (xs.zip (Q1 k)) (fun a => .ref a.1) (fun a => (a.2.1, a.2.2)) rfl rfl (K.att hk (by decide) (by decide) rfl) (by rw [z.1]; exact x1) (h1.at_ (.cq k) hk).1 (by rw [List.length_zip]; have := srt.2.2; lia) rfl (fun a ha h' n' l' hh hn' => ?_) fun h' n' ys r1 r2 r3 r4 r5 => ?_))
 ·have it := x2.zip a ha
  have hn := srt.2.1 a.2 it.2.2
  exact ⟨_, a_tup (P := pi01) (Φ := phi pi01 0) (p := default) (k := 0) (q1 := default) (q2 := default) (cnm (by decide)) (cnm (by decide)) ((hh _ (x3 _ it.2.1).1).trans it.1), bN (by decide) (cnm (by decide)) ((cO (by decide)).trans lS), bA rfl (bN (by decide) (cnm (by decide)) cS) ((hh _ (h1.at_ (.A a.2.2) hn).1).trans (h1.cc (.A a.2.2) hn)) (by decide) (by decide) rfl⟩
 ·rw [z.2] at r3
  obtain ⟨zs, q1, q2, q3⟩ := sorted_run (st := ⟨h', n', l⟩) r2 r3 r4 (by have := srt.2.2; lia) nq
  have A1 : Ag n h (n' + 1) (upd h' n' (.list (zs.map .ref))) := Ag.trans ⟨Nat.le_of_lt r5, r1⟩ .new
  have K1 := K.ag A1
  obtain ⟨b, e1, e2, e3, e4⟩ := RS.ben (P := pi01) (Φ := phi pi01 (m + 1)) (ev := evM cl) (l := l) K1.sb.rs hk
  refine Wp_of q1 (Wp_call1 (gO (nm (by decide))) rfl (by decide) (by decide) (Wp_pair (s1 := ⟨upd h' n' (.list (zs.map .ref)), n' + 1, l⟩) (T.kids k) .int (fun c => (T.lev c, c)) rfl rfl (e4 K1.row) e1 e2 (by lia) rfl (fun a ha h2 n2 l2 hh hn2 => ?_) fun h2 n2 ys2 s1 s2 s3 s4 s5 => ?_))
  ·have hka := (hT.kid k hk a ha).1
   have R : RS T B DR oR h2 n2 := K1.sb.rs.ag ⟨Nat.le_of_lt hn2, hh⟩
   exact ⟨updL l2 "other" (.int a), bT (cnm (by decide)), R.fld hka (R.look hka (b_cell (by decide) (cnm (by decide)) rfl ((hh _ K1.cn).trans K1.ce)) (bN (by decide) (cnm (by decide)) cS) rfl fun _ _ => rfl) fun _ => rfl, bN (by decide) (cnm (by decide)) cS⟩
  ·obtain ⟨zs2, t1, t2, t3⟩ := sorted_run (st := ⟨h2, n2, l⟩) s2 s3 s4 (by rw [List.length_map]; lia) nk
   have A2 : Ag (n' + 1) (upd h' n' (.list (zs.map .ref))) (n2 + 1) (upd h2 n2 (.list (zs2.map .ref))) := Ag.trans ⟨Nat.le_of_lt s5, s1⟩ .new
   have p1 : pyOf depthLim (upd h2 n2 (.list (zs2.map .ref))) (.ref n') = some (.list ((sort2 (Q1 k)).map fun k => .tuple [.int k.1, .int k.2])) := py_pairs (n := 1) ((A2.eq n' (Nat.lt_succ_self _)).trans (uS _ _ _)) (q2.mono fun x hx v hv => (A2.eq x (Nat.lt_succ_of_lt (q3 x hx))).trans ((uO (Nat.ne_of_lt (q3 x hx))).trans hv))
   have p2 : pyOf depthLim (upd h2 n2 (.list (zs2.map .ref))) (.ref n2) = some (.list ((sort2 (Q1 k)).map fun k => .tuple [.int k.1, .int k.2])) := by
    rw [hq]
    exact py_pairs (n := 1) (uS _ _ _) (t2.mono fun x hx v hv => (uO (Nat.ne_of_lt (t3 x hx))).trans hv)
   exact Wp_of t1 ⟨ne_data (noInst ((A2.eq n' (Nat.lt_succ_self _)).trans (uS _ _ _))) rfl rfl p1 p2 (lay_all (fun _ => rfl) (fun _ => Nat.le_refl _) _), Wp_of sN (hQ _ _ (A1.trans A2))⟩
end
theorem Wp_cons {P : PI} {Φ : Phi} {ev : AEnv} {s : Stmt} {r : List Stmt} {st s1 : S} {Q : Mine.Flow → S → Prop} (h : denS P Φ ev s st = .ok .next s1) (w : Wp (denSs P Φ ev r) s1 Q) : Wp (denSs P Φ ev (s :: r)) st Q := by
 obtain ⟨f, s2, e, q⟩ := w
 exact ⟨f, s2, sC h e, q⟩
theorem same_run {m : Nat} {T : Tab} {rk : Int → Nat} {L : Rl → Nat} {B : Int → Nat} {DS DR : Nat} {oS oR : Nat → Prop} {st : S} (hT : Tree T rk) (few : ∀ k ∈ T.nums, (T.kids k).length ≤ 40) (hp : ∀ k ∈ T.nums, ∀ p, T.par k = some p → p ∈ T.nums) (hl : T.nums.length ≤ 40) (H : SB T L B DS DR oS oR st.heap st.next) :
  ∃ s', bodyM pi01 (phi pi01 (m + 1)) false g_same [.ref DS, .ref DR] st = .ok (.bool true) s' := by
 have A0 : Ag st.next st.heap (st.next + 1) (upd st.heap st.next (.cell (some (.ref DR)))) := .new
 have H0 := H.ag A0
 have hc : upd st.heap st.next (.cell (some (.ref DR))) st.next = some (.cell (some (.ref DR))) := uS _ _ _
 obtain ⟨ver, dr⟩ := H0.rs.dr
 have W : Wp (denS pi01 (phi pi01 (m + 1)) (evM st.next) sameF) ⟨upd st.heap st.next (.cell (some (.ref DR))), st.next + 1, locC "rows" g_same [.ref DS, .ref DR]⟩ fun f _ => f = .next := by
  refine Wp_forD (I := fun rest s => (∀ k ∈ rest, k ∈ T.nums) ∧ Ag (st.next + 1) (upd st.heap st.next (.cell (some (.ref DR)))) s.next s.heap ∧ s.loc "streams" = some (.ref DS)) rfl rfl (b_cell (by decide) (nm (by decide)) rfl hc) dr (by rw [List.length_map]; lia) (fun rest s h => (h.2.1.eq _ H0.rs.lt).trans dr) (fun k rest s h => ?_) (fun s _ => rfl) ⟨fun k hk => by
   obtain ⟨p, hp, rfl⟩ := List.mem_map.mp hk
   obtain ⟨j, hj, rfl⟩ := List.mem_map.mp hp
   exact hj, .refl, rfl⟩
  have hk := h.1 k (.head _)
  have Hs := H0.ag h.2.1
  have cs : s.heap st.next = some (.cell (some (.ref DR))) := (h.2.1.eq _ (Nat.lt_succ_self _)).trans hc
  obtain ⟨verS, ds⟩ := Hs.ds
  have A1 : Ag s.next s.heap (s.next + 1) (upd s.heap s.next (.tup [.ref (B k), .ref (L (.A k))])) := .new
  have K : SK T L B DS DR st.next oS oR k (updL (updL (updL s.loc "number" (.int k)) "stream" (.ref (L (.A k)))) "row" (.ref (B k))) (upd s.heap s.next (.tup [.ref (B k), .ref (L (.A k))])) (s.next + 1) :=
   ⟨Hs.ag A1, (A1.eq _ (ltl (Nat.lt_succ_self _) h.2.1.le)).trans cs, ltl (Nat.lt_succ_self _) (Nat.le_trans h.2.1.le A1.le), (Lo (by decide)).trans lS, lS, (Lo (by decide)).trans ((Lo (by decide)).trans lS)⟩
  have lstr : (updL (updL (updL s.loc "number" (.int k)) "stream" (.ref (L (.A k)))) "row" (.ref (B k))) "streams" = some (.ref DS) := (Lo (by decide)).trans ((Lo (by decide)).trans ((Lo (by decide)).trans h.2.2))
  refine ⟨_, bT (nm (by decide)), Wp_cons (s_swap (x := "row") (y := "stream") rfl rfl rfl (b_tuple rfl (bC (Hs.rs.look hk (b_cell (by decide) (nm (by decide)) rfl cs) (bN (by decide) (nm (by decide)) cS) rfl fun _ _ => rfl) (bC (b_item rfl (fun _ _ => rfl) (bN (by decide) (nm (by decide)) ((cO (by decide)).trans h.2.2)) (bN (by decide) (nm (by decide)) cS) ds (su_dI (getF_map (α := Int) hk))) bE))) (uS _ _ _) (nm (by decide)) (nm (by decide)))
   (same1 hk K fun h1 n1 a1 => same2 hk (hp k hk) (K.ag a1) (same3 hT few hk (K.ag a1) fun h2 n2 a2 => same4 hT few hk ((K.ag a1).ag a2) fun h3 n3 a3 => ⟨fun j hj => h.1 j (.tail _ hj), h.2.1.trans (A1.trans (a1.trans (a2.trans a3))), lstr⟩))⟩
 obtain ⟨f, s, e, rfl⟩ := W
 exact ⟨_, body_okC (f := .ret (.bool true)) (s' := s) (x := "rows") rfl (by decide) (by decide) (sC e (sE (s_ret b_bool)))⟩
end
section
noncomputable def lawNames : List Int := [3, 8, 1, 6, 9, 4, 7, 2, 12, 5, 11, 10, 15, 13]
structure WX (T : Tab) (rk : Int → Nat) (came : Nat) (x : Option Int) : Prop where
 tr : Tree T rk
 un : T.nums.Nodup
 zr : (0 : Int) ∈ T.nums
 z0 : T.par 0 = none
 up : ∀ c ∈ T.nums, c ≠ 0 → some c ≠ x → ∃ p ∈ T.nums, T.par c = some p ∧ c ∈ T.kids p
 lo : ∀ c, x = some c → c ∈ T.nums ∧ c ≠ 0 ∧ ∀ k ∈ T.nums, c ∉ T.kids k
 cm : ∀ c ∈ T.nums, c = 0 ∨ c ∈ lawNames.take came
structure Sub (T : Tab) (rk : Int → Nat) (c : Int) (I : Int → Prop) : Prop where
 me : I c
 dn : ∀ x ∈ T.nums, I x → ∀ o ∈ T.kids x, I o
 up : ∀ x ∈ T.nums, ∀ o ∈ T.kids x, I o → o ≠ c → I x
 rk : ∀ x, I x → rk c ≤ rk x
section
variable {T T' : Tab} {rk ht : Int → Nat} {came : Nat}
theorem WX.few (W : WX T rk came x) : T.nums.length ≤ 15 := W.un.length_le_of_subset (l₂ := 0 :: lawNames) fun c hc => by
 rcases W.cm c hc with rfl | h
 ·exact .head _
 ·exact .tail _ (List.mem_of_mem_take h)
theorem WX.kids (W : WX T rk came x) {k : Int} (hk : k ∈ T.nums) : (T.kids k).length ≤ 15 := Nat.le_trans ((W.tr.nd k hk).length_le_of_subset fun c hc => (W.tr.kid k hk c hc).1) W.few
theorem WX.pm (W : WX T rk came none) {c p : Int} (hc : c ∈ T.nums) (h : T.par c = some p) : p ∈ T.nums ∧ c ∈ T.kids p := by
 have h0 : c ≠ 0 := fun q => by rw [q, W.z0] at h; exact zN h
 obtain ⟨q, h1, h2, h3⟩ := W.up c hc h0 fun q => zS q
 rw [h] at h2
 obtain rfl := sj h2
 exact ⟨h1, h3⟩
noncomputable def htOf (T : Tab) (rk : Int → Nat) (k : Int) : Nat := (T.nums.filter fun j => decide (rk k < rk j)).length
theorem htOf_lt (W : WX T rk came x) (k : Int) : htOf T rk k < 16 := Nat.lt_succ_of_le (Nat.le_trans (List.length_filter_le _ _) W.few)
theorem htOf_kid (W : WX T rk came x) : ∀ k ∈ T.nums, ∀ c ∈ T.kids k, htOf T rk c < htOf T rk k := fun k hk c hc => by
 have kc := W.tr.kid k hk c hc
 have h : (c :: T.nums.filter fun j => decide (rk c < rk j)).Nodup := List.nodup_cons.mpr ⟨fun q => by
  have := (List.mem_filter.mp q).2
  rw [decide_eq_true_eq] at this
  exact Nat.lt_irrefl _ this, W.un.filter _⟩
 exact h.length_le_of_subset (l₂ := T.nums.filter fun j => decide (rk k < rk j)) fun j hj => by
  rcases List.mem_cons.mp hj with rfl | hj
  ·exact List.mem_filter.mpr ⟨kc.1, decide_eq_true kc.2.2⟩
  ·have := List.mem_filter.mp hj
   rw [decide_eq_true_eq] at this
   exact List.mem_filter.mpr ⟨this.1, decide_eq_true (Nat.lt_trans kc.2.2 this.2)⟩
theorem WX.same {x : Option Int} (W : WX T rk came x) (hn : T'.nums = T.nums) (hp : T'.par = T.par) (hk : T'.kids = T.kids) (hw : ∀ k ∈ T.nums, 1 ≤ T'.w k ∧ T'.w k ≤ 256) : WX T' rk came x :=
 ⟨⟨by rw [hn, hk, hp]; exact W.tr.kid, by rw [hn, hk]; exact W.tr.nd, by rw [hn]; exact hw⟩, hn ▸ W.un, hn ▸ W.zr, hp ▸ W.z0, by rw [hn, hp, hk]; exact W.up, by rw [hn, hk]; exact W.lo, by rw [hn]; exact W.cm⟩
theorem WX.after {x : Option Int} (W : WX T rk came x) (n : Nat) (k : Int) : WX (T.after n k) rk came x := by
 unfold Tab.after
 by_cases h : T.able k = true
 ·rw [if_pos h]; exact W
 ·rw [if_neg h]; exact W.same rfl rfl rfl W.tr.wt
theorem lays_eq (c : Int) : ∀ (os : List Int) (T : Tab), (T.lays c os).nums = T.nums ∧ (T.lays c os).w = T.w ∧ (T.lays c os).kids = fset T.kids c (T.kids c ++ os) ∧ ∀ x, (T.lays c os).par x = if x ∈ os then some c else T.par x
 | [], T => ⟨rfl, rfl, by
  rw [List.append_nil]
  funext j
  show T.kids j = fset T.kids c (T.kids c) j
  unfold fset
  by_cases e : j = c
  ·rw [if_pos e, e]
  ·rw [if_neg e], fun x => (if_neg fun h => zL h).symm⟩
 | o :: os, T => by
  obtain ⟨a, b, d, e⟩ := lays_eq c os (T.lay c o)
  refine ⟨a, b, d.trans ?_, fun x => (e x).trans ?_⟩
  ·funext j
   show fset (fset T.kids c (T.kids c ++ [o])) c (fset T.kids c (T.kids c ++ [o]) c ++ os) j = fset T.kids c (T.kids c ++ o :: os) j
   rw [fS]
   unfold fset
   by_cases q : j = c
   ·rw [if_pos q, if_pos q, List.append_assoc]; rfl
   ·rw [if_neg q, if_neg q, if_neg q]
  ·show (if x ∈ os then some c else fset T.par o (some c) x) = _
   by_cases q : x ∈ os
   ·rw [if_pos q, if_pos (.tail _ q)]
   ·rw [if_neg q]
    unfold fset
    by_cases z : x = o
    ·rw [if_pos z, if_pos (by rw [z]; exact .head _)]
    ·rw [if_neg z, if_neg fun h => (List.mem_cons.mp h).elim z q]
theorem WX.lay {c t : Int} {I : Int → Prop} (W : WX T rk came (some c)) (S : Sub T rk c I) (ht : t ∈ T.nums) (hI : ¬ I t) : ∃ rk', WX (T.lay t c) rk' came none := by
 classical
 obtain ⟨hc, c0, hlo⟩ := W.lo c rfl
 have ne : ∀ k ∈ T.nums, ∀ o ∈ T.kids k, o ≠ c := fun k hk o ho q => hlo k hk (q ▸ ho)
 refine ⟨fun x => if I x then 2 * rk t + 1 + (rk x - rk c) else 2 * rk x, ⟨fun k hk o ho => ?_, fun k hk => ?_, W.tr.wt⟩, W.un, W.zr, (fO (Ne.symm c0)).trans W.z0, fun o ho h0 _ => ?_, (fun _ q => zN q), W.cm⟩
 ·have old : o ∈ T.kids k → o ∈ T.nums ∧ fset T.par c (some t) o = some k ∧ (if I k then 2 * rk t + 1 + (rk k - rk c) else 2 * rk k) < if I o then 2 * rk t + 1 + (rk o - rk c) else 2 * rk o := fun ho => by
   have h := W.tr.kid k hk o ho
   refine ⟨h.1, (fO (ne k hk o ho)).trans h.2.1, ?_⟩
   by_cases q : I k
   ·have a := S.rk k q
    rw [if_pos q, if_pos (S.dn k hk q o ho)]; lia
   ·rw [if_neg q, if_neg fun z => q (S.up k hk o ho z (ne k hk o ho))]; lia
  have ho : o ∈ fset T.kids t (T.kids t ++ [c]) k := ho
  by_cases e : k = t
  ·subst e
   rw [fS] at ho
   rcases List.mem_append.mp ho with ho | ho
   ·exact old ho
   ·cases smp ho
    refine ⟨hc, fS, ?_⟩
    show (if I k then _ else _) < if I c then _ else _
    rw [if_neg hI, if_pos S.me]; lia
  ·rw [fO e] at ho
   exact old ho
 ·show (fset T.kids t (T.kids t ++ [c]) k).Nodup
  by_cases e : k = t
  ·subst e
   rw [fS]
   exact List.nodup_append.mpr ⟨W.tr.nd k hk, List.pairwise_singleton _ _, fun a ha b hb q => ne k hk a ha (q.trans (smp hb))⟩
  ·rw [fO e]; exact W.tr.nd k hk
 ·by_cases e : o = c
  ·subst e
   exact ⟨t, ht, fS, by show _ ∈ fset T.kids t (T.kids t ++ [o]) t; rw [fS]; exact List.mem_append_right _ (.head _)⟩
  ·obtain ⟨p, h1, h2, h3⟩ := W.up o ho h0 fun q => e (sj q)
   refine ⟨p, h1, (fO e).trans h2, ?_⟩
   show o ∈ fset T.kids t (T.kids t ++ [c]) p
   by_cases q : p = t
   ·subst q; rw [fS]; exact List.mem_append_left _ h3
   ·rw [fO q]; exact h3
theorem alone_eq {t c : Int} (htc : t ≠ c) : (T.alone t c).nums = T.nums ∧ (T.alone t c).w = T.w ∧ (∀ k, (T.alone t c).kids k = if k = c then T.kids c ++ T.kids t else if k = t then [c] else T.kids k) ∧ ∀ x, (T.alone t c).par x = if x ∈ T.kids t then some c else if x = c then some t else T.par x := by
 obtain ⟨a, b, d, e⟩ := lays_eq c (T.kids t) ((T.cut t).lay t c)
 have k0 : ∀ k, ((T.cut t).lay t c).kids k = if k = t then [c] else T.kids k := fun k => by
  show fset (fset T.kids t []) t (fset T.kids t [] t ++ [c]) k = _
  rw [fS]
  unfold fset
  by_cases q : k = t
  ·rw [if_pos q, if_pos q]; rfl
  ·rw [if_neg q, if_neg q, if_neg q]
 refine ⟨a, b, fun k => ?_, fun x => (e x).trans rfl⟩
 show (((T.cut t).lay t c).lays c (T.kids t)).kids k = _
 rw [d]
 unfold fset
 by_cases q : k = c
 ·rw [if_pos q, if_pos q, k0, if_neg (Ne.symm htc)]
 ·rw [if_neg q, if_neg q, k0]
theorem WX.alone {c t : Int} {I : Int → Prop} (W : WX T rk came (some c)) (S : Sub T rk c I) (ht : t ∈ T.nums) (hI : ¬ I t) : ∃ rk', WX (T.alone t c) rk' came none := by
 classical
 obtain ⟨hc, c0, hlo⟩ := W.lo c rfl
 have htc : t ≠ c := fun q => hI (q ▸ S.me)
 obtain ⟨a1, a2, a3, a4⟩ := alone_eq (T := T) htc
 have ne : ∀ k ∈ T.nums, ∀ o ∈ T.kids k, o ≠ c := fun k hk o ho q => hlo k hk (q ▸ ho)
 have two : ∀ k ∈ T.nums, ∀ o ∈ T.kids k, o ∈ T.kids t → k = t := fun k hk o h1 h2 => by
  have := (W.tr.kid k hk o h1).2.1
  rw [(W.tr.kid t ht o h2).2.1] at this
  exact (sj this).symm
 have old : ∀ k ∈ T.nums, ∀ o ∈ T.kids k, (if I k then 2 * rk t + 1 + (rk k - rk c) else 2 * rk k) < if I o then 2 * rk t + 1 + (rk o - rk c) else 2 * rk o := fun k hk o ho => by
  have h := W.tr.kid k hk o ho
  by_cases q : I k
  ·have a := S.rk k q
   rw [if_pos q, if_pos (S.dn k hk q o ho)]; lia
  ·rw [if_neg q, if_neg fun z => q (S.up k hk o ho z (ne k hk o ho))]; lia
 refine ⟨fun x => if I x then 2 * rk t + 1 + (rk x - rk c) else 2 * rk x, ⟨fun k hk o ho => ?_, fun k hk => ?_, by rw [a1, a2]; exact W.tr.wt⟩, by rw [a1]; exact W.un, by rw [a1]; exact W.zr, ?_, fun o ho h0 _ => ?_, (fun _ q => zN q), by rw [a1]; exact W.cm⟩
 ·rw [a1] at hk ⊢
  rw [a3] at ho
  by_cases q : k = c
  ·subst q
   rw [if_pos rfl] at ho
   rcases List.mem_append.mp ho with ho | ho
   ·have h := W.tr.kid k hk o ho
    exact ⟨h.1, by rw [a4, if_neg fun z => htc (two k hk o ho z).symm, if_neg (ne k hk o ho)]; exact h.2.1, old k hk o ho⟩
   ·have h := W.tr.kid t ht o ho
    refine ⟨h.1, by rw [a4, if_pos ho], ?_⟩
    show (if I k then _ else _) < if I o then _ else _
    rw [if_pos S.me, if_neg fun z => hI (S.up t ht o ho z (ne t ht o ho))]; lia
  ·rw [if_neg q] at ho
   by_cases e : k = t
   ·rw [if_pos e] at ho
    cases smp ho
    refine ⟨hc, by rw [a4, if_neg (hlo t ht), if_pos rfl, e], ?_⟩
    show (if I k then _ else _) < if I c then _ else _
    rw [e, if_neg hI, if_pos S.me]; lia
   ·rw [if_neg e] at ho
    have h := W.tr.kid k hk o ho
    exact ⟨h.1, by rw [a4, if_neg fun z => e (two k hk o ho z), if_neg (ne k hk o ho)]; exact h.2.1, old k hk o ho⟩
 ·rw [a1] at hk
  rw [a3]
  by_cases q : k = c
  ·rw [if_pos q]
   exact List.nodup_append.mpr ⟨W.tr.nd c hc, W.tr.nd t ht, fun a ha b hb z => htc (two c hc a ha (z ▸ hb)).symm⟩
  ·rw [if_neg q]
   by_cases e : k = t
   ·rw [if_pos e]; exact List.pairwise_singleton _ _
   ·rw [if_neg e]; exact W.tr.nd k hk
 ·rw [a4, if_neg (fun z => by have := (W.tr.kid t ht 0 z).2.1; rw [W.z0] at this; exact zN this), if_neg (Ne.symm c0)]; exact W.z0
 ·rw [a1] at ho ⊢
  by_cases e : o ∈ T.kids t
  ·exact ⟨c, hc, by rw [a4, if_pos e], by rw [a3, if_pos rfl]; exact List.mem_append_right _ e⟩
  ·by_cases z : o = c
   ·exact ⟨t, ht, by rw [a4, if_neg e, if_pos z], by rw [a3, if_neg htc, if_pos rfl, z]; exact .head _⟩
   ·obtain ⟨p, h1, h2, h3⟩ := W.up o ho h0 fun q => z (sj q)
    refine ⟨p, h1, by rw [a4, if_neg e, if_neg z]; exact h2, ?_⟩
    rw [a3]
    by_cases q : p = c
    ·rw [if_pos q]; exact List.mem_append_left _ (q ▸ h3)
    ·rw [if_neg q, if_neg (fun w : p = t => e (w ▸ h3))]; exact h3
end
end
section
section
variable {T : Tab} {rk ht : Int → Nat} {came : Nat}
theorem Tree.two (hT : Tree T rk) {k j : Int} (hk : k ∈ T.nums) (hj : j ∈ T.nums) {o : Int} (h : o ∈ T.kids k) (h' : o ∈ T.kids j) : k = j := by
 have := (hT.kid k hk o h).2.1
 rw [(hT.kid j hj o h').2.1] at this
 exact (sj this).symm
theorem off_kids {p c k : Int} : (T.off p c).kids k = if k = p then (T.kids p).filter (fun o => o != c) else T.kids k := rfl
theorem off_sub {p c k o : Int} (h : o ∈ (T.off p c).kids k) : o ∈ T.kids k ∧ (k = p → o ≠ c) := by
 rw [off_kids] at h
 by_cases e : k = p
 ·rw [if_pos e] at h
  have := List.mem_filter.mp h
  exact ⟨e ▸ this.1, fun _ => bne_iff_ne.mp this.2⟩
 ·rw [if_neg e] at h
  exact ⟨h, fun q => absurd q e⟩
theorem off_mem {p c k o : Int} (h : o ∈ T.kids k) (hc : o ≠ c) : o ∈ (T.off p c).kids k := by
 rw [off_kids]
 by_cases e : k = p
 ·rw [if_pos e]; exact List.mem_filter.mpr ⟨e ▸ h, bne_iff_ne.mpr hc⟩
 ·rw [if_neg e]; exact h
theorem WX.off (W : WX T rk came none) {p c : Int} (hc : c ∈ T.nums) (h : T.par c = some p) : WX (T.off p c) rk came (some c) := by
 obtain ⟨hp, hm⟩ := W.pm hc h
 have c0 : c ≠ 0 := fun q => by rw [q, W.z0] at h; exact zN h
 refine ⟨⟨fun k hk o ho => W.tr.kid k hk o (off_sub ho).1, fun k hk => ?_, W.tr.wt⟩, W.un, W.zr, W.z0, fun o ho h0 ne => ?_, fun x hx => ?_, W.cm⟩
 ·rw [off_kids]
  by_cases e : k = p
  ·rw [if_pos e]; exact (W.tr.nd p hp).filter _
  ·rw [if_neg e]; exact W.tr.nd k hk
 ·obtain ⟨q, h1, h2, h3⟩ := W.up o ho h0 fun q => zS q
  exact ⟨q, h1, h2, off_mem h3 fun z => ne (by rw [z])⟩
 ·obtain rfl := sj hx
  exact ⟨hc, c0, fun k hk ho => (off_sub ho).2 (W.tr.two hk hp (off_sub ho).1 hm) rfl⟩
theorem WX.sub (W : WX T rk came none) {p c : Int} (hc : c ∈ T.nums) {n : Nat} (hn : htOf T rk c < n) : Sub (T.off p c) rk c (· ∈ insd T n c) := by
 refine ⟨?_, fun x hx hI o ho => insd_kid (htOf_kid W) W.tr hc hn hI (off_sub ho).1, fun x hx o ho hI ne => ?_, fun x hI => (insd_rk W.tr hc hI).1⟩
 ·cases n with
  | zero => exact absurd hn (Nat.not_lt_zero _)
  | succ n => exact .head _
 ·rcases insd_par W.tr hc hI with rfl | ⟨q, h1, h2, _⟩
  ·exact absurd rfl ne
  ·rw [(W.tr.kid x hx o (off_sub ho).1).2.1] at h2
   obtain rfl := sj h2
   exact h1
noncomputable def Tab.fresh (T : Tab) (c w : Int) : Tab := { nums := T.nums ++ [c], w := fset T.w c w, able := fset T.able c true, par := fset T.par c none, kids := fset T.kids c [], lev := fset T.lev c 0, over := fset T.over c 0, last := fset T.last c 0 }
theorem names_ok : ∀ i : Fin 14, (lawNames[i.val]?).getD 0 ≠ 0 ∧ (lawNames[i.val]?).getD 0 ∉ lawNames.take i.val ∧ (lawNames[i.val]?).getD 0 ∈ lawNames.take (i.val + 1) := by decide
theorem WX.notin (W : WX T rk came none) {c : Int} (hc : lawNames[came]? = some c) : c ∉ T.nums ∧ c ≠ 0 ∧ c ∈ lawNames.take (came + 1) := by
 obtain ⟨hl, he⟩ := List.getElem?_eq_some_iff.mp hc
 have := names_ok ⟨came, hl⟩
 rw [show lawNames[(⟨came, hl⟩ : Fin 14).val]? = some c from hc] at this
 change c ≠ 0 ∧ c ∉ lawNames.take came ∧ c ∈ lawNames.take (came + 1) at this
 exact ⟨fun h => (W.cm c h).elim this.1 this.2.1, this.1, this.2.2⟩
theorem WX.fresh (W : WX T rk came none) {c w : Int} (hc : lawNames[came]? = some c) (hw : 1 ≤ w ∧ w ≤ 256) : WX (T.fresh c w) rk (came + 1) (some c) ∧ Sub (T.fresh c w) rk c (· = c) := by
 obtain ⟨n1, n2, n3⟩ := W.notin hc
 have ne : ∀ {k}, k ∈ T.nums → k ≠ c := fun hk q => n1 (q ▸ hk)
 have mem : ∀ {k}, k ∈ T.nums ++ [c] → k ∈ T.nums ∨ k = c := fun h => (List.mem_append.mp h).imp_right smp
 have kc : (T.fresh c w).kids c = [] := fS
 have kk : ∀ {k}, k ∈ T.nums → (T.fresh c w).kids k = T.kids k := fun hk => fO (ne hk)
 refine ⟨⟨⟨fun k hk o ho => ?_, fun k hk => ?_, fun k hk => ?_⟩, ?_, List.mem_append_left _ W.zr, (fO (Ne.symm n2)).trans W.z0, fun o ho h0 q => ?_, fun x hx => ?_, fun o ho => ?_⟩, rfl, fun x hx e o ho => ?_, fun x hx o ho e z => absurd e z, fun x e => by rw [e]; exact Nat.le_refl _⟩
 ·rcases mem hk with hk | rfl
  ·rw [kk hk] at ho
   have h := W.tr.kid k hk o ho
   exact ⟨List.mem_append_left _ h.1, (fO (ne h.1)).trans h.2.1, h.2.2⟩
  ·rw [kc] at ho; exact zL ho
 ·rcases mem hk with hk | rfl
  ·rw [kk hk]; exact W.tr.nd k hk
  ·rw [kc]; exact .nil
 ·rcases mem hk with hk | rfl
  ·show 1 ≤ fset T.w c w k ∧ fset T.w c w k ≤ 256
   rw [fO (ne hk)]; exact W.tr.wt k hk
  ·show 1 ≤ fset T.w k w k ∧ fset T.w k w k ≤ 256
   rw [fS]; exact hw
 ·exact List.nodup_append.mpr ⟨W.un, List.pairwise_singleton _ _, fun a ha b hb q => ne ha (q.trans (smp hb))⟩
 ·rcases mem ho with ho | rfl
  ·obtain ⟨p, h1, h2, h3⟩ := W.up o ho h0 fun q => zS q
   exact ⟨p, List.mem_append_left _ h1, (fO (ne ho)).trans h2, by rw [kk h1]; exact h3⟩
  ·exact absurd rfl q
 ·obtain rfl := sj hx
  refine ⟨List.mem_append_right _ (.head _), n2, fun k hk => ?_⟩
  rcases mem hk with hk | rfl
  ·rw [kk hk]; exact fun q => n1 (W.tr.kid k hk c q).1
  ·rw [kc]; exact fun q => zL q
 ·rcases mem ho with ho | rfl
  ·rcases W.cm o ho with q | q
   ·exact .inl q
   ·right
    rw [List.take_add_one]
    exact List.mem_append_left _ q
  ·exact .inr n3
 ·subst e
  rw [kc] at ho; exact zL ho
theorem WX.gone (W : WX T rk came none) {p c : Int} (hc : c ∈ T.nums) (h : T.par c = some p) : WX (((T.off p c).drop c).lays p (T.kids c)) rk came none := by
 obtain ⟨hp, hm⟩ := W.pm hc h
 have c0 : c ≠ 0 := fun q => by rw [q, W.z0] at h; exact zN h
 have pc : p ≠ c := fun q => by have := (W.tr.kid p hp c hm).2.2; rw [q] at this; exact Nat.lt_irrefl _ this
 obtain ⟨a1, a2, a3, a4⟩ := lays_eq p (T.kids c) ((T.off p c).drop c)
 have mem : ∀ {k}, k ∈ (((T.off p c).drop c).lays p (T.kids c)).nums ↔ k ∈ T.nums ∧ k ≠ c := by rw [a1]; exact dM
 have kk : ∀ k, (((T.off p c).drop c).lays p (T.kids c)).kids k = if k = p then (T.kids p).filter (fun o => o != c) ++ T.kids c else T.kids k := fun k => by
  rw [a3]
  show fset _ p ((T.off p c).kids p ++ T.kids c) k = _
  unfold fset
  by_cases e : k = p
  ·rw [if_pos e, if_pos e, off_kids, if_pos rfl]
  ·rw [if_neg e, if_neg e]; show (T.off p c).kids k = _; rw [off_kids, if_neg e]
 have pp : ∀ x, (((T.off p c).drop c).lays p (T.kids c)).par x = if x ∈ T.kids c then some p else T.par x := a4
 have old : ∀ k ∈ T.nums, k ≠ c → ∀ o ∈ T.kids k, o ≠ c → (o ∈ T.nums ∧ o ≠ c) ∧ (((T.off p c).drop c).lays p (T.kids c)).par o = some k ∧ rk k < rk o := fun k hk hkc o ho hoc => by
  have h := W.tr.kid k hk o ho
  exact ⟨⟨h.1, hoc⟩, by rw [pp, if_neg fun z => hkc (W.tr.two hk hc ho z)]; exact h.2.1, h.2.2⟩
 refine ⟨⟨fun k hk o ho => ?_, fun k hk => ?_, fun k hk => by rw [a2]; exact W.tr.wt k (mem.mp hk).1⟩, by rw [a1]; exact W.un.filter _, mem.mpr ⟨W.zr, Ne.symm c0⟩, ?_, fun o ho h0 _ => ?_, (fun _ q => zN q), fun o ho => W.cm o (mem.mp ho).1⟩
 ·have hk' := mem.mp hk
  rw [mem]
  rw [kk] at ho
  by_cases e : k = p
  ·rw [if_pos e] at ho
   rcases List.mem_append.mp ho with ho | ho
   ·have := List.mem_filter.mp ho
    exact old k hk'.1 hk'.2 o (e ▸ this.1) (bne_iff_ne.mp this.2)
   ·have h1 := W.tr.kid c hc o ho
    have h2 := W.tr.kid p hp c hm
    exact ⟨⟨h1.1, fun q => by rw [q] at h1; exact Nat.lt_irrefl _ h1.2.2⟩, by rw [pp, if_pos ho, e], by rw [e]; exact Nat.lt_trans h2.2.2 h1.2.2⟩
  ·rw [if_neg e] at ho
   exact old k hk'.1 hk'.2 o ho fun q => e (W.tr.two hk'.1 hp (q ▸ ho) hm)
 ·have hk' := mem.mp hk
  rw [kk]
  by_cases e : k = p
  ·rw [if_pos e]
   exact List.nodup_append.mpr ⟨(W.tr.nd p hp).filter _, W.tr.nd c hc, fun a ha b hb q => pc (W.tr.two hp hc (List.mem_filter.mp ha).1 (q ▸ hb))⟩
  ·rw [if_neg e]; exact W.tr.nd k hk'.1
 ·rw [pp, if_neg fun z => by have := (W.tr.kid c hc 0 z).2.1; rw [W.z0] at this; cases this]; exact W.z0
 ·have ho' := mem.mp ho
  obtain ⟨q, h1, h2, h3⟩ := W.up o ho'.1 h0 fun q => zS q
  by_cases e : o ∈ T.kids c
  ·exact ⟨p, mem.mpr ⟨hp, pc⟩, by rw [pp, if_pos e], by rw [kk, if_pos rfl]; exact List.mem_append_right _ e⟩
  ·refine ⟨q, mem.mpr ⟨h1, fun z => e (z ▸ h3)⟩, by rw [pp, if_neg e]; exact h2, ?_⟩
   rw [kk]
   by_cases z : q = p
   ·rw [if_pos z]; exact List.mem_append_left _ (List.mem_filter.mpr ⟨z ▸ h3, bne_iff_ne.mpr ho'.2⟩)
   ·rw [if_neg z]; exact h3
end
end
section
structure LW (T1 T2 : Tab) (N : List Int) (L : Rl → Nat) (B : Int → Nat) (DS DR : Nat) (oS : Nat → Prop) (h : Hp) (n : Nat) : Prop where
 sy : SY T1 L oS ⟨h, n, fun _ => none⟩
 rs : RS T2 B DR (fun a => ¬ oS a) h n
 ds : ∃ ver, h DS = some (.dictI (N.map fun k => (k, .ref (L (.A k)))) ver)
 dl : DS < n
 dS : ¬ oS DS
 dR : ¬ oS DR
 dd : DS ≠ DR
 bd : ∀ a, oS a → a < n
noncomputable def lc : AObj → Bool
 | .list _ => true
 | .cell _ => true
 | .tup _ => true
 | _ => false
structure LF (oS : Nat → Prop) (n : Nat) (h : Hp) (oS' : Nat → Prop) (n' : Nat) (h' : Hp) : Prop where
 le : n ≤ n'
 keep : ∀ a o, a < n → ¬ oS a → h a = some o → lc o = true → h' a = some o ∧ ¬ oS' a
section
variable {T1 T2 T1' T2' : Tab} {N : List Int} {L L' : Rl → Nat} {B : Int → Nat} {DS DR : Nat} {oS oS' : Nat → Prop} {h h' : Hp} {n n' : Nat}
theorem LF.trans {o0 o1 o2 : Nat → Prop} {n0 n1 n2 : Nat} {h0 h1 h2 : Hp} (f : LF o0 n0 h0 o1 n1 h1) (g : LF o1 n1 h1 o2 n2 h2) : LF o0 n0 h0 o2 n2 h2 := ⟨Nat.le_trans f.le g.le, fun a o h1 h2 h3 h4 => by
 have k := f.keep a o h1 h2 h3 h4
 exact g.keep a o (ltl h1 f.le) k.2 k.1 h4⟩
theorem LF.ag (a : Ag n h n' h') : LF oS n h oS n' h' := ⟨a.le, fun x o h1 h2 h3 _ => ⟨(a.eq x h1).trans h3, h2⟩⟩
theorem LW.ag (W : LW T1 T2 N L B DS DR oS h n) (a : Ag n h n' h') : LW T1 T2 N L B DS DR oS h' n' :=
 ⟨W.sy.ag a, W.rs.ag a, by rw [a.eq _ W.dl]; exact W.ds, ltl W.dl a.le, W.dS, W.dR, W.dd, fun x hx => ltl (W.bd x hx) a.le⟩
theorem LW.str (W : LW T1 T2 N L B DS DR oS h n) {l : Str → Option V} {st' : S} (Y : SY T1' L' (ext oS n) st') (F : Fr oS ⟨h, n, l⟩ st') (hL : ∀ k, L' (.A k) = L (.A k)) : ∃ oS', LW T1' T2 N L' B DS DR oS' st'.heap st'.next ∧ LF oS n h oS' st'.next st'.heap := by
 obtain ⟨Q, y1, y2⟩ := Y.ss
 have nw : ∀ a, a < n → ¬ oS a → ¬ (ext oS n a ∧ a < st'.next) := fun a ha ho q => q.1.elim ho fun z => absurd ha (Nat.not_lt.mpr z)
 have hd : st'.heap DS = h DS := F.heap DS W.dl W.dS
 refine ⟨fun a => ext oS n a ∧ a < st'.next, ⟨⟨Q, y1.below, y2⟩, ?_, ?_, ltl W.dl F.le, nw _ W.dl W.dS, nw _ W.rs.lt W.dR, W.dd, fun a ha => ha.2⟩, F.le, fun a o h1 h2 h3 _ => ⟨(F.heap a h1 h2).trans h3, nw a h1 h2⟩⟩
 ·have R0 : RS T2 B DR (fun a => ¬ oS a ∧ a < n) h n := ⟨W.rs.dr, fun k hk => by
   obtain ⟨b, R⟩ := W.rs.row k hk
   exact ⟨b, R.d, R.l, R.lt, R.ow, R.lt⟩, fun k hk => ⟨(W.rs.at_ k hk).1, (W.rs.at_ k hk).2, (W.rs.at_ k hk).1⟩, W.rs.inj, W.rs.lt⟩
  exact R0.grow (fun a h1 h2 => F.heap a h1 h2.1) (F.heap _ W.rs.lt W.dR) F.le fun a ha => nw a ha.2 ha.1
 ·rw [hd]
  obtain ⟨ver, e⟩ := W.ds
  exact ⟨ver, by rw [e]; congr 2; exact List.map_congr_left fun k _ => by rw [hL]⟩
theorem SY.rf {T : Tab} {l l' : Str → Option V} (H : SY T L oS ⟨h, n, l⟩) (f : RF n h n' h') : SY T L oS ⟨h', n', l'⟩ := by
 obtain ⟨Q, h1, h2⟩ := H.ss
 refine ⟨Q, ⟨fun r hr => ?_, fun r hr => ⟨ltl (h1.at_ r hr).1 f.le, (h1.at_ r hr).2⟩, h1.inj, h1.srt, h1.few⟩, h2⟩
 have c := h1.cc r hr
 have a := (h1.at_ r hr).1
 cases r with
 | A k => exact f.st _ _ a c fun _ q => (by contradiction)
 | ch k => exact f.st _ _ a c fun _ q => (by contradiction)
 | cq k =>
  obtain ⟨xs, x1, x2, x3⟩ := c
  exact ⟨xs, f.st _ _ a x1 (fun _ q => ((by contradiction))), x2.mono2 (fun x hx v hv => f.st _ _ (x3 x hx).1 hv fun _ q => (by contradiction)), fun x hx => ⟨ltl (x3 x hx).1 f.le, (x3 x hx).2⟩⟩
theorem LW.row (W : LW T1 T2 N L B DS DR oS h n) (R : RS T2' B DR (ext (fun a => ¬ oS a) n) h' n') (f : RF n h n' h') : LW T1 T2' N L B DS DR oS h' n' ∧ LF oS n h oS n' h' := by
 refine ⟨⟨W.sy.rf f, R.grow (fun _ _ _ => rfl) rfl (Nat.le_refl _) fun a ha => ha.elim (fun q => q) fun q z => absurd (W.bd a z) (Nat.not_lt.mpr q), ?_, ltl W.dl f.le, W.dS, W.dR, W.dd, fun a ha => ltl (W.bd a ha) f.le⟩, f.le, fun a o h1 h2 h3 h4 => ⟨f.st a o h1 h3 fun es q => ?_, h2⟩⟩
 ·obtain ⟨ver, e⟩ := W.ds
  exact ⟨ver, f.st _ _ W.dl e fun _ q => (by contradiction)⟩
 ·rw [q] at h4; exact zF h4
theorem LW.inst (W : LW T1 T2 N L B DS DR oS h n) {k : Int} (hk : k ∈ T1.nums) (hn : T1'.nums = T1.nums) (hkid : T1'.kids = T1.kids) (hs : ∀ j, j ≠ k → sfs T1' L j = sfs T1 L j) (hl : T1'.lev = T1.lev) {fs : List (Str × V)} (hf : fs = sfs T1' L k) : LW T1' T2 N L B DS DR oS (upd h (L (.A k)) (.inst fs)) n ∧ LF oS n h oS n (upd h (L (.A k)) (.inst fs)) := by
 obtain ⟨Q, y1, y2⟩ := W.sy.ss
 have oA := (y1.at_ (.A k) hk)
 have ne : ∀ a, ¬ oS a → a ≠ L (.A k) := fun a ha q => ha (q ▸ oA.2)
 refine ⟨⟨⟨Q, y1.inst hk hn hkid hs hf, fun j hj => ?_⟩, W.rs.grow (fun a _ ha => uO (ne a ha)) (uO (ne _ W.dR)) (Nat.le_refl _) fun _ q => q, by rw [uO (ne _ W.dS)]; exact W.ds, W.dl, W.dS, W.dR, W.dd, W.bd⟩, Nat.le_refl _, fun a o h1 h2 h3 _ => ⟨(uO (ne a h2)).trans h3, h2⟩⟩
 unfold Syn
 rw [hkid, hl]
 exact y2 j (hn ▸ hj)
end
structure LS (T : Tab) (rk : Int → Nat) (came : Nat) (L : Rl → Nat) (B : Int → Nat) (DS DR NL cl : Nat) (ns : List Int) (oS : Nat → Prop) (s : S) : Prop where
 lw : LW T T T.nums L B DS DR oS s.heap s.next
 wx : WX T rk came none
 l1 : s.loc "streams" = some (.ref DS)
 l2 : s.loc "rows" = some (.ref DR)
 l3 : s.loc "came" = some (.int came)
 l4 : s.loc "numbers" = some (.ref NL)
 nl : s.heap NL = some (.list (ns.map .int)) ∧ NL < s.next ∧ ¬ oS NL
 ce : ∃ v, s.heap cl = some (.cell v) ∧ cl < s.next ∧ ¬ oS cl
noncomputable def LQ (DS DR NL cl : Nat) (ns : List Int) (k : Nat) (s : S) : Prop := ∃ T rk came L B oS, came ≤ k ∧ LS T rk came L B DS DR NL cl ns oS s
noncomputable abbrev evL (cl : Nat) : AEnv := { names := g_law.scope.names, cells := [("inside", cl)], hd := false }
structure LD (T1 T2 : Tab) (N : List Int) (L : Rl → Nat) (B : Int → Nat) (DS DR NL cl PL : Nat) (ns pl : List Int) (num : Int) (oS : Nat → Prop) (s : S) : Prop where
 lw : LW T1 T2 N L B DS DR oS s.heap s.next
 l1 : s.loc "streams" = some (.ref DS)
 l2 : s.loc "rows" = some (.ref DR)
 l4 : s.loc "numbers" = some (.ref NL)
 l5 : s.loc "part" = some (.ref PL)
 l6 : s.loc "number" = some (.int num)
 nl : s.heap NL = some (.list (ns.map .int)) ∧ NL < s.next ∧ ¬ oS NL
 ce : ∃ v, s.heap cl = some (.cell v) ∧ cl < s.next ∧ ¬ oS cl
 pl : s.heap PL = some (.list (pl.map .int)) ∧ PL < s.next ∧ ¬ oS PL
section
variable {T1 T2 T1' T2' : Tab} {N N' : List Int} {L L' : Rl → Nat} {B B' : Int → Nat} {DS DR NL cl PL : Nat} {ns pl : List Int} {num : Int} {oS oS' : Nat → Prop} {s s' : S}
theorem LD.on (D : LD T1 T2 N L B DS DR NL cl PL ns pl num oS s) (W : LW T1' T2' N' L' B' DS DR oS' s'.heap s'.next) (F : LF oS s.next s.heap oS' s'.next s'.heap) (hl : s'.loc = s.loc) : LD T1' T2' N' L' B' DS DR NL cl PL ns pl num oS' s' := by
 obtain ⟨v, c1, c2, c3⟩ := D.ce
 have kn := F.keep _ _ D.nl.2.1 D.nl.2.2 D.nl.1 rfl
 have kp := F.keep _ _ D.pl.2.1 D.pl.2.2 D.pl.1 rfl
 have kc := F.keep _ _ c2 c3 c1 rfl
 exact ⟨W, by rw [hl]; exact D.l1, by rw [hl]; exact D.l2, by rw [hl]; exact D.l4, by rw [hl]; exact D.l5, by rw [hl]; exact D.l6, ⟨kn.1, ltl D.nl.2.1 F.le, kn.2⟩, ⟨v, kc.1, ltl c2 F.le, kc.2⟩, ⟨kp.1, ltl D.pl.2.1 F.le, kp.2⟩⟩
theorem LD.set {h : Hp} {n : Nat} {l : Str → Option V} (D : LD T1 T2 N L B DS DR NL cl PL ns pl num oS ⟨h, n, l⟩) {x : Str} {v : V} (hx : x ∉ (["streams", "rows", "numbers", "part", "number"] : List Str)) : LD T1 T2 N L B DS DR NL cl PL ns pl num oS ⟨h, n, updL l x v⟩ := by
 have ne : ∀ y ∈ (["streams", "rows", "numbers", "part", "number"] : List Str), y ≠ x := fun y hy q => hx (q ▸ hy)
 exact ⟨D.lw, (Lo (ne _ (by decide))).trans D.l1, (Lo (ne _ (by decide))).trans D.l2, (Lo (ne _ (by decide))).trans D.l4, (Lo (ne _ (by decide))).trans D.l5, (Lo (ne _ (by decide))).trans D.l6, D.nl, D.ce, D.pl⟩
variable {m : Nat} {h : Hp} {n : Nat} {l : Str → Option V} (D : LD T1 T2 N L B DS DR NL cl PL ns pl num oS ⟨h, n, l⟩)
include D
theorem LD.nrows {pp : Pos} : denE pi01 (phi pi01 m) (evL cl) (.Name "rows" pp) ⟨h, n, l⟩ = .ok (.ref DR) ⟨h, n, l⟩ := bN (by decide) (nm (by decide)) D.l2
theorem LD.nnum {pp : Pos} : denE pi01 (phi pi01 m) (evL cl) (.Name "number" pp) ⟨h, n, l⟩ = .ok (.int num) ⟨h, n, l⟩ := bN (by decide) (nm (by decide)) D.l6
theorem LD.str {k : Int} (hk : k ∈ N) {ke : Expr} {p q : Pos} (h2 : denE pi01 (phi pi01 m) (evL cl) ke ⟨h, n, l⟩ = .ok (.int k) ⟨h, n, l⟩) (hs : stepless ke = true) (hix : ∀ (mm : M V) (w : V), denIx pi01 (phi pi01 m) (evL cl) ke mm w = (mm >>= fun x => subV w x)) : denE pi01 (phi pi01 m) (evL cl) (.Subscript (.Name "streams" q) ke p) ⟨h, n, l⟩ = .ok (.ref (L (.A k))) ⟨h, n, l⟩ := by
 obtain ⟨ver, e⟩ := D.lw.ds
 exact b_item hs hix (bN (by decide) (nm (by decide)) D.l1) h2 e (su_dI (getF_map (α := Int) hk))
theorem LD.part {i : Nat} {v : Int} (hv : pl[i]? = some v) (hi : i < 1000) {p q r : Pos} {kk : Nat} : denE pi01 (phi pi01 m) (evL cl) (.Subscript (.Name "part" q) (.Constant (.int (i : Int)) kk r) p) ⟨h, n, l⟩ = .ok (.int v) ⟨h, n, l⟩ :=
 b_item rfl (fun _ _ => rfl) (bN (by decide) (nm (by decide)) D.l5) bI D.pl.1 (su_list hi (by rw [List.getElem?_map, hv]; rfl))
theorem LD.inst {k : Int} (hk : k ∈ T1.nums) : h (L (.A k)) = some (.inst (sfs T1 L k)) := by
 obtain ⟨Q, h1, h2⟩ := D.lw.sy.ss
 exact h1.cc (.A k) hk
end
end
section
section
variable {T : Tab} {rk : Int → Nat} {came : Nat} {N : List Int} {L : Rl → Nat} {B : Int → Nat} {DS DR NL cl PL : Nat} {ns pl : List Int} {num k : Int} {oS : Nat → Prop} {h : Hp} {n : Nat} {l : Str → Option V}
theorem WX.few40 {x : Option Int} (W : WX T rk came x) : ∀ k ∈ T.nums, (T.kids k).length ≤ 40 := fun k hk => Nat.le_trans (W.kids hk) (by decide)
theorem ts_run (W : LW T T N L B DS DR oS h n) (X : WX T rk came none) (hk : k ∈ T.nums) {se re ke : Expr} {f1 f2 p1 p2 p3 : Pos} {m : M V} (hs : denE pi01 (phi pi01 22) (evL cl) se ⟨h, n, l⟩ = .ok (.ref (L (.A k))) ⟨h, n, l⟩) (hr : ∀ h n, denE pi01 (phi pi01 22) (evL cl) re ⟨h, n, l⟩ = .ok (.ref DR) ⟨h, n, l⟩) (hke : ∀ h n, denE pi01 (phi pi01 22) (evL cl) ke ⟨h, n, l⟩ = .ok (.int k) ⟨h, n, l⟩) (n1 : noStars [se] = true) (n2 : noStars [re, ke] = true) :
  ∃ oS' h' n', denT pi01 (phi pi01 22) (evL cl) (.Compare (.Call (.Name "_law_told" f1) [se] [] p1) [.NotEq] [.Call (.Name "_law_served" f2) [re, ke] [] p2] p3) m ⟨h, n, l⟩ = .ok false ⟨h', n', l⟩ ∧ LW (T.after 16 k) (T.after 16 k) N L B DS DR oS' h' n' ∧ LF oS n h oS' n' h' := by
 obtain ⟨s1, r1, y1, f1'⟩ := told_spec (n := 16) (L := L) (own := oS) (st := ⟨h, n, l⟩) X.tr (htOf_kid X) (W.sy.ag (l' := l) .refl) hk (htOf_lt X k)
 obtain ⟨oS', W1, F1⟩ := W.str y1 f1' fun _ => rfl
 obtain ⟨h2, n2', r2, y2, f2'⟩ := served_spec (m := 4) (n := 16) (st := s1) X.tr (htOf_kid X) X.few40 W1.rs hk (htOf_lt X k)
 obtain ⟨W2, F2⟩ := W1.row y2 f2'
 have el : s1.loc = l := f1'.loc
 have es : s1 = ⟨s1.heap, s1.next, l⟩ := by rw [← el]
 rw [el] at r2
 have hr1 : denE pi01 (phi pi01 22) (evL cl) re s1 = .ok (.ref DR) s1 := by rw [es]; exact hr _ _
 have hk1 : denE pi01 (phi pi01 22) (evL cl) ke s1 = .ok (.int k) s1 := by rw [es]; exact hke _ _
 exact ⟨oS', h2, n2', tC (bK (gO (nm (by decide))) n1 (by decide) (by decide) (bC hs bE) r1) (bK (gO (nm (by decide))) n2 (by decide) (by decide) (bC hr1 (bC hk1 bE)) r2) ne_same, W2, F1.trans F2⟩
theorem LD.done {s : S} {k : Nat} {came' : Nat} (D : LD T T T.nums L B DS DR NL cl PL ns pl num oS s) (X : WX T rk came' none) (l3 : s.loc "came" = some (.int came')) (hc : came' ≤ k) : LQ DS DR NL cl ns k s :=
 ⟨T, rk, came', L, B, oS, hc, D.lw, X, D.l1, D.l2, l3, D.l4, D.nl, D.ce⟩
theorem LD.doneN {s : S} {k : Nat} {came' : Nat} (D : LD T T N L B DS DR NL cl PL ns pl num oS s) (hN : T.nums = N) (X : WX T rk came' none) (l3 : s.loc "came" = some (.int came')) (hc : came' ≤ k) : LQ DS DR NL cl ns k s := by
 subst hN
 exact D.done X l3 hc
noncomputable def lawF : Stmt := g_law.body.getD 6 (.Pass default)
noncomputable def deeds : Stmt := (whileB lawF).getD 4 (.Pass default)
noncomputable def elseOf (s : Stmt) : Stmt := ((parts s).2.2).getD 0 (.Pass default)
noncomputable def LP (DS DR NL cl : Nat) (ns : List Int) (k : Nat) (f : Mine.Flow) (s : S) : Prop := f = .next ∧ LQ DS DR NL cl ns k s
theorem deed_turn {K : Nat} {kd : Int} (D : LD T T T.nums L B DS DR NL cl PL ns pl num oS ⟨h, n, l⟩) (X : WX T rk came none) (l3 : l "came" = some (.int came)) (hc : came ≤ K) (lk : l "kind" = some (.int kd)) (hnum : num ∈ T.nums) :
  Wp (denSs pi01 (phi pi01 22) (evL cl) (whileB (elseOf deeds))) ⟨h, n, l⟩ (LP DS DR NL cl ns K) := by
 have a1 : ∃ k ∈ T.nums, denS pi01 (phi pi01 22) (evL cl) ((whileB (elseOf deeds)).getD 0 (.Pass default)) ⟨h, n, l⟩ = .ok .next ⟨h, n, updL l "number" (.int k)⟩ := by
  by_cases e : kd = 1
  ·have eb : (kd == 1) = true := by rw [e]; rfl
   have e0 : denE pi01 (phi pi01 22) (evL cl) (whileT ((whileB (elseOf deeds)).getD 0 (.Pass default))) ⟨h, n, l⟩ = .ok (.int 0) ⟨h, n, l⟩ := by
    refine b_ifexpT (tC (bN (by decide) (nm (by decide)) lk) bI (b_cmpEq.trans ?_)) bI
    rw [eb]
   exact ⟨0, X.zr, sA rfl e0 (aN (nm (by decide)))⟩
  ·have eb : (kd == 1) = false := beq_eq_false_iff_ne.mpr e
   refine ⟨num, hnum, sA rfl (b_ifexpF (tC (bN (by decide) (nm (by decide)) lk) bI (b_cmpEq.trans ?_)) D.nnum) (aN (nm (by decide)))⟩
   rw [eb]
 obtain ⟨k, hk, a1⟩ := a1
 have D1 : LD T T T.nums L B DS DR NL cl PL ns pl k oS ⟨h, n, updL l "number" (.int k)⟩ := ⟨D.lw, (cO (by decide)).trans D.l1, (cO (by decide)).trans D.l2, (cO (by decide)).trans D.l4, (cO (by decide)).trans D.l5, cS, D.nl, D.ce, D.pl⟩
 obtain ⟨oS', h', n', r, W, F⟩ := ts_run (cl := cl) (l := updL l "number" (.int k)) (m := denE pi01 (phi pi01 22) (evL cl) (whileT ((whileB (elseOf deeds)).getD 1 (.Pass default)))) D1.lw X hk (D1.str hk D1.nnum rfl fun _ _ => rfl) (fun _ _ => bN (by decide) (nm (by decide)) D1.l2) (fun _ _ => bN (by decide) (nm (by decide)) D1.l6) rfl rfl
 have en : (T.after 16 k).nums = T.nums := by
  unfold Tab.after
  by_cases q : T.able k = true
  ·rw [if_pos q]
  ·rw [if_neg q]; rfl
 rw [← en] at W
 exact Wp_of (a := Mine.Flow.next) (sC a1 (sC (s_ifF r sN) sN)) ⟨rfl, (D1.on (s' := ⟨h', n', updL l "number" (.int k)⟩) W F rfl).done (X.after 16 k) ((cO (by decide)).trans l3) hc⟩
end
end
section
theorem RS.setAble {T : Tab} {B : Int → Nat} {DR : Nat} {own : Nat → Prop} {h : Hp} {nx : Nat} (H : RS T B DR own h nx) {k : Int} (hk : k ∈ T.nums) (v : Bool) : ∃ h', SetTo h nx (B k) "able" (.bool v) h' ∧ RS { T with able := fset T.able k v } B DR own h' nx ∧ RF nx h nx h' :=
 H.set hk "able" (.bool v) rfl (fun b => by
  show _ = [_, _, ((_ : Str), V.bool (fset T.able k v k)), _, _, _, _, _]
  rw [fS]; rfl) rfl fun j hj b => by
  show [_, _, ((_ : Str), V.bool (fset T.able k v j)), _, _, _, _, _] = _
  rw [fO hj]; rfl
theorem RS.setWt {T : Tab} {B : Int → Nat} {DR : Nat} {own : Nat → Prop} {h : Hp} {nx : Nat} (H : RS T B DR own h nx) {k : Int} (hk : k ∈ T.nums) (v : Int) : ∃ h', SetTo h nx (B k) "weight" (.int v) h' ∧ RS { T with w := fset T.w k v } B DR own h' nx ∧ RF nx h nx h' :=
 H.set hk "weight" (.int v) rfl (fun b => by
  show _ = [_, ((_ : Str), V.int (fset T.w k v k)), _, _, _, _, _, _]
  rw [fS]; rfl) rfl fun j hj b => by
  show [_, ((_ : Str), V.int (fset T.w k v j)), _, _, _, _, _, _] = _
  rw [fO hj]; rfl
theorem b_chain {P : PI} {Φ : Phi} {ev : AEnv} {st : S} {l r q : Expr} {op op' : CmpOp} {p : Pos} {a b d : V} {c c' : Bool} (h1 : denE P Φ ev l st = .ok a st) (h2 : denE P Φ ev r st = .ok b st) (h3 : compareV P Φ ev.hd op a b st = .ok (.bool c) st) (h4 : denE P Φ ev q st = .ok d st) (h5 : compareV P Φ ev.hd op' b d st = .ok (.bool c') st) :
  denE P Φ ev (.Compare l [op, op'] [r, q] p) st = .ok (.bool (c && c')) st := bS h1 (bS h2 (bS h3 (by cases c with | true => exact bS h4 h5 | false => rfl)))
theorem RS.wide {T : Tab} {B : Int → Nat} {DR : Nat} {own : Nat → Prop} {h : Hp} {nx m : Nat} (H : RS T B DR own h nx) : RS T B DR (ext own m) h nx := H.grow (fun _ _ _ => rfl) rfl (Nat.le_refl _) fun _ q => .inl q
section
variable {T T1 T2 : Tab} {rk : Int → Nat} {came : Nat} {N : List Int} {L : Rl → Nat} {B : Int → Nat} {DS DR NL cl PL : Nat} {ns pl : List Int} {num k : Int} {oS : Nat → Prop} {h : Hp} {n : Nat} {l : Str → Option V}
theorem LD.look {m : Nat} (D : LD T1 T2 N L B DS DR NL cl PL ns pl num oS ⟨h, n, l⟩) (hk : num ∈ T2.nums) {p1 p2 p3 : Pos} : denE pi01 (phi pi01 m) (evL cl) (.Subscript (.Name "rows" p1) (.Name "number" p2) p3) ⟨h, n, l⟩ = .ok (.ref (B num)) ⟨h, n, l⟩ := D.lw.rs.look hk D.nrows D.nnum rfl fun _ _ => rfl
noncomputable def deed4 : Stmt := elseOf (elseOf deeds)
noncomputable def deed5 : Stmt := elseOf deed4
noncomputable def deed6 : Stmt := elseOf deed5
theorem deed_mark {K : Nat} (D : LD T T T.nums L B DS DR NL cl PL ns pl num oS ⟨h, n, l⟩) (X : WX T rk came none) (l3 : l "came" = some (.int came)) (hc : came ≤ K) (hnum : num ∈ T.nums) : Wp (denSs pi01 (phi pi01 22) (evL cl) (whileB deed6)) ⟨h, n, l⟩ (LP DS DR NL cl ns K) := by
 obtain ⟨h1, r1, R1, F1⟩ := D.lw.rs.setAble hnum (!T.able num)
 obtain ⟨W1, G1⟩ := D.lw.row R1.wide F1
 have D1 := D.on (s' := ⟨h1, n, l⟩) W1 G1 rfl
 obtain ⟨W2, G2⟩ := W1.inst (T1' := { T with able := fset T.able num (!T.able num) }) (k := num) (fs := putR "active" (.bool (!T.able num)) (sfs T L num)) hnum rfl rfl (fun j hj => by
  show sf j _ _ _ _ (fset T.able num (!T.able num) j) _ _ = _
  rw [fO hj]; rfl) rfl (by
  show _ = sf num _ _ _ _ (fset T.able num (!T.able num) num) _ _
  rw [fS]; rfl)
 have D2 := D1.on (s' := ⟨_, n, l⟩) W2 G2 rfl
 have X' : WX { T with able := fset T.able num (!T.able num) } rk came none := X.same rfl rfl rfl X.tr.wt
 refine Wp_of (a := Mine.Flow.next) (sC (sA rfl (b_not (D.lw.rs.fld hnum (D.look hnum) (v := .bool (T.able num)) fun _ => rfl)) (r1 (D.look hnum))) (sC (sA rfl (D1.lw.rs.fld hnum (D1.look hnum) (v := .bool (!T.able num)) fun _ => ?_) (a_attr (D1.str hnum D1.nnum rfl fun _ _ => rfl) (D1.inst hnum) (by decide) ⟨by decide, by show (8 : Nat) < 100; decide⟩)) sN)) ⟨rfl, D2.done X' l3 hc⟩
 show some (V.bool (fset T.able num (!T.able num) num)) = _
 rw [fS]
theorem ne_bool {P : PI} {Φ : Phi} {hd : Bool} {b : Bool} {st : S} : compareV P Φ hd .NotEq (.bool b) (.bool b) st = .ok (.bool false) st := ne_data rfl rfl rfl rfl rfl rfl
theorem fmod_nat {x : Int} {y : Nat} (hy : 0 < y) : ∃ j : Nat, Int.fmod x y = j ∧ j < y := by
 have h1 := Int.fmod_nonneg_of_pos x (show (0 : Int) < y by lia)
 have h2 := Int.fmod_lt_of_pos x (show (0 : Int) < y by lia)
 exact ⟨(Int.fmod x y).toNat, (Int.toNat_of_nonneg h1).symm, by lia⟩
noncomputable def deed7 : List Stmt := (parts deed6).2.2
theorem rest_pick {j : Nat} (hj : j < 4) {hp : Hp} {n : Nat} (hn : hp n = some (.tup [.int 16])) : ∃ v, [V.str "16", .none, .ref n, .bytes [49, 54]][j]? = some v ∧ isIntV v = false ∧ notIntV hp v = true := by
 rcases j with _ | _ | _ | _ | j
 ·exact ⟨_, rfl, rfl, rfl⟩
 ·exact ⟨_, rfl, rfl, rfl⟩
 ·refine ⟨_, rfl, rfl, ?_⟩
  show (tupAt hp n).isSome = true
  unfold tupAt
  rw [hn]; rfl
 ·exact ⟨_, rfl, rfl, rfl⟩
 ·exact absurd hj (Nat.not_lt.mpr (Nat.le_add_left 4 j))
theorem deed_rest {K : Nat} {a : Int} (D : LD T T T.nums L B DS DR NL cl PL ns pl num oS ⟨h, n, l⟩) (X : WX T rk came none) (l3 : l "came" = some (.int came)) (hc : came ≤ K) (hnum : num ∈ T.nums) (ha : pl[0]? = some a) : Wp (denSs pi01 (phi pi01 22) (evL cl) (deed7.drop 3)) ⟨h, n, l⟩ (LP DS DR NL cl ns K) := by
 obtain ⟨j, hj, hj4⟩ := fmod_nat (x := Int.fdiv a 8) (y := 4) (by decide)
 have hj : Int.fmod (Int.fdiv a 8) 4 = j := hj
 have A2 : Ag n h (n + 2) (upd (upd h n (.tup [.int 16])) (n + 1) (.list [.str "16", .none, .ref n, .bytes [49, 54]])) := Ag.new.trans .new
 have D2 := D.on (s' := ⟨upd (upd h n (.tup [.int 16])) (n + 1) (.list [.str "16", .none, .ref n, .bytes [49, 54]]), n + 2, l⟩) (D.lw.ag A2) (.ag A2) rfl
 have hv : ∃ v, [V.str "16", .none, .ref n, .bytes [49, 54]][j]? = some v ∧ isIntV v = false ∧ notIntV (upd (upd h n (.tup [.int 16])) (n + 1) (.list [.str "16", .none, .ref n, .bytes [49, 54]])) v = true := by
  exact rest_pick hj4 ((uO (Nat.ne_of_lt (Nat.lt_succ_self _))).trans (uS _ _ _))
 obtain ⟨v, v1, v2, v3⟩ := hv
 have r1 := refused_no (n := 20) (v := v) (st := ⟨upd (upd h n (.tup [.int 16])) (n + 1) (.list [.str "16", .none, .ref n, .bytes [49, 54]]), n + 2, l⟩) (D2.inst hnum) fun l' => setW_no (st := ⟨upd (upd h n (.tup [.int 16])) (n + 1) (.list [.str "16", .none, .ref n, .bytes [49, 54]]), n + 2, l'⟩) ⟨v2, v3⟩
 obtain ⟨h3, n3, r3, A3⟩ := stranger_spec (n := 16) (b := Int.fmod (Int.fdiv a 8) 2 == 0) (st := ⟨upd (upd h n (.tup [.int 16])) (n + 1) (.list [.str "16", .none, .ref n, .bytes [49, 54]]), n + 2, l⟩) (D2.lw.sy.ag .refl) hnum (fun q => by
  rcases X.cm 99 (X.tr.kid num hnum 99 q).1 with z | z
  ·contradiction
  ·exact absurd (List.mem_of_mem_take z) (by decide)) (fun o ho => (X.tr.kid num hnum o ho).1) (X.tr.nd num hnum)
 have D3 := D2.on (s' := ⟨h3, n3, l⟩) (D2.lw.ag A3) (.ag A3) rfl
 refine Wp_of (a := Mine.Flow.next) (sC (s_ifF (t_not (b := true) (t_call (bK (gO (nm (by decide))) rfl (by decide) (by decide) (bC (D.str hnum D.nnum rfl fun _ _ => rfl) (bC (b_item rfl (fun _ _ => rfl) (b_list rfl (bC b_str (bC b_none (bC (b_tuple rfl (bC bI bE)) (bC b_bytes bE))))) (bB (bB (D2.part (i := 0) ha (by decide)) bI (b_fdiv ⟨by decide, by decide⟩)) bI (b_mod (by decide))) (uS _ _ _) ?_) bE)) r1))) sN)
  (sC (s_ifF (t_not (b := true) (t_call (bK (gO (nm (by decide))) rfl (by decide) (by decide) (bC (D2.str hnum D2.nnum rfl fun _ _ => rfl) (bC (b_cmp (bB (bB (D2.part (i := 0) ha (by decide)) bI (b_fdiv ⟨by decide, by decide⟩)) bI (b_mod (by decide))) bI b_cmpEq) bE)) r3))) sN) sN)) ⟨rfl, D3.done X l3 hc⟩
 rw [hj]
 exact su_list (ltl hj4 (by decide)) v1
theorem deed_weight {K : Nat} {a c : Int} (D : LD T T T.nums L B DS DR NL cl PL ns pl num oS ⟨h, n, l⟩) (X : WX T rk came none) (l3 : l "came" = some (.int came)) (hc : came ≤ K) (hnum : num ∈ T.nums) (ha : pl[0]? = some a) (hc2 : pl[2]? = some c) : Wp (denSs pi01 (phi pi01 22) (evL cl) deed7) ⟨h, n, l⟩ (LP DS DR NL cl ns K) := by
 have s0 : denS pi01 (phi pi01 22) (evL cl) (deed7.getD 0 (.Pass default)) ⟨h, n, l⟩ = .ok .next ⟨h, n, updL l "weight" (.int (Int.fmod (c + 17) 260 - 1))⟩ := sA rfl (bB (bB (bB (D.part (i := 2) hc2 (by decide)) bI b_add) bI (b_mod (by decide))) bI b_sub) (aN (nm (by decide)))
 have D1 := D.set (x := "weight") (v := .int (Int.fmod (c + 17) 260 - 1)) (by decide)
 have l3' : updL l "weight" (.int (Int.fmod (c + 17) 260 - 1)) "came" = some (.int came) := (Lo (by decide)).trans l3
 have lw : updL l "weight" (.int (Int.fmod (c + 17) 260 - 1)) "weight" = some (.int (Int.fmod (c + 17) 260 - 1)) := lS
 generalize updL l "weight" (.int (Int.fmod (c + 17) 260 - 1)) = l1 at *
 generalize Int.fmod (c + 17) 260 - 1 = w at *
 have nw : ∀ {h : Hp} {n : Nat} {pp : Pos}, denE pi01 (phi pi01 22) (evL cl) (.Name "weight" pp) ⟨h, n, l1⟩ = .ok (.int w) ⟨h, n, l1⟩ := bN (by decide) (nm (by decide)) lw
 have eb : ∀ b, b = !(decide (1 ≤ w) && decide (w ≤ 256)) → ∀ {st : S}, compareV pi01 (phi pi01 22) false .NotEq (.bool b) (.bool !(decide (1 ≤ w) && decide (w ≤ 256))) st = .ok (.bool false) st := fun b e st => by rw [e]; exact ne_bool
 have a0 := D1.inst hnum
 by_cases hw : 1 ≤ w ∧ w ≤ 256
 ·have e1 : decide (1 ≤ w) = true := decide_eq_true hw.1
  have e2 : decide (w ≤ 256) = true := decide_eq_true hw.2
  obtain ⟨W1, G1⟩ := D1.lw.inst (T1' := { T with w := fset T.w num w }) (k := num) (fs := putR "_weight" (.int w) (sfs T L num)) hnum rfl rfl (fun j hj => by
   show sf j (fset T.w num w j) _ _ _ _ _ _ = _
   rw [fO hj]; rfl) rfl (by
   show _ = sf num (fset T.w num w num) _ _ _ _ _ _
   rw [fS]; rfl)
  have D2 := D1.on (s' := ⟨upd h (L (.A num)) (.inst (putR "_weight" (.int w) (sfs T L num))), n, l1⟩) W1 G1 rfl
  obtain ⟨h3, r3, R3, F3⟩ := D2.lw.rs.setWt hnum w
  obtain ⟨W3, G3⟩ := D2.lw.row R3.wide F3
  have D3 := D2.on (s' := ⟨h3, n, l1⟩) W3 G3 rfl
  have X' : WX { T with w := fset T.w num w } rk came none := X.same rfl rfl rfl fun k hk => by
   show 1 ≤ fset T.w num w k ∧ fset T.w num w k ≤ 256
   unfold fset
   by_cases q : k = num
   ·rw [if_pos q]; exact hw
   ·rw [if_neg q]; exact X.tr.wt k hk
  refine Wp_cons s0 (Wp_cons (s_ifF (tC (bK (gO (nm (by decide))) rfl (by decide) (by decide) (bC (D1.str hnum D1.nnum rfl fun _ _ => rfl) (bC nw bE)) (refused_ok (n := 20) (st := ⟨h, n, l1⟩) a0 (by show (8 : Nat) < 100; decide) hw)) (b_not (b_chain bI nw b_cmpLe bI b_cmpLe)) (eb false (by rw [e1, e2]; rfl))) sN) (Wp_cons (s_ifT (t_cmp2 bI nw (b_cmpLe.trans (by rw [e1])) bI (b_cmpLe.trans (by rw [e2]))) (sC (sA rfl nw (r3 (D2.look hnum))) sN)) (deed_rest D3 X' l3' hc hnum ha)))
 ·have eo : (decide (1 ≤ w) && decide (w ≤ 256)) = false := by
   rw [← Bool.decide_and]
   exact decide_eq_false hw
  have t2 : denT pi01 (phi pi01 22) (evL cl) (whileT (deed7.getD 2 (.Pass default))) (denE pi01 (phi pi01 22) (evL cl) (whileT (deed7.getD 2 (.Pass default)))) ⟨h, n, l1⟩ = .ok false ⟨h, n, l1⟩ := by
   by_cases z : 1 ≤ w
   ·have z2 : decide (w ≤ 256) = false := decide_eq_false fun q => hw ⟨z, q⟩
    exact t_cmp2 bI nw (b_cmpLe.trans (by rw [decide_eq_true z])) bI (b_cmpLe.trans (by rw [z2]))
   ·exact t_cmpF bI nw (b_cmpLe.trans (by rw [decide_eq_false z]))
  refine Wp_cons s0 (Wp_cons (s_ifF (tC (bK (gO (nm (by decide))) rfl (by decide) (by decide) (bC (D1.str hnum D1.nnum rfl fun _ _ => rfl) (bC nw bE)) (refused_no (n := 20) (st := ⟨h, n, l1⟩) a0 fun l' => (setW_run (st := ⟨h, n, l'⟩) a0 (by show (8 : Nat) < 100; decide)).2 hw)) (b_not (b_chain bI nw b_cmpLe bI b_cmpLe)) (eb true (by rw [eo]; rfl))) sN) (Wp_cons (s_ifF t2 sN) (deed_rest D1 X l3' hc hnum ha)))
end
end
section
noncomputable def Lnew (L : Rl → Nat) (c : Int) (a : Nat) : Rl → Nat
 | .A k => if k = c then a else L (.A k)
 | .ch k => if k = c then a + 1 else L (.ch k)
 | .cq k => if k = c then a + 2 else L (.cq k)
section
variable {T : Tab} {L : Rl → Nat} {c w : Int} {a : Nat}
theorem Lnew_o {r : Rl} (h : r.key ≠ c) : Lnew L c a r = L r := by
 cases r with
 | A k => exact if_neg h
 | ch k => exact if_neg h
 | cq k => exact if_neg h
theorem Lnew_c : Lnew L c a (.A c) = a ∧ Lnew L c a (.ch c) = a + 1 ∧ Lnew L c a (.cq c) = a + 2 := ⟨if_pos rfl, if_pos rfl, if_pos rfl⟩
theorem Itms.ad {h : Hp} {ad ad' : Int → Nat} : ∀ {xs : List Nat} {ks : List (Int × Int)}, (∀ e ∈ ks, ad' e.2 = ad e.2) → Itms h ad xs ks → Itms h ad' xs ks
 | [], [], _, _ => trivial
 | _ :: _, k :: _, hk, i => ⟨by rw [hk k (.head _)]; exact i.1, Itms.ad (fun e he => hk e (.tail _ he)) i.2⟩
 | [], _ :: _, _, i => i.elim
 | _ :: _, [], _, i => i.elim
theorem SY.fresh {oS : Nat → Prop} {h h' : Hp} {n n' : Nat} {l l' : Str → Option V} (Y : SY T L oS ⟨h, n, l⟩) (hc : c ∉ T.nums) (hpar : ∀ k ∈ T.nums, ∀ p, T.par k = some p → p ∈ T.nums) (hkid : ∀ k ∈ T.nums, ∀ o ∈ T.kids k, o ∈ T.nums) (ag : ∀ b, b < n → oS b → h' b = h b) (ha : n ≤ a) (hn : a + 3 ≤ n')
  (f1 : h' a = some (.inst (sf c w (a + 1) .none (a + 2) true 0 0))) (f2 : h' (a + 1) = some (.list [])) (f3 : h' (a + 2) = some (.list [])) : SY (T.fresh c w) (Lnew L c a) (fun b => oS b ∨ (a ≤ b ∧ b < a + 3)) ⟨h', n', l'⟩ := by
 obtain ⟨Q, H, hs⟩ := (Y.grow (own' := oS) (st' := ⟨h', n', l'⟩) ag (by show n ≤ n'; lia) fun _ q => q).ss
 obtain ⟨Q0, H0, _⟩ := Y.ss
 have ne : ∀ {k}, k ∈ T.nums → k ≠ c := fun hk q => hc (q ▸ hk)
 have mem : ∀ {k}, k ∈ T.nums ++ [c] → k ∈ T.nums ∨ k = c := fun h => (List.mem_append.mp h).imp_right smp
 have lo : ∀ {r : Rl}, r.key ∈ T.nums → Lnew L c a r = L r := fun h => Lnew_o (ne h)
 obtain ⟨c1, c2, c3⟩ := Lnew_c (L := L) (c := c) (a := a)
 have low : ∀ {r : Rl}, r.key ∈ T.nums → L r < n := fun {r} hr => (H0.at_ r hr).1
 have new : ∀ r : Rl, r.key = c → a ≤ Lnew L c a r ∧ Lnew L c a r < a + 3 := fun r hr => by
  cases r with
  | A k => have hr : k = c := hr; rw [hr, c1]; lia
  | ch k => have hr : k = c := hr; rw [hr, c2]; lia
  | cq k => have hr : k = c := hr; rw [hr, c3]; lia
 have hsf : ∀ k ∈ T.nums, sfs (T.fresh c w) (Lnew L c a) k = sfs T L k := fun k hk => by
  have e : parV (Lnew L c a) (T.par k) = parV L (T.par k) := by
   cases hp : T.par k with
   | none => rfl
   | some p => exact congrArg V.ref (lo (r := .A p) (hpar k hk p hp))
  show sf k (fset T.w c w k) (Lnew L c a (.ch k)) (parV (Lnew L c a) (fset T.par c none k)) (Lnew L c a (.cq k)) (fset T.able c true k) (fset T.last c 0 k) (fset T.over c 0 k) = _
  rw [fO (ne hk), fO (ne hk), fO (ne hk), fO (ne hk), fO (ne hk), lo (r := .ch k) hk, lo (r := .cq k) hk, e]
  rfl
 refine ⟨fset Q c [], ⟨fun r hr => ?_, fun r hr => ?_, fun r r' hr hr' e => ?_, fun k hk => ?_, fun k hk => ?_⟩, fun k hk => ?_⟩
 ·rcases mem hr with hr | hr
  ·have C := H.cc r hr
   cases r with
   | A k => have hr : k ∈ T.nums := hr; show h' (Lnew L c a (.A k)) = some (.inst (sfs (T.fresh c w) (Lnew L c a) k)); rw [lo (r := .A k) hr, hsf k hr]; exact C
   | ch k =>
    have hr : k ∈ T.nums := hr
    show h' (Lnew L c a (.ch k)) = some (.list ((fset T.kids c [] k).map fun o => .ref (Lnew L c a (.A o))))
    rw [lo (r := .ch k) hr, fO (ne hr), List.map_congr_left (g := fun o => V.ref (L (.A o))) fun o ho => by rw [lo (r := .A o) (hkid k hr o ho)]]
    exact C
   | cq k =>
    have hr : k ∈ T.nums := hr
    obtain ⟨xs, x1, x2, x3⟩ := C
    refine ⟨xs, ?_, ?_, fun x hx => ⟨(x3 x hx).1, .inl (x3 x hx).2⟩⟩
    ·show h' (Lnew L c a (.cq k)) = _; rw [lo (r := .cq k) hr]; exact x1
    ·rw [fO (ne hr)]
     exact x2.ad fun e he => lo (r := .A e.2) ((H.srt k hr).2.1 e he)
  ·cases r with
   | A k =>
    have hr : k = c := hr
    subst hr
    show h' (Lnew L k a (.A k)) = some (.inst (sf k (fset T.w k w k) (Lnew L k a (.ch k)) (parV (Lnew L k a) (fset T.par k none k)) (Lnew L k a (.cq k)) (fset T.able k true k) (fset T.last k 0 k) (fset T.over k 0 k)))
    rw [c1, c2, c3, fS, fS, fS, fS, fS]
    exact f1
   | ch k =>
    have hr : k = c := hr
    subst hr
    show h' (Lnew L k a (.ch k)) = some (.list ((fset T.kids k [] k).map _))
    rw [c2, fS]; exact f2
   | cq k =>
    have hr : k = c := hr
    subst hr
    refine ⟨[], ?_, ?_, fun _ h => zL h⟩
    ·show h' (Lnew L k a (.cq k)) = _; rw [c3]; exact f3
    ·rw [fS]; trivial
 ·rcases mem hr with hr | hr
  ·rw [lo hr]
   have := low hr
   exact ⟨by show L r < n'; lia, .inl (H.at_ r hr).2⟩
  ·have := new r hr
   exact ⟨by show _ < n'; lia, .inr this⟩
 ·rcases mem hr with hr | hr <;> rcases mem hr' with hr' | hr'
  ·rw [lo hr, lo hr'] at e
   exact H.inj r r' hr hr' e
  ·rw [lo hr] at e
   have := low hr
   have := new r' hr'
   lia
  ·rw [lo hr'] at e
   have := low hr'
   have := new r hr
   lia
  ·have cas : ∀ r : Rl, r.key = c → r = .A c ∨ r = .ch c ∨ r = .cq c := fun r h => by
    cases r with
    | A k => exact .inl (congrArg Rl.A h)
    | ch k => exact .inr (.inl (congrArg Rl.ch h))
    | cq k => exact .inr (.inr (congrArg Rl.cq h))
   rcases cas r hr with rfl | rfl | rfl <;> rcases cas r' hr' with rfl | rfl | rfl <;> (try rw [c1] at e) <;> (try rw [c2] at e) <;> (try rw [c3] at e) <;> first | rfl | lia
 ·show (fset Q c [] k).Pairwise _ ∧ (∀ e ∈ fset Q c [] k, e.2 ∈ T.nums ++ [c]) ∧ (fset Q c [] k).length ≤ 40
  rcases mem hk with hk | rfl
  ·rw [fO (ne hk)]
   exact ⟨(H.srt k hk).1, fun e he => List.mem_append_left _ ((H.srt k hk).2.1 e he), (H.srt k hk).2.2⟩
  ·rw [fS]
   exact ⟨.nil, (fun _ h => zL h), Nat.zero_le _⟩
 ·show (fset T.kids c [] k).length ≤ 40
  rcases mem hk with hk | rfl
  ·rw [fO (ne hk)]; exact H.few k hk
  ·rw [fS]; exact Nat.zero_le _
 ·show (fset Q c [] k).Perm ((fset T.kids c [] k).map fun o => (fset T.lev c 0 o, o))
  rcases mem hk with hk | rfl
  ·rw [fO (ne hk), fO (ne hk), List.map_congr_left (g := fun o => (T.lev o, o)) fun o ho => by rw [fO (ne (hkid k hk o ho))]]
   exact hs k hk
  ·rw [fS, fS]; exact .refl _
theorem ne_new (hc : c ∉ T.nums) {k : Int} (hk : k ∈ T.nums) : k ≠ c := fun q => hc (q ▸ hk)
theorem RS.fresh {B : Int → Nat} {DR b ver : Nat} {own : Nat → Prop} {h : Hp} {n : Nat} (R : RS T B DR own h n) (hc : c ∉ T.nums) (fd : h a = some (.dictS (rowE (T.fresh c w) c b))) (fl : h b = some (.list [])) (hb : b < n ∧ own b) (ha : a < n ∧ own a) (hna : ∀ k ∈ T.nums, B k ≠ a) (hne : a ≠ DR) :
  RS (T.fresh c w) (fset B c a) DR own (upd h DR (.dictI ((T.nums.map fun k => (k, V.ref (B k))) ++ [(c, .ref a)]) ver)) n where
 dr := by
  refine ⟨ver, (uS _ _ _).trans ?_⟩
  show some (AObj.dictI ((T.nums.map fun k => (k, V.ref (B k))) ++ [(c, .ref a)]) ver) = some (.dictI ((T.nums ++ [c]).map fun k => (k, .ref (fset B c a k))) ver)
  have e : (T.nums.map fun k => (k, V.ref (fset B c a k))) = T.nums.map fun k => (k, V.ref (B k)) := List.map_congr_left fun k hk => by rw [fO (ne_new hc hk)]
  rw [List.map_append, List.map_singleton, fS, e]
 row := fun k hk => by
  rcases (List.mem_append.mp hk).imp_right smp with hk | rfl
  ·obtain ⟨b', r⟩ := R.row k hk
   have ne : k ≠ c := fun q => hc (q ▸ hk)
   have nd : B k ≠ DR := fun q => by obtain ⟨v, e⟩ := R.dr; rw [← q, r.d] at e; nomatch e
   have nl : b' ≠ DR := fun q => by obtain ⟨v, e⟩ := R.dr; rw [← q, r.l] at e; nomatch e
   refine ⟨b', by rw [fO ne, uO nd, r.d]; show _ = some (AObj.dictS [("number", .int k), ("weight", .int (fset T.w c w k)), ("able", .bool (fset T.able c true k)), ("parent", parI (fset T.par c none k)), ("beneath", .ref b'), ("level", .int (fset T.lev c 0 k)), ("over", .int (fset T.over c 0 k)), ("last", .int (fset T.last c 0 k))]); rw [fO ne, fO ne, fO ne, fO ne, fO ne, fO ne]; rfl, ?_, r.lt, r.ow⟩
   show upd h DR _ b' = some (.list ((fset T.kids c [] k).map .int))
   rw [fO ne, uO nl]; exact r.l
  ·have nl : b ≠ DR := fun q => by obtain ⟨v, e⟩ := R.dr; rw [← q, fl] at e; nomatch e
   refine ⟨b, by rw [fS, uO hne]; exact fd, ?_, hb.1, hb.2⟩
   show upd h DR _ b = some (.list ((fset T.kids k [] k).map .int))
   rw [fS, uO nl]; exact fl
 at_ := fun k hk => by
  rcases (List.mem_append.mp hk).imp_right smp with hk | rfl
  ·rw [fO (ne_new hc hk)]; exact R.at_ k hk
  ·rw [fS]; exact ha
 inj := fun k hk j hj e => by
  rcases (List.mem_append.mp hk).imp_right smp with h1 | h1 <;> rcases (List.mem_append.mp hj).imp_right smp with h2 | h2
  ·rw [fO (ne_new hc h1), fO (ne_new hc h2)] at e
   exact R.inj k h1 j h2 e
  ·rw [fO (ne_new hc h1), h2, fS] at e
   exact absurd e (hna k h1)
  ·rw [h1, fS, fO (ne_new hc h2)] at e
   exact absurd e.symm (hna j h2)
  ·rw [h1, h2]
 lt := R.lt
theorem putF_new {f : Int → V} {v : V} {l : List Int} (h : c ∉ l) : putF c v (l.map fun k => (k, f k)) = (l.map fun k => (k, f k)) ++ [(c, v)] := by
 unfold putF
 refine if_neg fun q => ?_
 obtain ⟨p, hp, e⟩ := List.any_eq_true.mp q
 obtain ⟨k, hk, rfl⟩ := List.mem_map.mp hp
 have e : k = c := of_decide_eq_true e
 exact h (e ▸ hk)
end
theorem p_cons {k v : M V} {ks vs : List (M V)} {a b : V} {p : List V × List V} {st s1 s2 s3 : S} (h1 : k st = .ok a s1) (h2 : v s1 = .ok b s2) (h3 : pairsM ks vs s2 = .ok p s3) : pairsM (k :: ks) (v :: vs) st = .ok (a :: p.1, b :: p.2) s3 := bS h1 (bS h2 (bS h3 rfl))
theorem b_dict {P : PI} {Φ : Phi} {ev : AEnv} {ks : List (Option Expr)} {vs : List Expr} {p : Pos} {q : List V × List V} {st s1 : S} {r : R V} (hf : dictForm ks vs = true) (h : pairsM (denEachOpt P Φ ev ks) (denEach P Φ ev vs) st = .ok q s1) (h' : dictM q.1 q.2 s1 = r) : denE P Φ ev (.Dict ks vs p) st = r := b_if hf (bS h h')
theorem names_run {m : Nat} {st : S} : bodyM pi01 (phi pi01 m) false g_names [] st = .ok (.ref st.next) ⟨upd st.heap st.next (.list (lawNames.map .int)), st.next + 1, st.loc⟩ :=
 bO (f := .ret (.ref st.next)) (s' := ⟨upd st.heap st.next (.list (lawNames.map .int)), st.next + 1, fun x => (g_names.params.zip ([] : List V)).lookup x⟩) ⟨rfl, by decide⟩ (sE (s_ret (b_list rfl (bC bI (bC bI (bC bI (bC bI (bC bI (bC bI (bC bI (bC bI (bC bI (bC bI (bC bI (bC bI (bC bI (bC bI bE)))))))))))))))))
theorem row_run {m : Nat} {st : S} {c w : Int} : bodyM pi01 (phi pi01 m) false g_row [.int c, .int w] st = .ok (.ref (st.next + 1)) ⟨upd (upd st.heap st.next (.list [])) (st.next + 1) (.dictS [("number", .int c), ("weight", .int w), ("able", .bool true), ("parent", .none), ("beneath", .ref st.next), ("level", .int 0), ("over", .int 0), ("last", .int 0)]), st.next + 2, st.loc⟩ := by
 refine bO (f := .ret (.ref (st.next + 1))) (s' := ⟨upd (upd st.heap st.next (.list [])) (st.next + 1) (.dictS [("number", .int c), ("weight", .int w), ("able", .bool true), ("parent", .none), ("beneath", .ref st.next), ("level", .int 0), ("over", .int 0), ("last", .int 0)]), st.next + 2, fun x => (g_row.params.zip [V.int c, V.int w]).lookup x⟩) ⟨rfl, by decide⟩ (sE (s_ret ?_))
 exact b_dict rfl (p_cons b_str (bN (by decide) (nm (by decide)) rfl) (p_cons b_str (bN (by decide) (nm (by decide)) rfl) (p_cons b_str b_bool (p_cons b_str b_none (p_cons b_str (b_list rfl bE) (p_cons b_str bI (p_cons b_str bI (p_cons b_str bI rfl)))))))) rfl
end
section
section
variable {T : Tab} {rk : Int → Nat} {came : Nat} {N : List Int} {L : Rl → Nat} {B : Int → Nat} {DS DR NL cl PL : Nat} {ns pl : List Int} {num c t : Int} {I : Int → Prop} {oS : Nat → Prop} {h : Hp} {n : Nat} {l : Str → Option V} {x y : Str} {q1 q2 q3 q4 q5 q6 q7 q8 q9 r1 r2 r3 r4 r5 r6 : Pos} {Q : Mine.Flow → S → Prop}
theorem attach_lay (D : LD T T N L B DS DR NL cl PL ns pl num oS ⟨h, n, l⟩) (X : WX T rk came (some c)) (Sb : Sub T rk c I) (hI : ¬ I t) (ht : t ∈ T.nums) (hN : t ∈ N ∧ c ∈ N) (hlin : (q4.endLine == q8.line) = true) (hx : g_law.scope.names.lookup x = some .local) (hy : g_law.scope.names.lookup y = some .local) (dx : x ≠ "__debug__") (dy : y ≠ "__debug__") (lx : l x = some (.int t)) (ly : l y = some (.int c))
  (hQ : ∀ L' oS' rk' h' n', LD (T.lay t c) (T.lay t c) N L' B DS DR NL cl PL ns pl num oS' ⟨h', n', l⟩ → WX (T.lay t c) rk' came none → Q .next ⟨h', n', l⟩) :
  Wp (denSs pi01 (phi pi01 22) (evL cl) [.Expr (.Call (.Attribute (.Subscript (.Name "streams" q1) (.Name x q2) q3) "add_child" q4) [.Subscript (.Name "streams" q5) (.Name y q6) q7] [] q8) q9, .Expr (.Call (.Name "_law_lay" r1) [.Name "rows" r2, .Name x r3, .Name y r4] [] r5) r6]) ⟨h, n, l⟩ Q := by
 obtain ⟨hc, c0, hlo⟩ := X.lo c rfl
 have htc : t ≠ c := fun q => hI (q ▸ Sb.me)
 have hk := X.kids ht
 obtain ⟨s1, e1, y1, f1⟩ := add_spec (n := 18) (hd := false) (L := L) (own := oS) (st := ⟨h, n, l⟩) (D.lw.sy.ag (l' := l) .refl) ht hc htc hlo (by lia)
 obtain ⟨oS', W1, F1⟩ := D.lw.str y1 f1 fun _ => rfl
 have el : s1.loc = l := f1.loc
 have D1 : LD (T.lay t c) T N L B DS DR NL cl PL ns pl num oS' ⟨s1.heap, s1.next, l⟩ := D.on (s' := ⟨s1.heap, s1.next, l⟩) W1 F1 rfl
 obtain ⟨h2, n2, e2, y2, f2⟩ := lay_run (n := 21) (hd := false) (st := ⟨s1.heap, s1.next, l⟩) W1.rs ht hc (by lia)
 obtain ⟨W2, F2⟩ := W1.row y2 f2
 obtain ⟨rk', X'⟩ := X.lay Sb ht hI
 have es : s1 = ⟨s1.heap, s1.next, l⟩ := by rw [← el]
 rw [es] at e1
 have nx : ∀ {h n} {pp : Pos}, denE pi01 (phi pi01 22) (evL cl) (.Name x pp) ⟨h, n, l⟩ = .ok (.int t) ⟨h, n, l⟩ := bN dx (nm hx) lx
 have ny : ∀ {h n} {pp : Pos}, denE pi01 (phi pi01 22) (evL cl) (.Name y pp) ⟨h, n, l⟩ = .ok (.int c) ⟨h, n, l⟩ := bN dy (nm hy) ly
 exact Wp_of (sC (s_expr rfl (b_meth hlin rfl (D.str hN.1 nx rfl fun _ _ => rfl) (D.inst ht) rfl (by decide) (bC (D.str hN.2 ny rfl fun _ _ => rfl) bE) e1)) (sC (s_expr rfl (bK (gO (nm (by decide))) rfl (by decide) (by decide) (bC D1.nrows (bC nx (bC ny bE))) e2)) sN)) (hQ L oS' rk' h2 n2 (D1.on (s' := ⟨h2, n2, l⟩) W2 F2 rfl) X')
theorem attach_alone (D : LD T T N L B DS DR NL cl PL ns pl num oS ⟨h, n, l⟩) (X : WX T rk came (some c)) (Sb : Sub T rk c I) (hI : ¬ I t) (ht : t ∈ T.nums) (hN : t ∈ N ∧ c ∈ N) (hlin : (q4.endLine == q8.line) = true) (hx : g_law.scope.names.lookup x = some .local) (hy : g_law.scope.names.lookup y = some .local) (dx : x ≠ "__debug__") (dy : y ≠ "__debug__") (lx : l x = some (.int t)) (ly : l y = some (.int c))
  (hQ : ∀ L' oS' rk' h' n', LD (T.alone t c) (T.alone t c) N L' B DS DR NL cl PL ns pl num oS' ⟨h', n', l⟩ → WX (T.alone t c) rk' came none → Q .next ⟨h', n', l⟩) :
  Wp (denSs pi01 (phi pi01 22) (evL cl) [.Expr (.Call (.Attribute (.Subscript (.Name "streams" q1) (.Name x q2) q3) "add_child_exclusive" q4) [.Subscript (.Name "streams" q5) (.Name y q6) q7] [] q8) q9, .Expr (.Call (.Name "_law_alone" r1) [.Name "rows" r2, .Name x r3, .Name y r4] [] r5) r6]) ⟨h, n, l⟩ Q := by
 obtain ⟨hc, c0, hlo⟩ := X.lo c rfl
 have htc : t ≠ c := fun q => hI (q ▸ Sb.me)
 have hk := X.kids ht
 have hk' := X.kids hc
 obtain ⟨L', s1, e1, eL, y1, f1⟩ := excl_spec (n := 17) (hd := false) (L := L) (own := oS) (st := ⟨h, n, l⟩) (D.lw.sy.ag (l' := l) .refl) ht hc htc hlo (fun o ho => ⟨(X.tr.kid t ht o ho).1, fun k hk ne z => ne (X.tr.two hk ht z ho)⟩) (X.tr.nd t ht) (by lia)
 obtain ⟨oS', W1, F1⟩ := D.lw.str y1 f1 eL
 have el : s1.loc = l := f1.loc
 have D1 : LD (T.alone t c) T N L' B DS DR NL cl PL ns pl num oS' ⟨s1.heap, s1.next, l⟩ := D.on (s' := ⟨s1.heap, s1.next, l⟩) W1 F1 rfl
 obtain ⟨h2, n2, e2, y2, f2⟩ := alone_run (n := 20) (hd := false) (st := ⟨s1.heap, s1.next, l⟩) W1.rs ht hc htc (fun o ho => (X.tr.kid t ht o ho).1) (by lia)
 obtain ⟨W2, F2⟩ := W1.row y2 f2
 obtain ⟨rk', X'⟩ := X.alone Sb ht hI
 have es : s1 = ⟨s1.heap, s1.next, l⟩ := by rw [← el]
 rw [es] at e1
 have nx : ∀ {h n} {pp : Pos}, denE pi01 (phi pi01 22) (evL cl) (.Name x pp) ⟨h, n, l⟩ = .ok (.int t) ⟨h, n, l⟩ := bN dx (nm hx) lx
 have ny : ∀ {h n} {pp : Pos}, denE pi01 (phi pi01 22) (evL cl) (.Name y pp) ⟨h, n, l⟩ = .ok (.int c) ⟨h, n, l⟩ := bN dy (nm hy) ly
 exact Wp_of (sC (s_expr rfl (b_meth hlin rfl (D.str hN.1 nx rfl fun _ _ => rfl) (D.inst ht) rfl (by decide) (bC (D.str hN.2 ny rfl fun _ _ => rfl) bE) e1)) (sC (s_expr rfl (bK (gO (nm (by decide))) rfl (by decide) (by decide) (bC D1.nrows (bC nx (bC ny bE))) e2)) sN)) (hQ L' oS' rk' h2 n2 (D1.on (s' := ⟨h2, n2, l⟩) W2 F2 rfl) X')
theorem fresh_lw {H : Hp} {w : Int} {v1 v2 : Nat} (W : LW T T T.nums L B DS DR oS h n) (X : WX T rk came none) (hc : c ∉ T.nums) (ag : ∀ b, b < n → b ≠ DS → b ≠ DR → H b = h b) (hDS : H DS = some (.dictI (T.nums.map (fun k => (k, V.ref (L (.A k)))) ++ [(c, .ref (n + 1))]) v1)) (hDR : H DR = some (.dictI (T.nums.map (fun k => (k, V.ref (B k))) ++ [(c, .ref (n + 6))]) v2))
  (f1 : H (n + 1) = some (.inst (sf c w (n + 2) .none (n + 3) true 0 0))) (f2 : H (n + 2) = some (.list [])) (f3 : H (n + 3) = some (.list [])) (f4 : H (n + 5) = some (.list [])) (f5 : H (n + 6) = some (.dictS (rowE (T.fresh c w) c (n + 5)))) :
  LW (T.fresh c w) (T.fresh c w) (T.fresh c w).nums (Lnew L c (n + 1)) (fset B c (n + 6)) DS DR (fun b => oS b ∨ (n + 1 ≤ b ∧ b < n + 1 + 3)) H (n + 8) ∧ LF oS n h (fun b => oS b ∨ (n + 1 ≤ b ∧ b < n + 1 + 3)) (n + 8) H := by
 have nd : ∀ b, oS b → b ≠ DS ∧ b ≠ DR := fun b hb => ⟨fun q => W.dS (q ▸ hb), fun q => W.dR (q ▸ hb)⟩
 have hld := W.dl
 have hlr := W.rs.lt
 have nw : ∀ a, a < n → ¬ oS a → ¬ (oS a ∨ (n + 1 ≤ a ∧ a < n + 1 + 3)) := fun a h1 h2 q => q.elim h2 fun z => by lia
 have lab : Lnew L c (n + 1) (.A c) = n + 1 := Lnew_c.1
 refine ⟨⟨W.sy.fresh hc (fun k hk p hp => (X.pm hk hp).1) (fun k hk o ho => (X.tr.kid k hk o ho).1) (fun b h1 h2 => ag b h1 (nd b h2).1 (nd b h2).2) (Nat.le_succ _) (by lia) f1 f2 f3, ?_, ?_, by lia, nw _ hld W.dS, nw _ hlr W.dR, W.dd, fun a ha => ha.elim (fun q => by have := W.bd a q; lia) fun q => by lia⟩, by lia, fun a o h1 h2 h3 h4 => ⟨(ag a h1 (fun q => ?_) fun q => ?_).trans h3, nw a h1 h2⟩⟩
 ·have R0 : RS T B DR (fun a => ¬ oS a ∧ a < n) h n := ⟨W.rs.dr, fun k hk => by
   obtain ⟨b, R⟩ := W.rs.row k hk
   exact ⟨b, R.d, R.l, R.lt, R.ow, R.lt⟩, fun k hk => ⟨(W.rs.at_ k hk).1, (W.rs.at_ k hk).2, (W.rs.at_ k hk).1⟩, W.rs.inj, W.rs.lt⟩
  have R1 : RS T B DR (fun b => ¬ (oS b ∨ (n + 1 ≤ b ∧ b < n + 1 + 3))) (upd H DR (.dictI (T.nums.map fun k => (k, V.ref (B k))) v2)) (n + 8) :=
   ⟨⟨v2, uS _ _ _⟩, fun k hk => by
    obtain ⟨b, R⟩ := R0.row k hk
    have a0 := R0.at_ k hk
    have keep : ∀ a o, a < n → h a = some o → (∀ es v, o ≠ .dictI es v) → upd H DR (.dictI (T.nums.map fun k => (k, V.ref (B k))) v2) a = some o := fun a o h1 h2 h3 => by
     have n1 : a ≠ DR := fun q => by obtain ⟨v, e⟩ := W.rs.dr; rw [← q, h2] at e; exact h3 _ _ (sj e)
     have n2 : a ≠ DS := fun q => by obtain ⟨v, e⟩ := W.ds; rw [← q, h2] at e; exact h3 _ _ (sj e)
     exact (uO n1).trans ((ag a h1 n2 n1).trans h2)
    exact ⟨b, keep _ _ a0.1 R.d (fun _ _ q => ((by contradiction))), keep _ _ R.lt R.l (fun _ _ q => ((by contradiction))), by have := R.lt; lia, nw _ R.lt R.ow.1⟩, fun k hk => ⟨by have := (R0.at_ k hk).1; lia, nw _ (R0.at_ k hk).1 (R0.at_ k hk).2.1⟩, R0.inj, by lia⟩
  have e6 : n + 6 ≠ DR := by lia
  have R2 := R1.fresh (w := w) (a := n + 6) (b := n + 5) (ver := v2) hc ((uO e6).trans f5) ((uO (by lia)).trans f4) ⟨by lia, fun q => q.elim (fun z => by have := W.bd _ z; lia) fun z => by lia⟩ ⟨by lia, fun q => q.elim (fun z => by have := W.bd _ z; lia) fun z => by lia⟩ (fun k hk => by have := (W.rs.at_ k hk).1; lia) e6
  rw [upd_upd, show upd H DR (.dictI ((T.nums.map fun k => (k, V.ref (B k))) ++ [(c, .ref (n + 6))]) v2) = H from funext fun b => by
   by_cases q : b = DR
   ·rw [q, uS, hDR]
   ·exact uO q] at R2
  exact R2
 ·refine ⟨v1, hDS.trans ?_⟩
  show some (AObj.dictI _ v1) = some (.dictI ((T.nums ++ [c]).map fun k => (k, .ref (Lnew L c (n + 1) (.A k)))) v1)
  have e : (T.nums.map fun k => (k, V.ref (Lnew L c (n + 1) (.A k)))) = T.nums.map fun k => (k, V.ref (L (.A k))) := List.map_congr_left fun k hk => by rw [Lnew_o (r := .A k) (ne_new hc hk)]
  rw [List.map_append, List.map_singleton, lab, e]
 ·obtain ⟨v, e⟩ := W.ds
  rw [q, e] at h3; obtain rfl := sj h3; exact zF h4
 ·obtain ⟨v, e⟩ := W.rs.dr
  rw [q, e] at h3; obtain rfl := sj h3; exact zF h4
end
end
section
theorem Wp_last {P : PI} {Φ : Phi} {ev : AEnv} {s : Stmt} {st : S} {Q : Mine.Flow → S → Prop} (h : Wp (denS P Φ ev s) st Q) : Wp (denSs P Φ ev [s]) st Q := by
 obtain ⟨f, s1, e, q⟩ := h
 refine ⟨f, s1, bS e ?_, q⟩
 cases f <;> rfl
theorem Wp_ifT {P : PI} {Φ : Phi} {ev : AEnv} {t : Expr} {b o : List Stmt} {p : Pos} {st s1 : S} {Q : Mine.Flow → S → Prop} (h : denT P Φ ev t (denE P Φ ev t) st = .ok true s1) (w : Wp (denSs P Φ ev b) s1 Q) : Wp (denS P Φ ev (.If t b o p)) st Q := by
 obtain ⟨f, s2, e, q⟩ := w
 exact ⟨f, s2, s_ifT h e, q⟩
theorem Wp_ifF {P : PI} {Φ : Phi} {ev : AEnv} {t : Expr} {b o : List Stmt} {p : Pos} {st s1 : S} {Q : Mine.Flow → S → Prop} (h : denT P Φ ev t (denE P Φ ev t) st = .ok false s1) (w : Wp (denSs P Φ ev o) s1 Q) : Wp (denS P Φ ev (.If t b o p)) st Q := by
 obtain ⟨f, s2, e, q⟩ := w
 exact ⟨f, s2, s_ifF h e, q⟩
section
variable {T : Tab} {rk : Int → Nat} {came : Nat} {L : Rl → Nat} {B : Int → Nat} {DS DR NL cl PL : Nat} {ns pl : List Int} {num c p2 : Int} {oS : Nat → Prop} {h : Hp} {n : Nat} {l : Str → Option V} {Q : Mine.Flow → S → Prop}
theorem fresh_run (D : LD T T T.nums L B DS DR NL cl PL ns pl num oS ⟨h, n, l⟩) (X : WX T rk came none) (l3 : l "came" = some (.int came)) (hc : lawNames[came]? = some c) (hp2 : pl[2]? = some p2)
  (hQ : ∀ oS' H l', LD (T.fresh c (1 + Int.fmod (p2 + 15) 256)) (T.fresh c (1 + Int.fmod (p2 + 15) 256)) (T.fresh c (1 + Int.fmod (p2 + 15) 256)).nums (Lnew L c (n + 1)) (fset B c (n + 6)) DS DR NL cl PL ns pl num oS' ⟨H, n + 8, l'⟩ → l' "came" = some (.int ((came + 1 : Nat) : Int)) → l' "fresh" = some (.int c) → l' "kind" = l "kind" → Wp (denSs pi01 (phi pi01 22) (evL cl) ((whileB deeds).drop 5)) ⟨H, n + 8, l'⟩ Q) : Wp (denSs pi01 (phi pi01 22) (evL cl) (whileB deeds)) ⟨h, n, l⟩ Q := by
 obtain ⟨n1, n2, n3⟩ := X.notin hc
 obtain ⟨j, hj, hj2⟩ := fmod_nat (x := p2 + 15) (y := 256) (by decide)
 have hj : Int.fmod (p2 + 15) 256 = j := hj
 have hw : 1 ≤ 1 + Int.fmod (p2 + 15) 256 ∧ 1 + Int.fmod (p2 + 15) 256 ≤ 256 := by rw [hj]; lia
 have W0 : LW T T T.nums L B DS DR oS h n := D.lw
 have hld : DS < n := D.lw.dl
 have hlr : DR < n := D.lw.rs.lt
 have len : T.nums.length ≤ 15 := X.few
 have D1 := ((D.on (s' := ⟨upd h n (.list (lawNames.map .int)), n + 1, l⟩) (D.lw.ag .new) (.ag .new) rfl).set (x := "fresh") (v := .int c) (by decide))
 have D2 := (D1.set (x := "came") (v := .int ((came + 1 : Nat) : Int)) (by decide)).set (x := "weight") (v := .int (1 + Int.fmod (p2 + 15) 256)) (by decide)
 have g1 : (updL (updL (updL l "fresh" (.int c)) "came" (.int ((came + 1 : Nat) : Int))) "weight" (.int (1 + Int.fmod (p2 + 15) 256))) "weight" = some (.int (1 + Int.fmod (p2 + 15) 256)) := lS
 have g2 : (updL (updL (updL l "fresh" (.int c)) "came" (.int ((came + 1 : Nat) : Int))) "weight" (.int (1 + Int.fmod (p2 + 15) 256))) "fresh" = some (.int c) := (Lo (by decide)).trans ((Lo (by decide)).trans lS)
 have g3 : (updL (updL (updL l "fresh" (.int c)) "came" (.int ((came + 1 : Nat) : Int))) "weight" (.int (1 + Int.fmod (p2 + 15) 256))) "came" = some (.int ((came + 1 : Nat) : Int)) := (Lo (by decide)).trans lS
 have g4 : (updL (updL (updL l "fresh" (.int c)) "came" (.int ((came + 1 : Nat) : Int))) "weight" (.int (1 + Int.fmod (p2 + 15) 256))) "kind" = l "kind" := (Lo (by decide)).trans ((Lo (by decide)).trans (Lo (by decide)))
 have a0 : denS pi01 (phi pi01 22) (evL cl) ((whileB deeds).getD 0 (.Pass default)) ⟨h, n, l⟩ = .ok .next ⟨upd h n (.list (lawNames.map .int)), n + 1, updL l "fresh" (.int c)⟩ :=
  sA rfl (b_item rfl (fun _ _ => rfl) (bK (gO (nm (by decide))) rfl (by decide) (by decide) bE (names_run (m := 21))) (bN (by decide) (nm (by decide)) l3) (uS _ _ _) (su_list (by have := (List.getElem?_eq_some_iff.mp hc).1; have e : lawNames.length = 14 := rfl; lia) (by rw [List.getElem?_map, hc]; rfl))) (aN (nm (by decide)))
 have a1 : denS pi01 (phi pi01 22) (evL cl) ((whileB deeds).getD 1 (.Pass default)) ⟨upd h n (.list (lawNames.map .int)), n + 1, updL l "fresh" (.int c)⟩ = .ok .next ⟨upd h n (.list (lawNames.map .int)), n + 1, updL (updL l "fresh" (.int c)) "came" (.int ((came + 1 : Nat) : Int))⟩ :=
  s_aug (b_load (by decide) (nm (by decide)) ((cO (by decide)).trans l3)) bI rfl (bT (nm (by decide)))
 have a2 : denS pi01 (phi pi01 22) (evL cl) ((whileB deeds).getD 2 (.Pass default)) ⟨upd h n (.list (lawNames.map .int)), n + 1, updL (updL l "fresh" (.int c)) "came" (.int ((came + 1 : Nat) : Int))⟩ = .ok .next ⟨upd h n (.list (lawNames.map .int)), n + 1, updL (updL (updL l "fresh" (.int c)) "came" (.int ((came + 1 : Nat) : Int))) "weight" (.int (1 + Int.fmod (p2 + 15) 256))⟩ :=
  sA rfl (bB bI (bB (bB ((D1.set (x := "came") (v := .int ((came + 1 : Nat) : Int)) (by decide)).part (i := 2) hp2 (by decide)) bI b_add) bI (b_mod (by decide))) b_add) (aN (nm (by decide)))
 refine Wp_cons a0 (Wp_cons a1 (Wp_cons a2 ?_))
 generalize updL (updL (updL l "fresh" (.int c)) "came" (.int ((came + 1 : Nat) : Int))) "weight" (.int (1 + Int.fmod (p2 + 15) 256)) = l2 at *
 clear a0 a1 a2
 generalize 1 + Int.fmod (p2 + 15) 256 = w at *
 have nf : ∀ {H : Hp} {k : Nat} {pp : Pos}, denE pi01 (phi pi01 22) (evL cl) (.Name "fresh" pp) ⟨H, k, l2⟩ = .ok (.int c) ⟨H, k, l2⟩ := bN (by decide) (nm (by decide)) g2
 have nw : ∀ {H : Hp} {k : Nat} {pp : Pos}, denE pi01 (phi pi01 22) (evL cl) (.Name "weight" pp) ⟨H, k, l2⟩ = .ok (.int w) ⟨H, k, l2⟩ := bN (by decide) (nm (by decide)) g1
 have hv : ∃ s2, denE pi01 (phi pi01 22) (evL cl) (whileT ((whileB deeds).getD 3 (.Pass default))) ⟨upd h n (.list (lawNames.map .int)), n + 1, l2⟩ = .ok (.ref (n + 1)) s2 ∧ s2.next = n + 4 ∧ s2.loc = l2 ∧ s2.heap (n + 1) = some (.inst (sf c w (n + 2) .none (n + 3) true 0 0)) ∧ s2.heap (n + 2) = some (.list []) ∧ s2.heap (n + 3) = some (.list []) ∧ ∀ j, j < n + 1 → s2.heap j = upd h n (.list (lawNames.map .int)) j := by
  by_cases e : w = 16
  ·have eb : (w == 16) = true := by rw [e]; rfl
   obtain ⟨s2, b1, b2⟩ := new_run 20 ⟨upd h n (.list (lawNames.map .int)), n + 1, l2⟩ c w [.int c] (.inr ⟨rfl, e⟩) hw
   refine ⟨s2, b_ifexpT (tC nw bI (b_cmpEq.trans ?_)) (bK (gO (nm (by decide))) rfl (by decide) (by decide) (bC nf bE) b1), b2⟩
   rw [eb]
  ·have eb : (w == 16) = false := beq_eq_false_iff_ne.mpr e
   obtain ⟨s2, b1, b2⟩ := new_run 20 ⟨upd h n (.list (lawNames.map .int)), n + 1, l2⟩ c w [.int c, .int w] (.inl rfl) hw
   refine ⟨s2, b_ifexpF (tC nw bI (b_cmpEq.trans ?_)) (bK (gO (nm (by decide))) rfl (by decide) (by decide) (bC nf (bC nw bE)) b1), b2⟩
   rw [eb]
 obtain ⟨s2, b1, b2, b3, b4, b5, b6, b7⟩ := hv
 have es : s2 = ⟨s2.heap, n + 4, l2⟩ := by rw [← b2, ← b3]
 rw [es] at b1
 generalize s2.heap = h2 at *
 clear es b2 b3
 obtain ⟨v1, ds⟩ := D.lw.ds
 obtain ⟨v2, dr⟩ := D.lw.rs.dr
 have old : ∀ j, j < n → h2 j = h j := fun j hj => (b7 j (Nat.lt_succ_of_lt hj)).trans (uO (Nat.ne_of_lt hj))
 have nDD := D.lw.dd
 have a3 : denS pi01 (phi pi01 22) (evL cl) ((whileB deeds).getD 3 (.Pass default)) ⟨upd h n (.list (lawNames.map .int)), n + 1, l2⟩ = .ok .next ⟨upd h2 DS (.dictI (T.nums.map (fun k => (k, V.ref (L (.A k)))) ++ [(c, .ref (n + 1))]) (n + 4)), n + 5, l2⟩ := by
  rw [← putF_new n1]
  exact sA rfl b1 (a_sub (bN (by decide) (nm (by decide)) D2.l1) nf ((old DS hld).trans ds) (so_dI (show (T.nums.map fun k => (k, V.ref (L (.A k)))).length < 1000 by rw [List.length_map]; lia)))
 refine Wp_cons a3 ?_
 have dr3 : upd (upd (upd h2 DS (.dictI (T.nums.map (fun k => (k, V.ref (L (.A k)))) ++ [(c, .ref (n + 1))]) (n + 4))) (n + 5) (.list [])) (n + 6) (.dictS [("number", .int c), ("weight", .int w), ("able", .bool true), ("parent", .none), ("beneath", .ref (n + 5)), ("level", .int 0), ("over", .int 0), ("last", .int 0)]) DR = some (.dictI (T.nums.map fun k => (k, V.ref (B k))) v2) := (uO (by lia)).trans ((uO (by lia)).trans ((uO (Ne.symm nDD)).trans ((old DR hlr).trans dr)))
 have a4 : denS pi01 (phi pi01 22) (evL cl) ((whileB deeds).getD 4 (.Pass default)) ⟨upd h2 DS (.dictI (T.nums.map (fun k => (k, V.ref (L (.A k)))) ++ [(c, .ref (n + 1))]) (n + 4)), n + 5, l2⟩ = .ok .next ⟨upd (upd (upd (upd h2 DS (.dictI (T.nums.map (fun k => (k, V.ref (L (.A k)))) ++ [(c, .ref (n + 1))]) (n + 4))) (n + 5) (.list [])) (n + 6) (.dictS [("number", .int c), ("weight", .int w), ("able", .bool true), ("parent", .none), ("beneath", .ref (n + 5)), ("level", .int 0), ("over", .int 0), ("last", .int 0)])) DR (.dictI (T.nums.map (fun k => (k, V.ref (B k))) ++ [(c, .ref (n + 6))]) (n + 7)), n + 8, l2⟩ := by
  rw [← putF_new (v := .ref (n + 6)) (f := fun k => .ref (B k)) n1]
  exact sA rfl (bK (gO (nm (by decide))) rfl (by decide) (by decide) (bC nf (bC nw bE)) (row_run (m := 21))) (a_sub (bN (by decide) (nm (by decide)) D2.l2) nf dr3 (so_dI (show (T.nums.map fun k => (k, V.ref (B k))).length < 1000 by rw [List.length_map]; lia)))
 refine Wp_cons a4 ?_
 have er : rowE (T.fresh c w) c (n + 5) = ([("number", .int c), ("weight", .int w), ("able", .bool true), ("parent", .none), ("beneath", .ref (n + 5)), ("level", .int 0), ("over", .int 0), ("last", .int 0)] : List (Str × V)) := by
  show [_, ((_ : Str), V.int (fset T.w c w c)), ((_ : Str), V.bool (fset T.able c true c)), ((_ : Str), parI (fset T.par c none c)), _, ((_ : Str), V.int (fset T.lev c 0 c)), ((_ : Str), V.int (fset T.over c 0 c)), ((_ : Str), V.int (fset T.last c 0 c))] = _
  rw [fS, fS, fS, fS, fS, fS]
  rfl
 rw [← er]
 rw [← er] at dr3
 have nm5 : ∀ b, n + 1 ≤ b → b < n + 5 → upd (upd (upd (upd h2 DS (.dictI (T.nums.map (fun k => (k, V.ref (L (.A k)))) ++ [(c, .ref (n + 1))]) (n + 4))) (n + 5) (.list [])) (n + 6) (.dictS (rowE (T.fresh c w) c (n + 5)))) DR (.dictI (T.nums.map (fun k => (k, V.ref (B k))) ++ [(c, .ref (n + 6))]) (n + 7)) b = h2 b := fun b h1 h2 => (uO (by lia)).trans ((uO (by lia)).trans ((uO (by lia)).trans (uO (by lia))))
 obtain ⟨W, F⟩ := fresh_lw (H := upd (upd (upd (upd h2 DS (.dictI (T.nums.map (fun k => (k, V.ref (L (.A k)))) ++ [(c, .ref (n + 1))]) (n + 4))) (n + 5) (.list [])) (n + 6) (.dictS (rowE (T.fresh c w) c (n + 5)))) DR (.dictI (T.nums.map (fun k => (k, V.ref (B k))) ++ [(c, .ref (n + 6))]) (n + 7))) (w := w) W0 X n1 (fun b hb h1 h2 => (uO h2).trans ((uO (by lia)).trans ((uO (by lia)).trans ((uO h1).trans (old b hb))))) ((uO nDD).trans ((uO (by lia)).trans ((uO (by lia)).trans (uS _ _ _)))) (uS _ _ _)
  ((nm5 _ (by lia) (by lia)).trans b4) ((nm5 _ (by lia) (by lia)).trans b5) ((nm5 _ (by lia) (by lia)).trans b6) ((uO (by lia)).trans ((uO (by lia)).trans (uS _ _ _))) ((uO (by lia)).trans (uS _ _ _))
 have D3 := D.on (s' := ⟨_, n + 8, l⟩) W F rfl
 exact hQ _ _ l2 ⟨D3.lw, D2.l1, D2.l2, D2.l4, D2.l5, D2.l6, D3.nl, D3.ce, D3.pl⟩ g3 g2 g4
theorem deed_new {K : Nat} {kd : Int} (D : LD T T T.nums L B DS DR NL cl PL ns pl num oS ⟨h, n, l⟩) (X : WX T rk came none) (l3 : l "came" = some (.int came)) (hc : lawNames[came]? = some c) (hK : came + 1 ≤ K) (hp2 : pl[2]? = some p2) (lk : l "kind" = some (.int kd)) (hnum : num ∈ T.nums) : Wp (denSs pi01 (phi pi01 22) (evL cl) (whileB deeds)) ⟨h, n, l⟩ (LP DS DR NL cl ns K) := by
 obtain ⟨n1, n2, n3⟩ := X.notin hc
 obtain ⟨j, hj, hj2⟩ := fmod_nat (x := p2 + 15) (y := 256) (by decide)
 have hj : Int.fmod (p2 + 15) 256 = j := hj
 obtain ⟨X1, Sb⟩ := X.fresh hc (w := 1 + Int.fmod (p2 + 15) 256) (by rw [hj]; lia)
 have ne : num ≠ c := fun q => n1 (q ▸ hnum)
 have hm : num ∈ (T.fresh c (1 + Int.fmod (p2 + 15) 256)).nums := List.mem_append_left _ hnum
 have cm : c ∈ (T.fresh c (1 + Int.fmod (p2 + 15) 256)).nums := List.mem_append_right _ (.head _)
 refine fresh_run D X l3 hc hp2 fun oS' H l' D' g1 g2 g3 => ?_
 rw [lk] at g3
 have nk : ∀ {pp : Pos}, denE pi01 (phi pi01 22) (evL cl) (.Name "kind" pp) ⟨H, n + 8, l'⟩ = .ok (.int kd) ⟨H, n + 8, l'⟩ := bN (by decide) (nm (by decide)) g3
 by_cases e : kd = 0
 ·have eb : (kd == 0) = true := by rw [e]; rfl
  refine Wp_last (Wp_ifT (tC nk bI (b_cmpEq.trans ?_)) (attach_lay D' X1 Sb ne hm ⟨hm, cm⟩ rfl (by decide) (by decide) (by decide) (by decide) D'.l6 g2 fun L' oS2 rk' h' n' D2 X2 => ⟨rfl, D2.done X2 g1 hK⟩))
  rw [eb]
 ·have eb : (kd == 0) = false := beq_eq_false_iff_ne.mpr e
  refine Wp_last (Wp_ifF (tC nk bI (b_cmpEq.trans ?_)) (attach_alone D' X1 Sb ne hm ⟨hm, cm⟩ rfl (by decide) (by decide) (by decide) (by decide) D'.l6 g2 fun L' oS2 rk' h' n' D2 X2 => ⟨rfl, D2.doneN (alone_eq ne).1 X2 g1 hK⟩))
  rw [eb]
end
end
section
section
variable {T T1 T2 : Tab} {rk : Int → Nat} {came : Nat} {N : List Int} {L : Rl → Nat} {B : Int → Nat} {DS DR NL cl PL : Nat} {ns pl : List Int} {num c p : Int} {oS : Nat → Prop} {h : Hp} {n : Nat} {l : Str → Option V} {Q : Mine.Flow → S → Prop}
theorem delF_map {f : Int → V} {l : List Int} : delF c (l.map fun k => (k, f k)) = (l.filter fun o => o != c).map fun k => (k, f k) := by
 unfold delF
 rw [List.filter_map]
 congr 1
 refine List.filter_congr fun k _ => ?_
 show decide (k ≠ c) = !(k == c)
 by_cases e : k = c
 ·rw [e, beq_self_eq_true, decide_eq_false fun q => q rfl]; rfl
 ·rw [beq_eq_false_iff_ne.mpr e, decide_eq_true e]; rfl
theorem lays_drop : ∀ (os : List Int) (T : Tab), (T.lays p os).drop c = (T.drop c).lays p os
 | [], _ => rfl
 | o :: os, T => lays_drop os (T.lay p o)
theorem dpop_at {i ver : Nat} {es : List (Int × V)} {k : Int} {w : V} {st : S} (hi : st.heap i = some (.dictI es ver)) (hk : getF k es = some w) (hl : es.length < 1000) : dpopM i k st = .ok w { st with heap := upd st.heap i (.dictI (delF k es) st.next), next := st.next + 1 } :=
 bS (bG (a := (es, ver)) (by unfold dctI; rw [hi])) (by dsimp only; rw [hk]; exact b_if hl rfl)
theorem b_dpop {P : PI} {Φ : Phi} {ev : AEnv} {o ke : Expr} {ap pp : Pos} {st : S} {i ver : Nat} {es : List (Int × V)} {k : Int} {w : V} (hl : (ap.endLine == pp.line) = true) (hb : (plainBase o && noStars [ke] && namedKws []) = true) (h : denE P Φ ev o st = .ok (.ref i) st) (hi : st.heap i = some (.dictI es ver)) (h1 : denE P Φ ev ke st = .ok (.int k) st) (hk : getF k es = some w) (hn : es.length < 1000) :
  denE P Φ ev (.Call (.Attribute o "pop" ap) [ke] [] pp) st = .ok w { st with heap := upd st.heap i (.dictI (delF k es) st.next), next := st.next + 1 } :=
 b_methO (k := .dpop) hl hb h hi rfl (bC h1 bE) (bS (bG rfl) (dpop_at hi hk hn))
theorem LW.dict (W : LW T1 T2 N L B DS DR oS h n) {a : Nat} {es : List (Int × V)} (ha : a = DS ∨ a = DR) : SY T1 L oS ⟨upd h a (.dictI es n), n + 1, fun _ => none⟩ ∧ LF oS n h oS (n + 1) (upd h a (.dictI es n)) := by
 have no : ¬ oS a := by rcases ha with rfl | rfl; exact W.dS; exact W.dR
 have da : ∃ es v, h a = some (.dictI es v) := by
  rcases ha with rfl | rfl
  ·obtain ⟨v, e⟩ := W.ds; exact ⟨_, v, e⟩
  ·obtain ⟨v, e⟩ := W.rs.dr; exact ⟨_, v, e⟩
 exact ⟨W.sy.grow (fun b h1 h2 => uO fun q => no (q ▸ h2)) (Nat.le_succ _) fun _ q => q, Nat.le_succ _, fun b o h1 h2 h3 h4 => ⟨(uO fun q => by
  obtain ⟨es, v, e⟩ := da
  rw [q, e] at h3; obtain rfl := sj h3; exact zF h4).trans h3, h2⟩⟩
noncomputable def ro : AObj → Bool
 | .dictS _ => true
 | .list _ => true
 | _ => false
theorem RS.keepO {own : Nat → Prop} {h' : Hp} {n' : Nat} (H : RS T B DR own h n) (hk : ∀ a o, h a = some o → ro o = true → h' a = some o) (hd : h' DR = h DR) (hn : n ≤ n') : RS T B DR own h' n' where
 dr := by rw [hd]; exact H.dr
 row := fun k hm => by
  obtain ⟨b, R⟩ := H.row k hm
  exact ⟨b, hk _ _ R.d rfl, hk _ _ R.l rfl, ltl R.lt hn, R.ow⟩
 at_ := fun k hm => ⟨ltl (H.at_ k hm).1 hn, (H.at_ k hm).2⟩
 inj := H.inj
 lt := ltl H.lt hn
theorem keep_dict {a ver : Nat} {es es' : List (Int × V)} {o' : AObj} (ha : h a = some (.dictI es ver)) : ∀ b o, h b = some o → ro o = true → upd h a o' b = some o := fun b o h1 h2 => (uO fun q => by rw [q, ha] at h1; obtain rfl := sj h1; exact zF h2).trans h1
theorem LW.popS (W : LW T1 T2 N L B DS DR oS h n) : LW T1 T2 (N.filter fun o => o != c) L B DS DR oS (upd h DS (.dictI ((N.filter fun o => o != c).map fun k => (k, .ref (L (.A k)))) n)) (n + 1) := by
 obtain ⟨v, e⟩ := W.ds
 exact ⟨(W.dict (.inl rfl)).1, W.rs.keepO (keep_dict (es' := []) e) (uO (Ne.symm W.dd)) (Nat.le_succ _), ⟨n, uS _ _ _⟩, Nat.lt_succ_of_lt W.dl, W.dS, W.dR, W.dd, fun a ha => Nat.lt_succ_of_lt (W.bd a ha)⟩
theorem LW.popR (W : LW T1 T2 N L B DS DR oS h n) : LW T1 (T2.drop c) N L B DS DR oS (upd h DR (.dictI ((T2.nums.filter fun o => o != c).map fun k => (k, .ref (B k))) n)) (n + 1) := by
 obtain ⟨v, e⟩ := W.rs.dr
 have kp := keep_dict (o' := .dictI ((T2.nums.filter fun o => o != c).map fun k => (k, .ref (B k))) n) (es' := []) e
 exact ⟨(W.dict (.inr rfl)).1, ⟨⟨n, uS _ _ _⟩, fun k hk => by
  obtain ⟨b, R⟩ := W.rs.row k (dM.mp hk).1
  exact ⟨b, kp _ _ R.d rfl, kp _ _ R.l rfl, Nat.lt_succ_of_lt R.lt, R.ow⟩, fun k hk => ⟨Nat.lt_succ_of_lt (W.rs.at_ k (dM.mp hk).1).1, (W.rs.at_ k (dM.mp hk).1).2⟩, fun k hk j hj => W.rs.inj k (dM.mp hk).1 j (dM.mp hj).1, Nat.lt_succ_of_lt W.rs.lt⟩, by rw [uO W.dd]; exact W.ds, Nat.lt_succ_of_lt W.dl, W.dS, W.dR, W.dd, fun a ha => Nat.lt_succ_of_lt (W.bd a ha)⟩
theorem LW.cell (W : LW T1 T2 N L B DS DR oS h n) {v v' : Option V} (hc : h cl = some (.cell v)) (no : ¬ oS cl) : LW T1 T2 N L B DS DR oS (upd h cl (.cell v')) n := by
 have ne : ∀ b es ver, h b = some (.dictI es ver) → b ≠ cl := fun b es ver e q => by rw [q, hc] at e; nomatch e
 obtain ⟨v1, e1⟩ := W.ds
 obtain ⟨v2, e2⟩ := W.rs.dr
 exact ⟨W.sy.grow (fun b h1 h2 => uO fun q => no (q ▸ h2)) (Nat.le_refl _) fun _ q => q, W.rs.keepO (fun b o h1 h2 => (uO fun q => by rw [q, hc] at h1; obtain rfl := sj h1; exact zF h2).trans h1) (uO (ne _ _ _ e2)) (Nat.le_refl _), ⟨v1, (uO (ne _ _ _ e1)).trans e1⟩, W.dl, W.dS, W.dR, W.dd, W.bd⟩
theorem deed_out {K : Nat} (D : LD T T T.nums L B DS DR NL cl PL ns pl num oS ⟨h, n, l⟩) (X : WX T rk came none) (l3 : l "came" = some (.int came)) (hc : came ≤ K) (hnum : num ∈ T.nums) (h0 : num ≠ 0) : Wp (denSs pi01 (phi pi01 22) (evL cl) (whileB deed4)) ⟨h, n, l⟩ (LP DS DR NL cl ns K) := by
 obtain ⟨p, hp, hpar, hkid⟩ := X.up num hnum h0 fun q => zS q
 have hpn := (X.tr.kid p hp num hkid).2.2
 have pc : p ≠ num := fun q => by rw [q] at hpn; exact Nat.lt_irrefl _ hpn
 have len : T.nums.length ≤ 15 := X.few
 have lp := X.kids hp
 have lc := X.kids hnum
 have hNp : p ∈ T.nums := hp
 obtain ⟨h1, n1, r1, R1, F1⟩ := out_run (n := 21) (st := ⟨h, n, l⟩) D.lw.rs hp hnum hpar (by lia)
 obtain ⟨W1, G1⟩ := D.lw.row R1 F1
 have D1 : LD T (T.off p num) T.nums L B DS DR NL cl PL ns pl num oS ⟨h1, n1, updL l "parent" (.int p)⟩ := (D.on (s' := ⟨h1, n1, l⟩) W1 G1 rfl).set (by decide)
 have npar : ∀ {h : Hp} {k : Nat} {pp : Pos}, denE pi01 (phi pi01 22) (evL cl) (.Name "parent" pp) ⟨h, k, updL l "parent" (.int p)⟩ = .ok (.int p) ⟨h, k, updL l "parent" (.int p)⟩ := bN (by decide) (nm (by decide)) cS
 obtain ⟨L', s2, r2, eL, y2, f2⟩ := rem_strip (n := 17) (L := L) (own := oS) (st := ⟨h1, n1, updL l "parent" (.int p)⟩) (W1.sy.ag (l' := updL l "parent" (.int p)) .refl) hp hnum pc hkid (fun o ho => (X.tr.kid p hp o ho).1) (X.tr.nd p hp) (fun k hk ne z => ne (X.tr.two hk hp z hkid))
  (fun o ho => ⟨(X.tr.kid num hnum o ho).1, fun q => by have := (X.tr.kid num hnum o ho).2.2; rw [q] at this; exact absurd hpn (Nat.lt_asymm this), fun q => by have := (X.tr.kid num hnum o ho).2.2; rw [q] at this; exact Nat.lt_irrefl _ this, fun k hk ne z => ne (X.tr.two hk hnum z ho)⟩) (X.tr.nd num hnum) (by lia)
 obtain ⟨oS', W2, G2⟩ := W1.str y2 f2 eL
 have el : s2.loc = updL l "parent" (.int p) := f2.loc
 have es : s2 = ⟨s2.heap, s2.next, updL l "parent" (.int p)⟩ := by rw [← el]
 rw [es] at r2
 generalize s2.heap = h2 at *
 generalize s2.next = n2 at *
 have D2 : LD (((T.off p num).drop num).lays p (T.kids num)) (T.off p num) T.nums L' B DS DR NL cl PL ns pl num oS' ⟨h2, n2, updL l "parent" (.int p)⟩ := D1.on (s' := ⟨h2, n2, updL l "parent" (.int p)⟩) W2 G2 rfl
 have kn : (T.off p num).kids num = T.kids num := by rw [off_kids, if_neg (Ne.symm pc)]
 have kp : ((T.off p num).kids p).length ≤ (T.kids p).length := by rw [off_kids, if_pos rfl]; exact List.length_filter_le _ _
 obtain ⟨b, e1, e2, e3, e4⟩ := RS.ben (P := pi01) (Φ := phi pi01 22) (ev := evL cl) (l := updL l "parent" (.int p)) W2.rs hnum
 rw [kn] at e1
 have W3 : Wp (denS pi01 (phi pi01 22) (evL cl) ((whileB deed4).getD 2 (.Pass default))) ⟨h2, n2, updL l "parent" (.int p)⟩ fun f s => f = .next ∧ RS ((T.off p num).lays p (T.kids num)) B DR (ext (fun a => ¬ oS' a) n2) s.heap s.next ∧ RF n2 h2 s.next s.heap ∧ ∀ z : Str, z ≠ "other" → s.loc z = updL l "parent" (.int p) z :=
  rlays (n := 21) (T := T.off p num) (c := p) (os := T.kids num) (old := b) (st := ⟨h2, n2, updL l "parent" (.int p)⟩) (nm (by decide)) (nm (by decide)) (nm (by decide)) (nm (by decide)) (by decide) (by decide) (by decide) (by decide) rfl (e4 (D2.look hnum)) W2.rs e1 e2 hp cS D2.l2 (fun o ho => (X.tr.kid num hnum o ho).1) (by lia)
 obtain ⟨f, s3, a3, rfl, R3, F3, lo3⟩ := W3
 obtain ⟨W3, G3⟩ := W2.row R3 F3
 have lo4 : ∀ z : Str, z ≠ "other" → z ≠ "parent" → s3.loc z = l z := fun z h1 h2 => (lo3 z h1).trans (Lo h2)
 have D3' := D2.on (s' := ⟨s3.heap, s3.next, updL l "parent" (.int p)⟩) W3 G3 rfl
 have D3 : LD (((T.off p num).drop num).lays p (T.kids num)) ((T.off p num).lays p (T.kids num)) T.nums L' B DS DR NL cl PL ns pl num oS' ⟨s3.heap, s3.next, s3.loc⟩ :=
  ⟨W3, (lo4 _ (by decide) (by decide)).trans D.l1, (lo4 _ (by decide) (by decide)).trans D.l2, (lo4 _ (by decide) (by decide)).trans D.l4, (lo4 _ (by decide) (by decide)).trans D.l5, (lo4 _ (by decide) (by decide)).trans D.l6, D3'.nl, D3'.ce, D3'.pl⟩
 have l3' : s3.loc "came" = some (.int came) := (lo4 _ (by decide) (by decide)).trans l3
 obtain ⟨v3, dr3⟩ := W3.rs.dr
 rw [(lays_eq p (T.kids num) (T.off p num)).1] at dr3
 have dr3 : s3.heap DR = some (.dictI (T.nums.map fun k => (k, V.ref (B k))) v3) := dr3
 have W4 := W3.popR (c := num)
 rw [(lays_eq p (T.kids num) (T.off p num)).1, lays_drop] at W4
 have W4 : LW (((T.off p num).drop num).lays p (T.kids num)) (((T.off p num).drop num).lays p (T.kids num)) T.nums L' B DS DR oS' (upd s3.heap DR (.dictI ((T.nums.filter fun o => o != num).map fun k => (k, V.ref (B k))) s3.next)) (s3.next + 1) := W4
 have D4 := D3.on (s' := ⟨_, s3.next + 1, s3.loc⟩) W4 (W3.dict (.inr rfl)).2 rfl
 obtain ⟨v4, ds4⟩ := W4.ds
 have W5 := W4.popS (c := num)
 have D5 := D4.on (s' := ⟨_, s3.next + 2, s3.loc⟩) W5 (W4.dict (.inl rfl)).2 rfl
 have a4 : denS pi01 (phi pi01 22) (evL cl) ((whileB deed4).getD 3 (.Pass default)) s3 = .ok .next ⟨upd s3.heap DR (.dictI ((T.nums.filter fun o => o != num).map fun k => (k, V.ref (B k))) s3.next), s3.next + 1, s3.loc⟩ := by
  rw [← delF_map]
  exact s_expr rfl (b_dpop (by decide) rfl D3.nrows dr3 D3.nnum (getF_map (α := Int) hnum) (by rw [List.length_map]; lia))
 have a5 : denS pi01 (phi pi01 22) (evL cl) ((whileB deed4).getD 4 (.Pass default)) ⟨upd s3.heap DR (.dictI ((T.nums.filter fun o => o != num).map fun k => (k, V.ref (B k))) s3.next), s3.next + 1, s3.loc⟩ = .ok .next ⟨upd (upd s3.heap DR (.dictI ((T.nums.filter fun o => o != num).map fun k => (k, V.ref (B k))) s3.next)) DS (.dictI ((T.nums.filter fun o => o != num).map fun k => (k, V.ref (L' (.A k)))) (s3.next + 1)), s3.next + 2, s3.loc⟩ := by
  rw [← delF_map (f := fun k => V.ref (L' (.A k)))]
  exact s_expr rfl (b_dpop (by decide) rfl (bN (by decide) (nm (by decide)) D4.l1) ds4 D4.nnum (getF_map (α := Int) hnum) (by rw [List.length_map]; lia))
 exact Wp_of (a := Mine.Flow.next) (sC (sA rfl (bK (gO (nm (by decide))) rfl (by decide) (by decide) (bC D.nrows (bC D.nnum bE)) r1) (aN (nm (by decide)))) (sC (s_expr rfl (b_meth (by decide) rfl (D1.str hNp npar rfl fun _ _ => rfl) (D1.inst hp) rfl (by decide) (bC (D1.str hnum D1.nnum rfl fun _ _ => rfl) bE) r2)) (sC a3 (sC a4 (sC a5 sN))))) ⟨rfl, D5.doneN ((lays_eq p (T.kids num) ((T.off p num).drop num)).1.trans rfl) (X.gone hnum hpar) l3' hc⟩
end
end
section
theorem a_cell {ev : AEnv} {P : PI} {Φ : Phi} {x : Str} {p : Pos} {v : V} {i : Nat} {w : Option V} {st : S} (h : ev.names.lookup x = some .cell) (hi : ev.cells.lookup x = some i) (hc : st.heap i = some (.cell w)) : assignV P Φ ev (.Name x p) v st = .ok () { st with heap := upd st.heap i (.cell (some v)) } :=
 b_ifn (by rw [h]; exact fun q => (by contradiction)) (b_if h (bS (bG hi) (bS (a := w) (bG (by unfold cellAt; rw [hc])) rfl)))
theorem ints_of : ∀ l : List Int, intsV (l.map V.int) = some l
 | [] => rfl
 | x :: l => by
  show (intsV (l.map V.int)).map (x :: ·) = _
  rw [ints_of l]
  rfl
theorem mem_list {h : Hp} {a : Nat} {l : List Int} {x : Int} (ha : h a = some (.list (l.map .int))) : memI h (.int x) (.ref a) = some (l.any (· == x)) := by
 show (match listAt h a with | some xs => (intsV xs).map fun ns : List Int => ns.any (· == x) | none => none) = _
 unfold listAt
 rw [ha]
 dsimp only
 rw [ints_of]
 rfl
theorem b_notin {P : PI} {Φ : Phi} {hd : Bool} {st : S} {a : Nat} {l : List Int} {x : Int} (ha : st.heap a = some (.list (l.map .int))) : compareV P Φ hd .NotIn (.int x) (.ref a) st = .ok (.bool (!(l.any (· == x)))) st := by
 show okB ((memI st.heap (.int x) (.ref a)).map (!·)) st = _
 rw [mem_list ha]
 rfl
theorem b_in {P : PI} {Φ : Phi} {hd : Bool} {st : S} {a : Nat} {l : List Int} {x : Int} (ha : st.heap a = some (.list (l.map .int))) : compareV P Φ hd .In (.int x) (.ref a) st = .ok (.bool (l.any (· == x))) st := by
 show okB (memI st.heap (.int x) (.ref a)) st = _
 rw [mem_list ha]
 rfl
section
variable {T T1 T2 : Tab} {rk : Int → Nat} {came : Nat} {N : List Int} {L : Rl → Nat} {B : Int → Nat} {DS DR NL cl PL TL : Nat} {ns pl : List Int} {num c p p2 a0 : Int} {oS : Nat → Prop} {h : Hp} {n : Nat} {l : Str → Option V} {Q : Mine.Flow → S → Prop}
theorem target_run (D : LD T T T.nums L B DS DR NL cl PL ns pl num oS ⟨h, n, l⟩) (X : WX T rk came none) (lt : l "there" = some (.ref TL)) (ht : h TL = some (.list (T.nums.map .int))) (htl : TL < n) (hnum : num ∈ T.nums) (h0 : num ≠ 0) (hp2 : pl[2]? = some p2) :
  ∃ t H n' l', t ∈ T.nums ∧ t ∉ insd T 21 num ∧ LD T T T.nums L B DS DR NL cl PL ns pl num oS ⟨H, n', l'⟩ ∧ l' "target" = some (.int t) ∧ l' "came" = l "came" ∧ ∀ {r : R Mine.Flow}, denSs pi01 (phi pi01 22) (evL cl) ((whileB deed5).drop 3) ⟨H, n', l'⟩ = r → denSs pi01 (phi pi01 22) (evL cl) (whileB deed5) ⟨h, n, l⟩ = r := by
 have few := X.few
 obtain ⟨a, h1, n1, r1, e1, e2, e3, A1⟩ := inside_run X.tr (htOf_kid X) (Nat.le_trans few (by decide)) 21 hnum (ltl (htOf_lt X num) (by decide)) (st := ⟨h, n, l⟩) D.lw.rs
 have D1 := D.on (s' := ⟨h1, n1, l⟩) (D.lw.ag A1) (.ag A1) rfl
 obtain ⟨v, c1, c2, c3⟩ := D1.ce
 have c1 : h1 cl = some (.cell v) := c1
 have W2 := D1.lw.cell (v' := some (.ref a)) c1 c3
 have F2 : ∀ b xs, h1 b = some (.list xs) → upd h1 cl (.cell (some (.ref a))) b = some (.list xs) := fun b xs e => (uO fun q => by rw [q, c1] at e; nomatch e).trans e
 have D2 : LD T T T.nums L B DS DR NL cl PL ns pl num oS ⟨upd h1 cl (.cell (some (.ref a))), n1, l⟩ := ⟨W2, D.l1, D.l2, D.l4, D.l5, D.l6, ⟨F2 _ _ D1.nl.1, D1.nl.2⟩, ⟨_, uS _ _ _, c2, c3⟩, ⟨F2 _ _ D1.pl.1, D1.pl.2⟩⟩
 have hin := F2 a _ e1
 have hth := F2 TL _ ((A1.eq TL htl).trans ht)
 have htl' : TL < n1 := ltl htl A1.le
 have hcl : upd h1 cl (.cell (some (.ref a))) cl = some (.cell (some (.ref a))) := uS _ _ _
 have D3 := (D2.on (s' := ⟨_, n1 + 1, l⟩) (D2.lw.ag .new) (.ag (Ag.new (o := .list ((T.nums.filter fun o => !((insd T 21 num).any (· == o))).map .int)))) rfl).set (x := "others") (v := .ref n1) (by decide)
 have m0 : (0 : Int) ∈ T.nums.filter fun o => !((insd T 21 num).any (· == o)) := by
  refine List.mem_filter.mpr ⟨X.zr, ?_⟩
  rw [Bool.not_eq_true', List.any_eq_false]
  intro x hx
  rw [Bool.not_eq_true, beq_eq_false_iff_ne]
  rintro rfl
  rcases insd_par X.tr hnum hx with q | ⟨p, _, e, _⟩
  ·exact h0 q.symm
  ·rw [X.z0] at e; exact zN e
 have llen : (T.nums.filter fun o => !((insd T 21 num).any (· == o))).length ≤ T.nums.length := List.length_filter_le _ _
 have lpos := List.length_pos_of_mem m0
 obtain ⟨j, hj, hj2⟩ := fmod_nat (x := p2) lpos
 have hm := List.getElem_mem hj2
 have hm2 := List.mem_filter.mp hm
 have hout : (T.nums.filter fun o => !((insd T 21 num).any (· == o)))[j] ∉ insd T 21 num := fun q => by
  have e := hm2.2
  rw [Bool.not_eq_true', List.any_eq_false] at e
  exact e _ q (beq_self_eq_true _)
 refine ⟨_, _, _, _, hm2.1, hout, D3.set (x := "target") (v := .int (T.nums.filter fun o => !((insd T 21 num).any (· == o)))[j]) (by decide), lS, (Lo (by decide)).trans (Lo (by decide)), fun {r} hr => ?_⟩
 refine sC (sA rfl (bK (gO (nm (by decide))) rfl (by decide) (by decide) (bC D.nrows (bC D.nnum bE)) r1) (a_cell (nm (by decide)) rfl c1)) ?_
 refine sC (sA rfl (comp_pure (s1 := ⟨upd h1 cl (.cell (some (.ref a))), n1, l⟩) T.nums .int (fun o => !((insd T 21 num).any (· == o))) .int rfl rfl (bN (by decide) (nm (by decide)) lt) hth htl' (by lia) fun o ho hh k l' ag => ⟨updL l' "other" (.int o), bT (cnm (by decide)), all_one (tC (bN (by decide) (cnm (by decide)) cS) (b_cell (by decide) (cnm (by decide)) rfl ((ag cl c2).trans hcl)) (b_notin ((ag a e2).trans hin))), fun _ => bN (by decide) (cnm (by decide)) cS⟩) (aN (nm (by decide)))) ?_
 refine sC (sA rfl (b_item rfl (fun _ _ => rfl) (bN (by decide) (nm (by decide)) cS) (bB (D3.part (i := 2) hp2 (by decide)) (bK (gO (nm (by decide))) rfl (by decide) (by decide) (bC (bN (by decide) (nm (by decide)) cS) bE) (lenOf (uS _ _ _) (by rw [List.length_map]; lia))) (b_mod (by rw [List.length_map]; lia))) (uS _ _ _) ?_) (aN (nm (by decide)))) hr
 rw [List.length_map, hj]
 exact su_list (by lia) (by rw [List.getElem?_map, List.getElem?_eq_getElem hj2]; rfl)
theorem deed_move {K : Nat} (D : LD T T T.nums L B DS DR NL cl PL ns pl num oS ⟨h, n, l⟩) (X : WX T rk came none) (l3 : l "came" = some (.int came)) (hc : came ≤ K) (lt : l "there" = some (.ref TL)) (ht : h TL = some (.list (T.nums.map .int))) (htl : TL < n) (hnum : num ∈ T.nums) (h0 : num ≠ 0) (hp0 : pl[0]? = some a0) (hp2 : pl[2]? = some p2) : Wp (denSs pi01 (phi pi01 22) (evL cl) (whileB deed5)) ⟨h, n, l⟩ (LP DS DR NL cl ns K) := by
 obtain ⟨t, H, k, l', ht1, ht2, D', lt', lc', run⟩ := target_run D X lt ht htl hnum h0 hp2
 rw [l3] at lc'
 clear D lt ht htl l3
 obtain ⟨p, hp, hpar, hkid⟩ := X.up num hnum h0 fun q => zS q
 have lp := X.kids hp
 obtain ⟨h1, n1, r1, R1, F1⟩ := out_run (n := 21) (st := ⟨H, k, l'⟩) D'.lw.rs hp hnum hpar (by lia)
 obtain ⟨W1, G1⟩ := D'.lw.row R1 F1
 have D1 : LD T (T.off p num) T.nums L B DS DR NL cl PL ns pl num oS ⟨h1, n1, updL l' "parent" (.int p)⟩ := (D'.on (s' := ⟨h1, n1, l'⟩) W1 G1 rfl).set (by decide)
 obtain ⟨L', s2, r2, eL, y2, f2⟩ := rem_keep (n := 17) (L := L) (own := oS) (st := ⟨h1, n1, updL l' "parent" (.int p)⟩) (W1.sy.ag (l' := updL l' "parent" (.int p)) .refl) hp hnum hkid (fun o ho => (X.tr.kid p hp o ho).1) (X.tr.nd p hp)
 obtain ⟨oS', W2, G2⟩ := W1.str y2 f2 eL
 have el : s2.loc = updL l' "parent" (.int p) := f2.loc
 have es : s2 = ⟨s2.heap, s2.next, updL l' "parent" (.int p)⟩ := by rw [← el]
 rw [es] at r2
 generalize s2.heap = h2 at *
 generalize s2.next = n2 at *
 have D2 : LD (T.off p num) (T.off p num) T.nums L' B DS DR NL cl PL ns pl num oS' ⟨h2, n2, updL l' "parent" (.int p)⟩ := D1.on (s' := ⟨h2, n2, updL l' "parent" (.int p)⟩) W2 G2 rfl
 have X1 := X.off hnum hpar
 have Sb := X.sub (p := p) hnum (n := 21) (ltl (htOf_lt X num) (by decide))
 have g1 : updL l' "parent" (.int p) "target" = some (.int t) := (Lo (by decide)).trans lt'
 have g2 : updL l' "parent" (.int p) "came" = some (.int came) := (Lo (by decide)).trans lc'
 have htn : t ≠ num := fun q => ht2 (by rw [q]; exact .head _)
 have fin : Wp (denSs pi01 (phi pi01 22) (evL cl) ((whileB deed5).drop 5)) ⟨h2, n2, updL l' "parent" (.int p)⟩ (LP DS DR NL cl ns K) := by
  cases hb : Int.fmod (Int.fdiv a0 8) 2 == 0 with
  | true =>
   refine Wp_last (Wp_ifT (tC (bB (bB (D2.part (i := 0) hp0 (by decide)) bI (b_fdiv ⟨by decide, by decide⟩)) bI (b_mod (by decide))) bI (b_cmpEq.trans ?_)) (attach_lay D2 X1 Sb ht2 ht1 ⟨ht1, hnum⟩ rfl (by decide) (by decide) (by decide) (by decide) g1 D2.l6 fun L' oS2 rk' h' n' D3 X3 => ⟨rfl, D3.doneN rfl X3 g2 hc⟩))
   rw [hb]
  | false =>
   refine Wp_last (Wp_ifF (tC (bB (bB (D2.part (i := 0) hp0 (by decide)) bI (b_fdiv ⟨by decide, by decide⟩)) bI (b_mod (by decide))) bI (b_cmpEq.trans ?_)) (attach_alone D2 X1 Sb ht2 ht1 ⟨ht1, hnum⟩ rfl (by decide) (by decide) (by decide) (by decide) g1 D2.l6 fun L' oS2 rk' h' n' D3 X3 => ⟨rfl, D3.doneN (alone_eq (T := T.off p num) htn).1 X3 g2 hc⟩))
   rw [hb]
 obtain ⟨f, s, e, q⟩ := fin
 refine ⟨f, s, run (sC (sA rfl (bK (gO (nm (by decide))) rfl (by decide) (by decide) (bC D'.nrows (bC D'.nnum bE)) r1) (aN (nm (by decide)))) (sC (s_expr rfl (b_methK (by decide) rfl (D1.str hp (bN (by decide) (nm (by decide)) cS) rfl fun _ _ => rfl) (D1.inst hp) rfl (by decide) (bC (D1.str hnum D1.nnum rfl fun _ _ => rfl) bE) (bS b_bool rfl) r2)) e)), q⟩
end
end
section
theorem comp_keys {P : PI} {Φ : Phi} {ev : AEnv} {it : Expr} {sc : Scope} {x : Str} {q1 q2 p : Pos} {st s1 : S} {i ver : Nat} {es : List (Int × V)} (hok : compOk ev sc = true) (hd : ev.hd = false) (hx : (compEnv ev sc).names.lookup x = some .local) (dx : x ≠ "__debug__") (hit : denE P Φ ev it st = .ok (.ref i) s1) (hh : s1.heap i = some (.dictI es ver)) (hlt : i < s1.next) (hlen : es.length < 100) :
  denE P Φ ev (.ListComp (.Name x q1) [⟨.Name x q2, it, [], 0⟩] sc p) st = .ok (.ref s1.next) ⟨upd s1.heap s1.next (.list ((es.map (·.1)).map .int)), s1.next + 1, s1.loc⟩ := by
 obtain ⟨f, s', e, done, d1, d2, d3⟩ := Wp_dict (i := i) (ver := ver) (es := es) (tv := targetV (compEnv ev sc) (.Name x q2)) (body := compTurnM s1.next (denAll P Φ (compEnv ev sc) []) (denE P Φ (compEnv ev sc) (.Name x q1))) (Q := fun _ s => ∃ done, done ++ [] = es.map (·.1) ∧ s.heap = upd s1.heap s1.next (.list (done.map .int)) ∧ s.next = s1.next + 1) (I := fun rest s => ∃ done, done ++ rest = es.map (·.1) ∧ s.heap = upd s1.heap s1.next (.list (done.map .int)) ∧ s.next = s1.next + 1)
  (fun rest s h => by
   obtain ⟨done, d1, d2, d3⟩ := h
   rw [d2]; exact (uO (Nat.ne_of_lt hlt)).trans hh) (fun k rest s h => by
   obtain ⟨done, d1, d2, d3⟩ := h
   refine ⟨_, bT hx, Wp_of (a := Mine.Flow.next) (ct_yes (ys := done.map .int) rfl (bN dx hx cS) (by show s.heap s1.next = _; rw [d2]; exact uS _ _ _) (by
    have := congrArg List.length d1
    rw [List.length_append, List.length_map] at this
    rw [List.length_map]; lia)) ⟨done ++ [k], by rw [List.append_assoc]; exact d1, ?_, d3⟩⟩
   show upd s.heap s1.next _ = _
   rw [d2, upd_upd, List.map_append]
   rfl) (fun s h => h) wlim 0 (es.map (·.1)) ⟨upd s1.heap s1.next (.list []), s1.next + 1, fun _ => none⟩ rfl (by rw [List.length_map]; exact hlen) ⟨[], rfl, rfl, rfl⟩
 rw [List.append_nil] at d1
 have ei : itOf (compEnv ev sc).hd (.ref i) s1 = .ok (.dict i ver es.length) s1 := by
  show itOf ev.hd (.ref i) s1 = _
  rw [hd]; exact itOf_dict hh
 refine comp_den hok hd (bS hit (bS ei (bS (a := s1.next) rfl (bS (a := s1.loc) rfl (bS (a := ()) rfl (bS (a := f) (s1 := s') (show noExc _ _ = .ok f s' by unfold noExc; exact (by rw [show loopD wlim (nextOf (.dict i ver es.length) (targetV (compEnv ev sc) (.Name x q2))) _ 0 _ = _ from e])) ?_))))))
 show R.ok (V.ref s1.next) (S.mk s'.heap s'.next s1.loc) = _
 rw [d2, d3, d1]
theorem t_and2 {P : PI} {Φ : Phi} {ev : AEnv} {x y : Expr} {p : Pos} {m : M V} {b : Bool} {st s1 s2 : S} (h1 : denT P Φ ev x (denE P Φ ev x) st = .ok true s1) (h2 : denT P Φ ev y (denE P Φ ev y) s1 = .ok b s2) : denT P Φ ev (.BoolOp .And [x, y] p) m st = .ok b s2 := bS h1 (bS h2 (by cases b <;> rfl))
theorem t_orT {P : PI} {Φ : Phi} {ev : AEnv} {x : Expr} {r : List Expr} {p : Pos} {m : M V} {st s1 : S} (h1 : denT P Φ ev x (denE P Φ ev x) st = .ok true s1) : denT P Φ ev (.BoolOp .Or (x :: r) p) m st = .ok true s1 := bS h1 rfl
section
variable {T : Tab} {rk : Int → Nat} {came : Nat} {L : Rl → Nat} {B : Int → Nat} {DS DR NL cl PL TL : Nat} {ns pl : List Int} {num kd a0 p2 : Int} {oS : Nat → Prop} {h : Hp} {n : Nat} {l : Str → Option V}
structure HD (T : Tab) (L : Rl → Nat) (B : Int → Nat) (DS DR NL cl PL TL : Nat) (ns pl : List Int) (num kd : Int) (came : Nat) (oS : Nat → Prop) (s : S) : Prop where
 d : LD T T T.nums L B DS DR NL cl PL ns pl num oS s
 hcame : s.loc "came" = some (.int came)
 hkind : s.loc "kind" = some (.int kd)
 hthere : s.loc "there" = some (.ref TL)
 tl : s.heap TL = some (.list (T.nums.map .int))
 tlt : TL < s.next
 hnum : num ∈ T.nums
 rng : 0 ≤ kd ∧ kd < 8
 zero : num = 0 → kd ≠ 4 ∧ kd ≠ 5 ∧ kd ≠ 6
theorem dispatch {K : Nat} (H : HD T L B DS DR NL cl PL TL ns pl num kd came oS ⟨h, n, l⟩) (X : WX T rk came none) (hc : came < 14) (hK : came + 1 ≤ K) (h0 : pl[0]? = some a0) (h2 : pl[2]? = some p2) : Wp (denSs pi01 (phi pi01 22) (evL cl) [deeds]) ⟨h, n, l⟩ (LP DS DR NL cl ns K) := by
 have nk : ∀ {pp : Pos}, denE pi01 (phi pi01 22) (evL cl) (.Name "kind" pp) ⟨h, n, l⟩ = .ok (.int kd) ⟨h, n, l⟩ := bN (by decide) (nm (by decide)) H.hkind
 have yes : ∀ {j : Int} {kk : Nat} {q1 q2 q3 : Pos} {m : M V}, kd = j → denT pi01 (phi pi01 22) (evL cl) (.Compare (.Name "kind" q1) [.Eq] [.Constant (.int j) kk q2] q3) m ⟨h, n, l⟩ = .ok true ⟨h, n, l⟩ := fun {j} _ _ _ _ _ e => tC nk bI (b_cmpEq.trans (by rw [e, beq_self_eq_true]))
 have no : ∀ {j : Int} {kk : Nat} {q1 q2 q3 : Pos} {m : M V}, kd ≠ j → denT pi01 (phi pi01 22) (evL cl) (.Compare (.Name "kind" q1) [.Eq] [.Constant (.int j) kk q2] q3) m ⟨h, n, l⟩ = .ok false ⟨h, n, l⟩ := fun {j} _ _ _ _ _ e => tC nk bI (b_cmpEq.trans (by rw [beq_eq_false_iff_ne.mpr e]))
 have hcn : lawNames[came]? = some (lawNames[came]'hc) := List.getElem?_eq_getElem hc
 have hK' : came ≤ K := Nat.le_of_succ_le hK
 have hr := H.rng
 have hz := H.zero
 by_cases k0 : kd = 0
 ·exact Wp_last (Wp_ifT (t_orT (yes k0)) (deed_new H.d X H.hcame hcn hK h2 H.hkind H.hnum))
 by_cases k3 : kd = 3
 ·exact Wp_last (Wp_ifT (t_or (no k0) (yes k3)) (deed_new H.d X H.hcame hcn hK h2 H.hkind H.hnum))
 refine Wp_last (Wp_ifF (t_or (no k0) (no k3)) ?_)
 by_cases k1 : kd = 1
 ·exact Wp_last (Wp_ifT (t_orT (yes k1)) (deed_turn H.d X H.hcame hK' H.hkind H.hnum))
 by_cases k2 : kd = 2
 ·exact Wp_last (Wp_ifT (t_or (no k1) (yes k2)) (deed_turn H.d X H.hcame hK' H.hkind H.hnum))
 refine Wp_last (Wp_ifF (t_or (no k1) (no k2)) ?_)
 by_cases k4 : kd = 4
 ·exact Wp_last (Wp_ifT (yes k4) (deed_out H.d X H.hcame hK' H.hnum fun q => (hz q).1 k4))
 refine Wp_last (Wp_ifF (no k4) ?_)
 by_cases k5 : kd = 5
 ·exact Wp_last (Wp_ifT (yes k5) (deed_move H.d X H.hcame hK' H.hthere H.tl H.tlt H.hnum (fun q => (hz q).2.1 k5) h0 h2))
 refine Wp_last (Wp_ifF (no k5) ?_)
 by_cases k6 : kd = 6
 ·exact Wp_last (Wp_ifT (yes k6) (deed_mark H.d X H.hcame hK' H.hnum))
 exact Wp_last (Wp_ifF (no k6) (deed_weight H.d X H.hcame hK' H.hnum h0 h2))
end
end
section
section
variable {T : Tab} {rk : Int → Nat} {came : Nat} {L : Rl → Nat} {B : Int → Nat} {DS DR NL cl : Nat} {ns : List Int} {oS : Nat → Prop} {h : Hp} {n : Nat} {l : Str → Option V}
theorem deed_run {k : Nat} (S0 : LS T rk came L B DS DR NL cl ns oS ⟨h, n, l⟩) (hc : came ≤ k) (hk : 3 * k < ns.length) (hl : ns.length ≤ 42) (lst : l "start" = some (.int ((3 * k : Nat) : Int))) : Wp (denSs pi01 (phi pi01 22) (evL cl) (whileB lawF)) ⟨h, n, l⟩ (LP DS DR NL cl ns (k + 1)) := by
 have X := S0.wx
 have few := X.few
 obtain ⟨cv, c1, c2, c3⟩ := S0.ce
 have hp : ∃ a b c r, (ns.take (3 * k + 3)).drop (3 * k) ++ [0, 0] = a :: b :: c :: r := by
  cases e : (ns.take (3 * k + 3)).drop (3 * k) with
  | nil =>
   have := congrArg List.length e
   rw [List.length_drop, List.length_take] at this
   have e0 : ([] : List Int).length = 0 := rfl
   lia
  | cons a q =>
   cases q with
   | nil => exact ⟨a, 0, 0, [], rfl⟩
   | cons b q =>
    cases q with
    | nil => exact ⟨a, b, 0, [0], rfl⟩
    | cons c q => exact ⟨a, b, c, q ++ [0, 0], rfl⟩
 obtain ⟨pa, pb, pc, pr, hpl⟩ := hp
 generalize hpd : (ns.take (3 * k + 3)).drop (3 * k) = pd at hpl
 have ll : pd.length ≤ 3 := by
  rw [← hpd, List.length_drop, List.length_take]; lia
 have nst : ∀ {h : Hp} {n : Nat} {pp : Pos}, denE pi01 (phi pi01 22) (evL cl) (.Name "start" pp) ⟨h, n, l⟩ = .ok (.int ((3 * k : Nat) : Int)) ⟨h, n, l⟩ := bN (by decide) (nm (by decide)) lst
 have hnl : h NL = some (.list (ns.map .int)) := S0.nl.1
 have sl := sl_at (st := ⟨h, n, l⟩) (i := NL) (a := .int ((3 * k : Nat) : Int)) (l := 3 * k) (b := 3 * k + 3) (rdS_list hnl) (nat_at (by lia)) (by lia) (by rw [List.length_map]; lia)
 have em : ((ns.map V.int).take (3 * k + 3)).drop (3 * k) = pd.map .int := by rw [← hpd, List.map_drop, List.map_take]
 rw [em] at sl
 have cat := b_cat (st := ⟨upd (upd h n (.list (pd.map .int))) (n + 1) (.list [.int 0, .int 0]), n + 2, l⟩) (i := n) (j := n + 1) ((uO (Nat.ne_of_lt (Nat.lt_succ_self _))).trans (uS _ _ _)) (uS _ _ _) (by rw [List.length_map]; show pd.length + 2 < 100000; lia)
 rw [show pd.map V.int ++ [.int 0, .int 0] = (pd ++ [0, 0]).map .int by rw [List.map_append]; rfl, hpl] at cat
 have s0 : denS pi01 (phi pi01 22) (evL cl) ((whileB lawF).getD 0 (.Pass default)) ⟨h, n, l⟩ = .ok .next ⟨upd (upd (upd h n (.list (pd.map .int))) (n + 1) (.list [.int 0, .int 0])) (n + 2) (.list ((pa :: pb :: pc :: pr).map .int)), n + 3, updL l "part" (.ref (n + 2))⟩ :=
  sA rfl (bB (b_slice (bN (by decide) (nm (by decide)) S0.l4) nst (bB nst bI b_add) sl) (b_list rfl (bC bI (bC bI bE))) cat) (aN (nm (by decide)))
 have A1 : Ag n h (n + 3) (upd (upd (upd h n (.list (pd.map .int))) (n + 1) (.list [.int 0, .int 0])) (n + 2) (.list ((pa :: pb :: pc :: pr).map .int))) := (Ag.new.trans .new).trans .new
 have W1 := S0.lw.ag A1
 have hPL : upd (upd (upd h n (.list (pd.map .int))) (n + 1) (.list [.int 0, .int 0])) (n + 2) (.list ((pa :: pb :: pc :: pr).map .int)) (n + 2) = some (.list ((pa :: pb :: pc :: pr).map .int)) := uS _ _ _
 generalize upd (upd (upd h n (.list (pd.map .int))) (n + 1) (.list [.int 0, .int 0])) (n + 2) (.list ((pa :: pb :: pc :: pr).map .int)) = h1 at *
 clear sl em cat hpl hpd ll nst
 obtain ⟨ver, dr⟩ := W1.rs.dr
 have A2 : Ag (n + 3) h1 (n + 4) (upd h1 (n + 3) (.list (T.nums.map .int))) := .new
 have s1 : denS pi01 (phi pi01 22) (evL cl) ((whileB lawF).getD 1 (.Pass default)) ⟨h1, n + 3, updL l "part" (.ref (n + 2))⟩ = .ok .next ⟨upd h1 (n + 3) (.list (T.nums.map .int)), n + 4, updL (updL l "part" (.ref (n + 2))) "there" (.ref (n + 3))⟩ := by
  have e : (T.nums.map fun k => (k, V.ref (B k))).map (·.1) = T.nums := by rw [List.map_map]; exact List.map_id _
  refine sA rfl (a := .ref (n + 3)) (s1 := ⟨upd h1 (n + 3) (.list (T.nums.map .int)), n + 4, updL l "part" (.ref (n + 2))⟩) ?_ (aN (nm (by decide)))
  rw [← e]
  exact comp_keys rfl rfl (cnm (by decide)) (by decide) (bN (by decide) (nm (by decide)) ((cO (by decide)).trans S0.l2)) dr W1.rs.lt (by rw [List.length_map]; lia)
 have W2 := W1.ag A2
 have hTL : upd h1 (n + 3) (.list (T.nums.map .int)) (n + 3) = some (.list (T.nums.map .int)) := uS _ _ _
 have hPL2 := (A2.eq (n + 2) (Nat.lt_succ_self _)).trans hPL
 have A3 := A1.trans A2
 generalize upd h1 (n + 3) (.list (T.nums.map .int)) = h2 at *
 have lpos : 0 < T.nums.length := List.length_pos_of_mem X.zr
 obtain ⟨j, hj, hj2⟩ := fmod_nat (x := pb) lpos
 have hnum := List.getElem_mem hj2
 have g3 : (updL (updL l "part" (.ref (n + 2))) "there" (.ref (n + 3))) "there" = some (.ref (n + 3)) := lS
 have g4 : (updL (updL l "part" (.ref (n + 2))) "there" (.ref (n + 3))) "part" = some (.ref (n + 2)) := (Lo (by decide)).trans lS
 have s2 : denS pi01 (phi pi01 22) (evL cl) ((whileB lawF).getD 2 (.Pass default)) ⟨h2, n + 4, updL (updL l "part" (.ref (n + 2))) "there" (.ref (n + 3))⟩ = .ok .next ⟨h2, n + 4, updL (updL (updL l "part" (.ref (n + 2))) "there" (.ref (n + 3))) "number" (.int T.nums[j])⟩ := by
  refine sA rfl (b_item rfl (fun _ _ => rfl) (bN (by decide) (nm (by decide)) g3) (bB (b_item rfl (fun _ _ => rfl) (bN (by decide) (nm (by decide)) g4) bI hPL2 (su_list (k := 1) (v := .int pb) (by decide) rfl)) (bK (gO (nm (by decide))) rfl (by decide) (by decide) (bC (bN (by decide) (nm (by decide)) g3) bE) (lenOf hTL (by rw [List.length_map]; lia))) (b_mod (by rw [List.length_map]; lia))) hTL ?_) (aN (nm (by decide)))
  rw [List.length_map, hj]
  exact su_list (by lia) (by rw [List.getElem?_map, List.getElem?_eq_getElem hj2]; rfl)
 generalize T.nums[j] = num at *
 obtain ⟨kj, hkj, hkj2⟩ := fmod_nat (x := pa) (y := 8) (by decide)
 have hkj : Int.fmod pa 8 = kj := hkj
 have part0 : ∀ {h' : Hp} {n' : Nat} {q1 q2 q3 : Pos} {kk : Nat}, h' (n + 2) = some (.list ((pa :: pb :: pc :: pr).map .int)) → denE pi01 (phi pi01 22) (evL cl) (.Subscript (.Name "part" q1) (.Constant (.int 0) kk q2) q3) ⟨h', n', updL (updL (updL l "part" (.ref (n + 2))) "there" (.ref (n + 3))) "number" (.int num)⟩ = .ok (.int pa) ⟨h', n', updL (updL (updL l "part" (.ref (n + 2))) "there" (.ref (n + 3))) "number" (.int num)⟩ := fun e => b_item rfl (fun _ _ => rfl) (bN (by decide) (nm (by decide)) ((cO (by decide)).trans g4)) bI e (su_list (k := 0) (v := .int pa) (by decide) rfl)
 have s3 : ∃ kd h3 n3, denS pi01 (phi pi01 22) (evL cl) ((whileB lawF).getD 3 (.Pass default)) ⟨h2, n + 4, updL (updL (updL l "part" (.ref (n + 2))) "there" (.ref (n + 3))) "number" (.int num)⟩ = .ok .next ⟨h3, n3, updL (updL (updL (updL l "part" (.ref (n + 2))) "there" (.ref (n + 3))) "number" (.int num)) "kind" (.int kd)⟩ ∧ Ag (n + 4) h2 n3 h3 ∧ (0 ≤ kd ∧ kd < 8) ∧ (num = 0 → kd ≠ 4 ∧ kd ≠ 5 ∧ kd ≠ 6) := by
  have nn : ∀ {pp : Pos}, denE pi01 (phi pi01 22) (evL cl) (.Name "number" pp) ⟨h2, n + 4, updL (updL (updL l "part" (.ref (n + 2))) "there" (.ref (n + 3))) "number" (.int num)⟩ = .ok (.int num) ⟨h2, n + 4, updL (updL (updL l "part" (.ref (n + 2))) "there" (.ref (n + 3))) "number" (.int num)⟩ := bN (by decide) (nm (by decide)) cS
  by_cases e : num = 0
  ·have eb : (num == 0) = true := by rw [e]; rfl
   have A4 : Ag (n + 4) h2 (n + 5) (upd h2 (n + 4) (.list [.int 4, .int 5, .int 6])) := .new
   cases hb : ([4, 5, 6] : List Int).any (· == Int.fmod pa 8) with
   | true =>
    have e1 : denE pi01 (phi pi01 22) (evL cl) (whileT ((whileB lawF).getD 3 (.Pass default))) ⟨h2, n + 4, updL (updL (updL l "part" (.ref (n + 2))) "there" (.ref (n + 3))) "number" (.int num)⟩ = .ok (.int 1) ⟨upd h2 (n + 4) (.list [.int 4, .int 5, .int 6]), n + 5, updL (updL (updL l "part" (.ref (n + 2))) "there" (.ref (n + 3))) "number" (.int num)⟩ := (b_ifexpT (t_and2 (tC nn bI (b_cmpEq.trans (by rw [eb]))) (tC (bB (part0 hPL2) bI (b_mod (by decide))) (b_list rfl (bC bI (bC bI (bC bI bE)))) ((b_in (l := [4, 5, 6]) (uS _ _ _)).trans (by rw [hb])))) bI)
    exact ⟨1, _, _, sA rfl e1 (aN (nm (by decide))), A4, ⟨by decide, by decide⟩, fun _ => ⟨by decide, by decide, by decide⟩⟩
   | false =>
    refine ⟨Int.fmod pa 8, _, _, sA rfl (b_ifexpF (t_and2 (tC nn bI (b_cmpEq.trans (by rw [eb]))) (tC (bB (part0 hPL2) bI (b_mod (by decide))) (b_list rfl (bC bI (bC bI (bC bI bE)))) ((b_in (l := [4, 5, 6]) (uS _ _ _)).trans (by rw [hb])))) (bB (part0 ((A4.eq _ (by lia)).trans hPL2)) bI (b_mod (by decide)))) (aN (nm (by decide))), A4, by lia, fun _ => ?_⟩
    rw [List.any_eq_false] at hb
    refine ⟨fun q => hb 4 (by decide) ?_, fun q => hb 5 (by decide) ?_, fun q => hb 6 (by decide) ?_⟩ <;> rw [q] <;> rfl
  ·have eb : (num == 0) = false := beq_eq_false_iff_ne.mpr e
   exact ⟨Int.fmod pa 8, _, _, sA rfl (b_ifexpF (t_andF (tC nn bI (b_cmpEq.trans (by rw [eb])))) (bB (part0 hPL2) bI (b_mod (by decide)))) (aN (nm (by decide))), .refl, by lia, fun q => absurd q e⟩
 obtain ⟨kd, h3, n3, s3, A4, rng, zero⟩ := s3
 have A := A3.trans A4
 have W3 := W2.ag A4
 have o : ∀ {z : Str}, z ≠ "part" → z ≠ "there" → z ≠ "number" → z ≠ "kind" → (updL (updL (updL (updL l "part" (.ref (n + 2))) "there" (.ref (n + 3))) "number" (.int num)) "kind" (.int kd)) z = l z := fun h1 h2 h3 h4 => (Lo h4).trans ((Lo h3).trans ((Lo h2).trans (Lo h1)))
 have lpt : (updL (updL (updL (updL l "part" (.ref (n + 2))) "there" (.ref (n + 3))) "number" (.int num)) "kind" (.int kd)) "part" = some (.ref (n + 2)) := (Lo (by decide)).trans ((Lo (by decide)).trans g4)
 have lnm : (updL (updL (updL (updL l "part" (.ref (n + 2))) "there" (.ref (n + 3))) "number" (.int num)) "kind" (.int kd)) "number" = some (.int num) := (Lo (by decide)).trans lS
 have lth : (updL (updL (updL (updL l "part" (.ref (n + 2))) "there" (.ref (n + 3))) "number" (.int num)) "kind" (.int kd)) "there" = some (.ref (n + 3)) := (Lo (by decide)).trans ((Lo (by decide)).trans g3)
 have lkd : (updL (updL (updL (updL l "part" (.ref (n + 2))) "there" (.ref (n + 3))) "number" (.int num)) "kind" (.int kd)) "kind" = some (.int kd) := lS
 have npl : ¬ oS (n + 2) := fun q => by have : n + 2 < n := S0.lw.bd _ q; lia
 have hTL3 := (A4.eq (n + 3) (Nat.lt_succ_self _)).trans hTL
 have hPL3 := (A4.eq (n + 2) (Nat.lt_succ_of_lt (Nat.lt_succ_self _))).trans hPL2
 have le4 : n + 4 ≤ n3 := A4.le
 refine Wp_cons s0 (Wp_cons s1 (Wp_cons s2 (Wp_cons s3 ?_)))
 generalize updL (updL (updL (updL l "part" (.ref (n + 2))) "there" (.ref (n + 3))) "number" (.int num)) "kind" (.int kd) = lo at *
 exact dispatch (a0 := pa) (p2 := pc) (pl := pa :: pb :: pc :: pr) (num := num) (kd := kd) (PL := n + 2) (TL := n + 3) ⟨⟨W3, (o (by decide) (by decide) (by decide) (by decide)).trans S0.l1, (o (by decide) (by decide) (by decide) (by decide)).trans S0.l2, (o (by decide) (by decide) (by decide) (by decide)).trans S0.l4, lpt, lnm, ⟨(A.eq NL S0.nl.2.1).trans hnl, ltl S0.nl.2.1 A.le, S0.nl.2.2⟩, ⟨cv, (A.eq cl c2).trans c1, ltl c2 A.le, c3⟩, ⟨hPL3, by show n + 2 < n3; lia, npl⟩⟩, (o (by decide) (by decide) (by decide) (by decide)).trans S0.l3, lkd, lth, hTL3, by show n + 3 < n3; lia, hnum, rng, zero⟩ X (by lia) (Nat.succ_le_succ hc) rfl rfl
theorem Wp_rng {a b st : Int} {tv : V → M Unit} {body : M Mine.Flow} {Q : Mine.Flow → S → Prop} {I : Nat → S → Prop} {M : Nat} (hM : ∀ k : Nat, M ≤ k → ¬ a + st * k < b) (step : ∀ (k : Nat) s, I k s → a + st * k < b → ∃ s', tv (.int (a + st * k)) s = .ok () s' ∧ Wp body s' (Turn Q (I (k + 1)))) (hQ : ∀ k s, I k s → Q .next s) :
  ∀ (fuel k : Nat) (s : S), k ≤ M → M < fuel + k → I k s → Wp (loopD fuel (nextR a b st tv) body k) s Q
 | 0, k, s, hk, hf, hI => absurd hf (by lia)
 | fuel + 1, k, s, hkM, hf, hI => by
  by_cases hk : a + st * k < b
  ·obtain ⟨s', e1, f, s'', e2, q⟩ := step k s hI hk
   have nx : nextR a b st tv k s = .ok true s' := b_if hk (bS e1 rfl)
   have go : I (k + 1) s'' → Wp (loopD fuel (nextR a b st tv) body (k + 1)) s'' Q := Wp_rng hM step hQ fuel (k + 1) s'' (Nat.lt_of_not_le fun q => hM k q hk) (by lia)
   cases f with
   | next => obtain ⟨a, t, e3, q'⟩ := go q; exact ⟨a, t, bS nx (b_if rfl (bS e2 e3)), q'⟩
   | cont => obtain ⟨a, t, e3, q'⟩ := go q; exact ⟨a, t, bS nx (b_if rfl (bS e2 e3)), q'⟩
   | brk => exact ⟨_, s'', bS nx (b_if rfl (bS e2 rfl)), q⟩
   | ret v => exact ⟨_, s'', bS nx (b_if rfl (bS e2 rfl)), q⟩
  ·exact ⟨.next, s, bS (b_ifn hk rfl) (b_ifn Bool.false_ne_true rfl), hQ k s hI⟩
end
end
section
theorem Wp_range {P : PI} {Φ : Phi} {ev : AEnv} {t : Expr} {args : List Expr} {fp pp p : Pos} {b : List Stmt} {vs : List V} {a e d : Int} {st s1 : S} {Q : Mine.Flow → S → Prop} (hg : isGlobal ev ("range" : Str) = true) (hs : noStars args = true) (hd : ev.hd = false) (hv : denEs P Φ ev args st = .ok vs s1) (hr : rangeM vs = some (a, e, d))
  (w : Wp (loopD wlim (nextR a e d (targetV ev t)) (denSs P Φ ev b) 0) s1 Q) : Wp (denS P Φ ev (.For t (.Call (.Name "range" fp) args [] pp) b [] p)) st Q := by
 obtain ⟨f, s2, e2, q⟩ := w
 refine ⟨f, s2, b_if (c := ([] : List Stmt).isEmpty = true) (m' := failM) rfl ?_, q⟩
 exact b_if (c := isGlobal ev ("range" : Str) = true ∧ ("range" : Str) = ("range" : Str)) ⟨hg, rfl⟩ (b_if (c := noStars args = true ∧ ev.hd = false) ⟨hs, hd⟩ (bS hv (bS (bG hr) e2)))
section
variable {T : Tab} {rk : Int → Nat} {came : Nat} {L : Rl → Nat} {B : Int → Nat} {DS DR NL cl : Nat} {ns : List Int} {oS : Nat → Prop} {h : Hp} {n : Nat} {l : Str → Option V}
theorem LS.set (S0 : LS T rk came L B DS DR NL cl ns oS ⟨h, n, l⟩) {x : Str} {v : V} (hx : x ∉ (["streams", "rows", "came", "numbers"] : List Str)) : LS T rk came L B DS DR NL cl ns oS ⟨h, n, updL l x v⟩ := by
 have ne : ∀ y ∈ (["streams", "rows", "came", "numbers"] : List Str), y ≠ x := fun y hy q => hx (q ▸ hy)
 exact ⟨S0.lw, S0.wx, (Lo (ne _ (by decide))).trans S0.l1, (Lo (ne _ (by decide))).trans S0.l2, (Lo (ne _ (by decide))).trans S0.l3, (Lo (ne _ (by decide))).trans S0.l4, S0.nl, S0.ce⟩
theorem law_deeds {s : S} (H : LQ DS DR NL cl ns 0 s) (hl : ns.length ≤ 42) : Wp (denS pi01 (phi pi01 22) (evL cl) lawF) s fun f s' => f = .next ∧ ∃ k, LQ DS DR NL cl ns k s' := by
 obtain ⟨T0, rk0, came0, L0, B0, oS0, hc0, S0⟩ := id H
 refine Wp_range (a := 0) (e := (ns.length : Int)) (d := 3) (gO (nm (by decide))) rfl rfl (bC bI (bC (bK (gO (nm (by decide))) rfl (by decide) (by decide) (bC (bN (by decide) (nm (by decide)) S0.l4) bE) (lenOf S0.nl.1 (by rw [List.length_map]; lia))) (bC bI bE))) ?_ (Wp_rng (I := fun k s => LQ DS DR NL cl ns k s) (M := 14) (fun k hk q => ?_) (fun k s hI hk => ?_) (fun k s hI => ⟨rfl, k, hI⟩) wlim 0 s (Nat.zero_le _) (by decide) H)
 ·show (if (0 : Int) < 3 ∧ (3 : Int) < 1000 ∧ (0 : Int) ≤ 0 ∧ (0 : Int) < 1000 ∧ (0 : Int) ≤ ((ns.map V.int).length : Int) ∧ ((ns.map V.int).length : Int) < 1000 then some ((0 : Int), ((ns.map V.int).length : Int), (3 : Int)) else none) = _
  rw [List.length_map]
  exact if_pos ⟨by decide, by decide, by decide, by decide, by lia, by lia⟩
 ·lia
 ·obtain ⟨T1, rk1, came1, L1, B1, oS1, hc1, S1⟩ := hI
  have e : (0 : Int) + 3 * (k : Int) = ((3 * k : Nat) : Int) := by lia
  rw [e] at hk ⊢
  refine ⟨_, bT (nm (by decide)), Wp_mono (deed_run (S1.set (x := "start") (v := .int ((3 * k : Nat) : Int)) (by decide)) hc1 (by lia) hl lS) fun f s' q => ?_⟩
  rw [q.1]
  exact q.2
theorem law_turns {s : S} {k : Nat} (H : LQ DS DR NL cl ns k s) : Wp (denS pi01 (phi pi01 22) (evL cl) (g_law.body.getD 7 (.Pass default))) s fun f s' => f = .next ∧ LQ DS DR NL cl ns k s' := by
 refine Wp_range (a := 0) (e := 3) (d := 1) (gO (nm (by decide))) rfl rfl (bC bI bE) rfl (Wp_rng (I := fun _ s => LQ DS DR NL cl ns k s) (M := 3) (fun j hj q => by lia) (fun j s hI hj => ?_) (fun j s hI => ⟨rfl, hI⟩) wlim 0 s (Nat.zero_le _) (by decide) H)
 obtain ⟨T1, rk1, came1, L1, B1, oS1, hc1, S1⟩ := hI
 have S2 := S1.set (x := "again") (v := .int (0 + 1 * (j : Int))) (by decide)
 have X := S2.wx
 have str : ∀ {q1 q2 q3 : Pos} {kk : Nat}, denE pi01 (phi pi01 22) (evL cl) (.Subscript (.Name "streams" q1) (.Constant (.int 0) kk q2) q3) ⟨s.heap, s.next, updL s.loc "again" (.int (0 + 1 * (j : Int)))⟩ = .ok (.ref (L1 (.A 0))) ⟨s.heap, s.next, updL s.loc "again" (.int (0 + 1 * (j : Int)))⟩ := by
  obtain ⟨v, e⟩ := S2.lw.ds
  exact b_item rfl (fun _ _ => rfl) (bN (by decide) (nm (by decide)) S2.l1) bI e (su_dI (getF_map (α := Int) X.zr))
 have en : (T1.after 16 0).nums = T1.nums := by
  unfold Tab.after
  by_cases q : T1.able 0 = true
  ·rw [if_pos q]
  ·rw [if_neg q]; rfl
 obtain ⟨cv, c1, c2, c3⟩ := S2.ce
 have R : ∃ oS' h' n', denS pi01 (phi pi01 22) (evL cl) ((whileB (g_law.body.getD 7 (.Pass default))).getD 0 (.Pass default)) ⟨s.heap, s.next, updL s.loc "again" (.int (0 + 1 * (j : Int)))⟩ = .ok .next ⟨h', n', updL s.loc "again" (.int (0 + 1 * (j : Int)))⟩ ∧ LW (T1.after 16 0) (T1.after 16 0) T1.nums L1 B1 DS DR oS' h' n' ∧ LF oS1 s.next s.heap oS' n' h' := by
  obtain ⟨oS', h', n', r, w, f⟩ := ts_run (cl := cl) (m := denE pi01 (phi pi01 22) (evL cl) (whileT ((whileB (g_law.body.getD 7 (.Pass default))).getD 0 (.Pass default)))) S2.lw X X.zr str (fun _ _ => bN (by decide) (nm (by decide)) S2.l2) (fun _ _ => bI) rfl rfl
  exact ⟨oS', h', n', s_ifF r sN, w, f⟩
 obtain ⟨oS', h', n', r, w, f⟩ := R
 rw [← en] at w
 have kn := f.keep _ _ S2.nl.2.1 S2.nl.2.2 S2.nl.1 rfl
 have kc := f.keep _ _ c2 c3 c1 rfl
 exact ⟨_, bT (nm (by decide)), Wp_of (a := Mine.Flow.next) (sC r sN) ⟨_, rk1, came1, L1, B1, oS', hc1, w, X.after 16 0, S2.l1, S2.l2, S2.l3, S2.l4, ⟨kn.1, ltl S2.nl.2.1 f.le, kn.2⟩, ⟨cv, kc.1, ltl c2 f.le, kc.2⟩⟩⟩
theorem law_last {s : S} {k : Nat} (H : LQ DS DR NL cl ns k s) : ∃ s', denS pi01 (phi pi01 22) (evL cl) (g_law.body.getD 8 (.Pass default)) s = .ok (.ret (.bool true)) s' := by
 obtain ⟨T1, rk1, came1, L1, B1, oS1, hc1, S1⟩ := H
 have X := S1.wx
 obtain ⟨s', e⟩ := same_run (m := 20) (st := s) X.tr X.few40 (fun k hk p hp => (X.pm hk hp).1) (Nat.le_trans X.few (by decide)) ⟨S1.lw.sy, S1.lw.rs, S1.lw.ds, S1.lw.dl⟩
 exact ⟨s', s_ret (bK (gO (nm (by decide))) rfl (by decide) (by decide) (bC (bN (by decide) (nm (by decide)) S1.l1) (bC (bN (by decide) (nm (by decide)) S1.l2) bE)) e)⟩
end
end
noncomputable def tab0 : Tab := ⟨[0], fun _ => 1, fun _ => false, fun _ => none, fun _ => [], fun _ => 0, fun _ => 0, fun _ => 0⟩
noncomputable def L00 (a : Nat) : Rl → Nat
 | .A _ => a
 | .ch _ => a + 1
 | .cq _ => a + 2
theorem wx0 : WX tab0 (fun _ => 0) 0 none :=
 ⟨⟨fun _ _ _ h => (zL h), fun _ _ => .nil, fun _ _ => (⟨by decide, by decide⟩ : (1 : Int) ≤ 1 ∧ (1 : Int) ≤ 256)⟩, List.pairwise_singleton _ _, .head _, rfl, fun c hc h0 => absurd (smp hc) h0, (fun _ h => zN h), fun c hc => .inl (smp hc)⟩
theorem sy0 {a n : Nat} {h : Hp} {l : Str → Option V} (h1 : h a = some (.inst (sf 0 1 (a + 1) .none (a + 2) false 0 0))) (h2 : h (a + 1) = some (.list [])) (h3 : h (a + 2) = some (.list [])) (hn : a + 3 ≤ n) : SY tab0 (L00 a) (fun b => a ≤ b ∧ b < a + 3) ⟨h, n, l⟩ := by
 have k0 : ∀ r : Rl, r.key ∈ tab0.nums → r = .A 0 ∨ r = .ch 0 ∨ r = .cq 0 := fun r hr => by
  have e := smp hr
  cases r with
  | A k => exact .inl (congrArg Rl.A e)
  | ch k => exact .inr (.inl (congrArg Rl.ch e))
  | cq k => exact .inr (.inr (congrArg Rl.cq e))
 have e1 : L00 a (.A 0) = a := rfl
 have e2 : L00 a (.ch 0) = a + 1 := rfl
 have e3 : L00 a (.cq 0) = a + 2 := rfl
 refine ⟨fun _ => [], ⟨fun r hr => ?_, fun r hr => ?_, fun r r' hr hr' e => ?_, fun _ _ => ⟨.nil, (fun _ h => zL h), Nat.zero_le _⟩, fun _ _ => Nat.zero_le _⟩, fun _ _ => .refl _⟩
 ·rcases k0 r hr with rfl | rfl | rfl
  ·exact h1
  ·exact h2
  ·exact ⟨[], h3, trivial, fun _ h => zL h⟩
 ·rcases k0 r hr with rfl | rfl | rfl
  ·rw [e1]; exact ⟨by show a < n; lia, by lia, by lia⟩
  ·rw [e2]; exact ⟨by show a + 1 < n; lia, by lia, by lia⟩
  ·rw [e3]; exact ⟨by show a + 2 < n; lia, by lia, by lia⟩
 ·rcases k0 r hr with rfl | rfl | rfl <;> rcases k0 r' hr' with rfl | rfl | rfl <;> first | rfl | (simp only [e1, e2, e3] at e; lia)
theorem law_body {i cl : Nat} {ns : List Int} {h : Hp} {n : Nat} {l : Str → Option V} {cv : Option V} (hi : h i = some (.ro (ns.map .int))) (hil : i < n) (hc : h cl = some (.cell cv)) (hcl : cl < n) (hs : l "script" = some (.ref i)) (hlen : ns.length ≤ 63) : ∃ s', denSs pi01 (phi pi01 22) (evL cl) g_law.body ⟨h, n, l⟩ = .ok (.ret (.bool true)) s' := by
 obtain ⟨s1, a1, a2, a3, a4, a5, a6, a7⟩ := new_run 20 ⟨h, n, l⟩ 0 1 [.int 0, .int 1] (.inl rfl) ⟨by decide, by decide⟩
 have es : s1 = ⟨s1.heap, n + 3, l⟩ := by rw [show n + 3 = s1.next from a2.symm, show l = s1.loc from a3.symm]
 rw [es] at a1
 generalize s1.heap = h1 at *
 have a4 : h1 n = some (.inst (sf 0 1 (n + 1) .none (n + 2) true 0 0)) := a4
 have a5 : h1 (n + 1) = some (.list []) := a5
 have a6 : h1 (n + 2) = some (.list []) := a6
 have a7 : ∀ j, j < n → h1 j = h j := a7
 clear es a2 a3
 have x0 : denS pi01 (phi pi01 22) (evL cl) (g_law.body.getD 0 (.Pass default)) ⟨h, n, l⟩ = .ok .next ⟨upd h1 (n + 4) (.dictI [(0, .ref n)] (n + 3)), n + 5, updL l "streams" (.ref (n + 4))⟩ :=
  sA rfl (b_dict rfl (p_cons bI (bK (gO (nm (by decide))) rfl (by decide) (by decide) (bC bI (bC bI bE)) a1) rfl) rfl) (aN (nm (by decide)))
 have x1 : denS pi01 (phi pi01 22) (evL cl) (g_law.body.getD 1 (.Pass default)) ⟨upd h1 (n + 4) (.dictI [(0, .ref n)] (n + 3)), n + 5, updL l "streams" (.ref (n + 4))⟩ = .ok .next ⟨upd (upd h1 (n + 4) (.dictI [(0, .ref n)] (n + 3))) n (.inst (putR "active" (.bool false) (sf 0 1 (n + 1) .none (n + 2) true 0 0))), n + 5, updL l "streams" (.ref (n + 4))⟩ :=
  sA rfl b_bool (a_attr (b_item rfl (fun _ _ => rfl) (bN (by decide) (nm (by decide)) cS) bI (uS _ _ _) (su_dI (v := .ref n) rfl)) ((uO (by lia)).trans a4) (by decide) ⟨by decide, by show (8 : Nat) < 100; decide⟩)
 have x2 : denS pi01 (phi pi01 22) (evL cl) (g_law.body.getD 2 (.Pass default)) ⟨upd (upd h1 (n + 4) (.dictI [(0, .ref n)] (n + 3))) n (.inst (putR "active" (.bool false) (sf 0 1 (n + 1) .none (n + 2) true 0 0))), n + 5, updL l "streams" (.ref (n + 4))⟩ = .ok .next ⟨upd (upd (upd (upd (upd h1 (n + 4) (.dictI [(0, .ref n)] (n + 3))) n (.inst (putR "active" (.bool false) (sf 0 1 (n + 1) .none (n + 2) true 0 0)))) (n + 5) (.list [])) (n + 6) (.dictS [("number", .int 0), ("weight", .int 1), ("able", .bool true), ("parent", .none), ("beneath", .ref (n + 5)), ("level", .int 0), ("over", .int 0), ("last", .int 0)])) (n + 8) (.dictI [(0, .ref (n + 6))] (n + 7)), n + 9, updL (updL l "streams" (.ref (n + 4))) "rows" (.ref (n + 8))⟩ :=
  sA rfl (b_dict rfl (p_cons bI (bK (gO (nm (by decide))) rfl (by decide) (by decide) (bC bI (bC bI bE)) (row_run (m := 21))) rfl) rfl) (aN (nm (by decide)))
 have x3 : denS pi01 (phi pi01 22) (evL cl) (g_law.body.getD 3 (.Pass default)) ⟨upd (upd (upd (upd (upd h1 (n + 4) (.dictI [(0, .ref n)] (n + 3))) n (.inst (putR "active" (.bool false) (sf 0 1 (n + 1) .none (n + 2) true 0 0)))) (n + 5) (.list [])) (n + 6) (.dictS [("number", .int 0), ("weight", .int 1), ("able", .bool true), ("parent", .none), ("beneath", .ref (n + 5)), ("level", .int 0), ("over", .int 0), ("last", .int 0)])) (n + 8) (.dictI [(0, .ref (n + 6))] (n + 7)), n + 9, updL (updL l "streams" (.ref (n + 4))) "rows" (.ref (n + 8))⟩ = .ok .next ⟨upd (upd (upd (upd (upd (upd h1 (n + 4) (.dictI [(0, .ref n)] (n + 3))) n (.inst (putR "active" (.bool false) (sf 0 1 (n + 1) .none (n + 2) true 0 0)))) (n + 5) (.list [])) (n + 6) (.dictS [("number", .int 0), ("weight", .int 1), ("able", .bool true), ("parent", .none), ("beneath", .ref (n + 5)), ("level", .int 0), ("over", .int 0), ("last", .int 0)])) (n + 8) (.dictI [(0, .ref (n + 6))] (n + 7))) (n + 6) (.dictS (putF ("able" : Str) (.bool false) [("number", .int 0), ("weight", .int 1), ("able", .bool true), ("parent", .none), ("beneath", .ref (n + 5)), ("level", .int 0), ("over", .int 0), ("last", .int 0)])), n + 9, updL (updL l "streams" (.ref (n + 4))) "rows" (.ref (n + 8))⟩ :=
  sA rfl b_bool (a_sub (b_item rfl (fun _ _ => rfl) (bN (by decide) (nm (by decide)) cS) bI (uS _ _ _) (su_dI (v := .ref (n + 6)) rfl)) b_str ((uO (by lia)).trans (uS _ _ _)) (so_dS (by show (8 : Nat) < 1000; decide)))
 have old : ∀ j, j < n → upd (upd (upd (upd (upd (upd h1 (n + 4) (.dictI [(0, .ref n)] (n + 3))) n (.inst (putR "active" (.bool false) (sf 0 1 (n + 1) .none (n + 2) true 0 0)))) (n + 5) (.list [])) (n + 6) (.dictS [("number", .int 0), ("weight", .int 1), ("able", .bool true), ("parent", .none), ("beneath", .ref (n + 5)), ("level", .int 0), ("over", .int 0), ("last", .int 0)])) (n + 8) (.dictI [(0, .ref (n + 6))] (n + 7))) (n + 6) (.dictS (putF ("able" : Str) (.bool false) [("number", .int 0), ("weight", .int 1), ("able", .bool true), ("parent", .none), ("beneath", .ref (n + 5)), ("level", .int 0), ("over", .int 0), ("last", .int 0)])) j = h j := fun j hj => (uO (by lia)).trans ((uO (by lia)).trans ((uO (by lia)).trans ((uO (by lia)).trans ((uO (by lia)).trans ((uO (by lia)).trans (a7 j hj))))))
 have e0 : upd (upd (upd (upd (upd (upd h1 (n + 4) (.dictI [(0, .ref n)] (n + 3))) n (.inst (putR "active" (.bool false) (sf 0 1 (n + 1) .none (n + 2) true 0 0)))) (n + 5) (.list [])) (n + 6) (.dictS [("number", .int 0), ("weight", .int 1), ("able", .bool true), ("parent", .none), ("beneath", .ref (n + 5)), ("level", .int 0), ("over", .int 0), ("last", .int 0)])) (n + 8) (.dictI [(0, .ref (n + 6))] (n + 7))) (n + 6) (.dictS (putF ("able" : Str) (.bool false) [("number", .int 0), ("weight", .int 1), ("able", .bool true), ("parent", .none), ("beneath", .ref (n + 5)), ("level", .int 0), ("over", .int 0), ("last", .int 0)])) n = some (.inst (sf 0 1 (n + 1) .none (n + 2) false 0 0)) := (uO (by lia)).trans ((uO (by lia)).trans ((uO (by lia)).trans ((uO (by lia)).trans (uS _ _ _))))
 have e1 : upd (upd (upd (upd (upd (upd h1 (n + 4) (.dictI [(0, .ref n)] (n + 3))) n (.inst (putR "active" (.bool false) (sf 0 1 (n + 1) .none (n + 2) true 0 0)))) (n + 5) (.list [])) (n + 6) (.dictS [("number", .int 0), ("weight", .int 1), ("able", .bool true), ("parent", .none), ("beneath", .ref (n + 5)), ("level", .int 0), ("over", .int 0), ("last", .int 0)])) (n + 8) (.dictI [(0, .ref (n + 6))] (n + 7))) (n + 6) (.dictS (putF ("able" : Str) (.bool false) [("number", .int 0), ("weight", .int 1), ("able", .bool true), ("parent", .none), ("beneath", .ref (n + 5)), ("level", .int 0), ("over", .int 0), ("last", .int 0)])) (n + 1) = some (.list []) := (uO (by lia)).trans ((uO (by lia)).trans ((uO (by lia)).trans ((uO (by lia)).trans ((uO (by lia)).trans ((uO (by lia)).trans a5)))))
 have e2 : upd (upd (upd (upd (upd (upd h1 (n + 4) (.dictI [(0, .ref n)] (n + 3))) n (.inst (putR "active" (.bool false) (sf 0 1 (n + 1) .none (n + 2) true 0 0)))) (n + 5) (.list [])) (n + 6) (.dictS [("number", .int 0), ("weight", .int 1), ("able", .bool true), ("parent", .none), ("beneath", .ref (n + 5)), ("level", .int 0), ("over", .int 0), ("last", .int 0)])) (n + 8) (.dictI [(0, .ref (n + 6))] (n + 7))) (n + 6) (.dictS (putF ("able" : Str) (.bool false) [("number", .int 0), ("weight", .int 1), ("able", .bool true), ("parent", .none), ("beneath", .ref (n + 5)), ("level", .int 0), ("over", .int 0), ("last", .int 0)])) (n + 2) = some (.list []) := (uO (by lia)).trans ((uO (by lia)).trans ((uO (by lia)).trans ((uO (by lia)).trans ((uO (by lia)).trans ((uO (by lia)).trans a6)))))
 have e4 : upd (upd (upd (upd (upd (upd h1 (n + 4) (.dictI [(0, .ref n)] (n + 3))) n (.inst (putR "active" (.bool false) (sf 0 1 (n + 1) .none (n + 2) true 0 0)))) (n + 5) (.list [])) (n + 6) (.dictS [("number", .int 0), ("weight", .int 1), ("able", .bool true), ("parent", .none), ("beneath", .ref (n + 5)), ("level", .int 0), ("over", .int 0), ("last", .int 0)])) (n + 8) (.dictI [(0, .ref (n + 6))] (n + 7))) (n + 6) (.dictS (putF ("able" : Str) (.bool false) [("number", .int 0), ("weight", .int 1), ("able", .bool true), ("parent", .none), ("beneath", .ref (n + 5)), ("level", .int 0), ("over", .int 0), ("last", .int 0)])) (n + 4) = some (.dictI [(0, .ref n)] (n + 3)) := (uO (by lia)).trans ((uO (by lia)).trans ((uO (by lia)).trans ((uO (by lia)).trans ((uO (by lia)).trans (uS _ _ _)))))
 have e5 : upd (upd (upd (upd (upd (upd h1 (n + 4) (.dictI [(0, .ref n)] (n + 3))) n (.inst (putR "active" (.bool false) (sf 0 1 (n + 1) .none (n + 2) true 0 0)))) (n + 5) (.list [])) (n + 6) (.dictS [("number", .int 0), ("weight", .int 1), ("able", .bool true), ("parent", .none), ("beneath", .ref (n + 5)), ("level", .int 0), ("over", .int 0), ("last", .int 0)])) (n + 8) (.dictI [(0, .ref (n + 6))] (n + 7))) (n + 6) (.dictS (putF ("able" : Str) (.bool false) [("number", .int 0), ("weight", .int 1), ("able", .bool true), ("parent", .none), ("beneath", .ref (n + 5)), ("level", .int 0), ("over", .int 0), ("last", .int 0)])) (n + 5) = some (.list []) := (uO (by lia)).trans ((uO (by lia)).trans ((uO (by lia)).trans (uS _ _ _)))
 have e6 : upd (upd (upd (upd (upd (upd h1 (n + 4) (.dictI [(0, .ref n)] (n + 3))) n (.inst (putR "active" (.bool false) (sf 0 1 (n + 1) .none (n + 2) true 0 0)))) (n + 5) (.list [])) (n + 6) (.dictS [("number", .int 0), ("weight", .int 1), ("able", .bool true), ("parent", .none), ("beneath", .ref (n + 5)), ("level", .int 0), ("over", .int 0), ("last", .int 0)])) (n + 8) (.dictI [(0, .ref (n + 6))] (n + 7))) (n + 6) (.dictS (putF ("able" : Str) (.bool false) [("number", .int 0), ("weight", .int 1), ("able", .bool true), ("parent", .none), ("beneath", .ref (n + 5)), ("level", .int 0), ("over", .int 0), ("last", .int 0)])) (n + 6) = some (.dictS (rowE tab0 0 (n + 5))) := uS _ _ _
 have e8 : upd (upd (upd (upd (upd (upd h1 (n + 4) (.dictI [(0, .ref n)] (n + 3))) n (.inst (putR "active" (.bool false) (sf 0 1 (n + 1) .none (n + 2) true 0 0)))) (n + 5) (.list [])) (n + 6) (.dictS [("number", .int 0), ("weight", .int 1), ("able", .bool true), ("parent", .none), ("beneath", .ref (n + 5)), ("level", .int 0), ("over", .int 0), ("last", .int 0)])) (n + 8) (.dictI [(0, .ref (n + 6))] (n + 7))) (n + 6) (.dictS (putF ("able" : Str) (.bool false) [("number", .int 0), ("weight", .int 1), ("able", .bool true), ("parent", .none), ("beneath", .ref (n + 5)), ("level", .int 0), ("over", .int 0), ("last", .int 0)])) (n + 8) = some (.dictI [(0, .ref (n + 6))] (n + 7)) := (uO (by lia)).trans (uS _ _ _)
 generalize upd (upd (upd (upd (upd (upd h1 (n + 4) (.dictI [(0, .ref n)] (n + 3))) n (.inst (putR "active" (.bool false) (sf 0 1 (n + 1) .none (n + 2) true 0 0)))) (n + 5) (.list [])) (n + 6) (.dictS [("number", .int 0), ("weight", .int 1), ("able", .bool true), ("parent", .none), ("beneath", .ref (n + 5)), ("level", .int 0), ("over", .int 0), ("last", .int 0)])) (n + 8) (.dictI [(0, .ref (n + 6))] (n + 7))) (n + 6) (.dictS (putF ("able" : Str) (.bool false) [("number", .int 0), ("weight", .int 1), ("able", .bool true), ("parent", .none), ("beneath", .ref (n + 5)), ("level", .int 0), ("over", .int 0), ("last", .int 0)])) = h2 at *
 have W : LW tab0 tab0 tab0.nums (L00 n) (fun _ => n + 6) (n + 4) (n + 8) (fun b => n ≤ b ∧ b < n + 3) h2 (n + 9) :=
  ⟨sy0 e0 e1 e2 (by lia), ⟨⟨_, e8⟩, fun k hk => ⟨n + 5, by rw [smp hk]; exact e6, e5, by lia, fun q => by lia⟩, fun k hk => ⟨by lia, fun q => by lia⟩, fun k hk j hj _ => (smp hk).trans (smp hj).symm, by lia⟩, ⟨_, e4⟩, by lia, fun q => by lia, fun q => by lia, by lia, fun a ha => by lia⟩
 have sl := sl_at (st := ⟨h2, n + 9, updL (updL (updL l "streams" (.ref (n + 4))) "rows" (.ref (n + 8))) "came" (.int 0)⟩) (i := i) (a := .none) (l := 0) (b := 42) (rdS_ro ((old i hil).trans hi)) rfl (by decide) (by rw [List.length_map]; lia)
 have em : ((ns.map V.int).take 42).drop 0 = (ns.take 42).map .int := by rw [List.drop_zero, List.map_take]
 rw [em] at sl
 have A : Ag (n + 9) h2 (n + 10) (upd h2 (n + 9) (.list ((ns.take 42).map .int))) := .new
 have S0 : LQ (n + 4) (n + 8) (n + 9) cl (ns.take 42) 0 ⟨upd h2 (n + 9) (.list ((ns.take 42).map .int)), n + 10, updL (updL (updL (updL l "streams" (.ref (n + 4))) "rows" (.ref (n + 8))) "came" (.int 0)) "numbers" (.ref (n + 9))⟩ :=
  ⟨tab0, _, 0, _, _, _, Nat.le_refl _, W.ag A, wx0, (cO (by decide)).trans ((Lo (by decide)).trans ((Lo (by decide)).trans lS)), (cO (by decide)).trans ((Lo (by decide)).trans lS), (cO (by decide)).trans lS, cS, ⟨uS _ _ _, Nat.lt_succ_self _, fun q => by lia⟩, ⟨cv, (A.eq cl (by lia)).trans ((old cl hcl).trans hc), by show cl < n + 10; lia, fun q => by lia⟩⟩
 have hloc : (updL (updL (updL l "streams" (.ref (n + 4))) "rows" (.ref (n + 8))) "came" (.int 0)) "script" = some (.ref i) := (Lo (by decide)).trans ((Lo (by decide)).trans ((Lo (by decide)).trans hs))
 obtain ⟨f1, s2, y1, rfl, k1, S1⟩ := law_deeds S0 (by rw [List.length_take]; lia)
 obtain ⟨f2, s3, y2, rfl, S2⟩ := law_turns S1
 obtain ⟨s4, y3⟩ := law_last S2
 exact ⟨s4, sC x0 (sC x1 (sC x2 (sC x3 (sC (sA rfl bI (aN (nm (by decide)))) (sC (sA rfl (b_slice0 (bN (by decide) (nm (by decide)) hloc) bI sl) (aN (nm (by decide)))) (sC y1 (sC y2 (sE y3))))))))⟩
end
section
set_option maxHeartbeats 8000000
open PySem PySem.W PySem.Calls PyProof.Rows
noncomputable def kv (P : Params) (k : Str) (t : Nat) (v : Value) : DictEntry := { hash := PyData.keyHash P k, key := .str k t, val := v }
noncomputable def co (a : Addr) (b : Bool) (n q : Str) (t : Nat) (l c : Int) (u : Int) : Obj := ⟨.type "code", none, .fields #[.str n t, .str q (t + 1), .str "/claim/cut.py" (t + 2), .int l 0, .int c 0, .int 0 0, .int 0 0, .int 3 0, .ref (if b then a - 5 else a - 3), .bool true, .int 181 0, .ref (if b then a - 4 else a - 2), .none, if b then .ref (a - 3) else .none, if b then .ref (a - 2) else .none, .ref (a - 1), .int u 0, .int l 0, .str "/claim/cut.py" (u.toNat + 1)], #[]⟩
noncomputable def argOf : Stmt → Option (Str × Arguments)
 | .FunctionDef n a _ _ _ _ _ _ _ _ => some (n, a)
 | _ => none
noncomputable def argsIn (b : List Stmt) (n : Str) (k : Nat) : Arguments := (((b.filterMap argOf).filter (·.1 = n))[k]?.map (·.2)).getD default
noncomputable def gargs : Str → Nat → Arguments := argsIn body01
noncomputable def margs : Str → Nat → Arguments := argsIn (match body01.findSome? (fun s => match s with | .ClassDef n _ _ b _ _ _ _ _ _ _ => if n = ("Stream" : Str) then some b else none | _ => none) with
 | some b => b
 | none => [])
noncomputable def fo (a : Addr) (n q : Str) (ar : Arguments) (c : FnC) (dV pm : Value) : Obj := ⟨.type "function", none, .func (fnOf n q ar c.body c.scope dV .none .none pm none (.ref (a - 1)) .none), #[]⟩
noncomputable def K01 (P : Params) : Frag := [
 (3, ⟨.type "dict", none, .dict #[kv P "__name__" 165 (.str "law_it0021_01" 405), kv P "__doc__" 166 .none, kv P "__package__" 167 .none, kv P "__loader__" 168 (.builtin "__main__.__loader__#opaque"), kv P "__spec__" 169 .none, kv P "__annotations__" 170 (.ref 6), kv P "__builtins__" 171 (.ref 4), kv P "__file__" 173 (.str "/claim/cut.py" 172), kv P "__cached__" 174 .none, kv P "_ahead" 196 (.ref 21), kv P "heappush" 205 (.ref 28), kv P "heappop" 212 (.ref 35), kv P "PriorityError" 232 (.ref 45), kv P "BadWeightError" 248 (.ref 58), kv P "Stream" 404 (.ref 173), kv P "_law_names" 412 (.ref 184), kv P "_law_row" 420 (.ref 191), kv P "_law_lay" 429 (.ref 198), kv P "_law_alone" 440 (.ref 205), kv P "_law_out" 446 (.ref 210), kv P "_law_turn" 452 (.ref 215), kv P "_law_inside" 462 (.ref 222), kv P "_law_told" 469 (.ref 229), kv P "_law_served" 478 (.ref 236), kv P "_law_refused" 486 (.ref 243), kv P "_law_stranger" 495 (.ref 250), kv P "_law_same" 501 (.ref 255), kv P "law" 507 (.ref 260)] 28, #[]⟩),
 (172, ⟨.type "dict", none, .dict #[kv P "__module__" 256 (.str "priority.priority" 187), kv P "__firstlineno__" 260 (.int 19 259), kv P "__init__" 270 (.ref 75), kv P "weight" 278 (.ref 92), kv P "add_child" 296 (.ref 99), kv P "add_child_exclusive" 306 (.ref 106), kv P "remove_child" 319 (.ref 114), kv P "schedule" 331 (.ref 121), kv P "__repr__" 338 (.ref 128), kv P "__eq__" 346 (.ref 135), kv P "__ne__" 354 (.ref 142), kv P "__lt__" 362 (.ref 149), kv P "__le__" 370 (.ref 156), kv P "__gt__" 378 (.ref 163), kv P "__ge__" 386 (.ref 170), kv P "__static_attributes__" 396 (.ref 171), kv P "__dict__" 398 (.ref 174), kv P "__weakref__" 400 (.ref 175), kv P "__doc__" 401 .none, kv P "__hash__" 402 .none] 5, #[]⟩),
 (57, ⟨.type "dict", none, .dict #[kv P "__module__" 240 (.str "priority.priority" 187), kv P "__firstlineno__" 244 (.int 17 243), kv P "__static_attributes__" 245 (.ref 56), kv P "__doc__" 246 .none] 2, #[]⟩),
 (44, ⟨.type "dict", none, .dict #[kv P "__module__" 220 (.str "priority.priority" 187), kv P "__firstlineno__" 224 (.int 15 223), kv P "__static_attributes__" 225 (.ref 43), kv P "__weakref__" 227 (.ref 46), kv P "__doc__" 228 .none] 3, #[]⟩),
 (173, ({ cls := .type "type", data := .cls { name := "Stream", bases := [.type "object"], mro := [.ref 173, .type "object"], ns := 172, qualname := "Stream" }, slots := #[none, none, some (.str ("Stream") 249), some (.str ("Stream") 257), some (.builtin "object.__new__"), some (.bool true)] } : Obj)),
 (58, ({ cls := .type "type", data := .cls { name := "BadWeightError", bases := [.ref 45], mro := [.ref 58, .ref 45, .type "Exception", .type "BaseException", .type "object"], ns := 57, qualname := "BadWeightError" }, slots := #[some (.ref 49), none, some (.str ("BadWeightError") 233), some (.str ("BadWeightError") 241), some (.builtin "Exception.__new__"), some (.bool true)] } : Obj)),
 (45, ({ cls := .type "type", data := .cls { name := "PriorityError", bases := [.type "Exception"], mro := [.ref 45, .type "Exception", .type "BaseException", .type "object"], ns := 44, qualname := "PriorityError", subclasses := [.ref 58] }, slots := #[some (.ref 36), none, some (.str ("PriorityError") 213), some (.str ("PriorityError") 221), some (.builtin "Exception.__new__"), some (.bool true)] } : Obj)),
 (92, ({ cls := .type "property", data := .fields #[.ref 82, .ref 91, .none, .none, .str "weight" 278, .bool false] } : Obj)),
 (68, ({ cls := .type "tuple", data := .seq #[.int 16 261] } : Obj)),
 (107, ({ cls := .type "tuple", data := .seq #[.bool true] } : Obj)),
 (20, co 20 true "_ahead" "_ahead" 189 2 2 194),
 (21, fo 21 "_ahead" "_ahead" (gargs "_ahead" 0) g_ahead .none (.str "priority.priority" 187)),
 (27, co 27 true "heappush" "heappush" 197 6 2 203),
 (28, fo 28 "heappush" "heappush" (gargs "heappush" 0) g_push .none (.str "priority.priority" 187)),
 (34, co 34 true "heappop" "heappop" 206 13 1 210),
 (35, fo 35 "heappop" "heappop" (gargs "heappop" 0) g_pop .none (.str "priority.priority" 187)),
 (74, co 74 true "__init__" "Stream.__init__" 262 21 3 268),
 (75, fo 75 "__init__" "Stream.__init__" (margs "__init__" 0) m_init (.ref 68) (.str "priority.priority" 187)),
 (81, co 81 true "weight" "Stream.weight" 271 31 1 275),
 (82, fo 82 "weight" "Stream.weight" (margs "weight" 0) m_getW .none (.str "priority.priority" 187)),
 (90, co 90 true "weight" "Stream.weight" 280 35 2 285),
 (91, fo 91 "weight" "Stream.weight" (margs "weight" 1) m_setW .none (.str "priority.priority" 187)),
 (98, co 98 true "add_child" "Stream.add_child" 289 43 2 294),
 (99, fo 99 "add_child" "Stream.add_child" (margs "add_child" 0) m_add .none (.str "priority.priority" 187)),
 (105, co 105 true "add_child_exclusive" "Stream.add_child_exclusive" 297 48 2 304),
 (106, fo 106 "add_child_exclusive" "Stream.add_child_exclusive" (margs "add_child_exclusive" 0) m_excl .none (.str "priority.priority" 187)),
 (113, co 113 true "remove_child" "Stream.remove_child" 307 57 3 317),
 (114, fo 114 "remove_child" "Stream.remove_child" (margs "remove_child" 0) m_rem (.ref 107) (.str "priority.priority" 187)),
 (120, co 120 true "schedule" "Stream.schedule" 320 70 1 329),
 (121, fo 121 "schedule" "Stream.schedule" (margs "schedule" 0) m_sched .none (.str "priority.priority" 187)),
 (134, co 134 true "__eq__" "Stream.__eq__" 339 97 2 344),
 (135, fo 135 "__eq__" "Stream.__eq__" (margs "__eq__" 0) m_eq .none (.str "priority.priority" 187)),
 (141, co 141 true "__ne__" "Stream.__ne__" 347 102 2 352),
 (142, fo 142 "__ne__" "Stream.__ne__" (margs "__ne__" 0) m_ne .none (.str "priority.priority" 187)),
 (148, co 148 true "__lt__" "Stream.__lt__" 355 105 2 360),
 (149, fo 149 "__lt__" "Stream.__lt__" (margs "__lt__" 0) m_lt .none (.str "priority.priority" 187)),
 (183, co 183 true "_law_names" "_law_names" 407 125 0 410),
 (184, fo 184 "_law_names" "_law_names" (gargs "_law_names" 0) g_names .none (.str "law_it0021_01" 405)),
 (190, co 190 true "_law_row" "_law_row" 413 127 2 418),
 (191, fo 191 "_law_row" "_law_row" (gargs "_law_row" 0) g_row .none (.str "law_it0021_01" 405)),
 (197, co 197 true "_law_lay" "_law_lay" 421 129 3 427),
 (198, fo 198 "_law_lay" "_law_lay" (gargs "_law_lay" 0) g_lay .none (.str "law_it0021_01" 405)),
 (204, co 204 true "_law_alone" "_law_alone" 430 133 3 438),
 (205, fo 205 "_law_alone" "_law_alone" (gargs "_law_alone" 0) g_alone .none (.str "law_it0021_01" 405)),
 (209, co 209 false "_law_out" "_law_out" 441 140 2 444),
 (210, fo 210 "_law_out" "_law_out" (gargs "_law_out" 0) g_out .none (.str "law_it0021_01" 405)),
 (214, co 214 false "_law_turn" "_law_turn" 447 144 2 450),
 (215, fo 215 "_law_turn" "_law_turn" (gargs "_law_turn" 0) g_turn .none (.str "law_it0021_01" 405)),
 (221, co 221 true "_law_inside" "_law_inside" 453 154 2 460),
 (222, fo 222 "_law_inside" "_law_inside" (gargs "_law_inside" 0) g_inside .none (.str "law_it0021_01" 405)),
 (228, co 228 true "_law_told" "_law_told" 463 159 1 467),
 (229, fo 229 "_law_told" "_law_told" (gargs "_law_told" 0) g_told .none (.str "law_it0021_01" 405)),
 (235, co 235 true "_law_served" "_law_served" 470 166 2 476),
 (236, fo 236 "_law_served" "_law_served" (gargs "_law_served" 0) g_served .none (.str "law_it0021_01" 405)),
 (242, co 242 true "_law_refused" "_law_refused" 479 171 2 484),
 (243, fo 243 "_law_refused" "_law_refused" (gargs "_law_refused" 0) g_refused .none (.str "law_it0021_01" 405)),
 (249, co 249 true "_law_stranger" "_law_stranger" 487 177 2 493),
 (250, fo 250 "_law_stranger" "_law_stranger" (gargs "_law_stranger" 0) g_stranger .none (.str "law_it0021_01" 405)),
 (254, co 254 false "_law_same" "_law_same" 496 185 2 499),
 (255, fo 255 "_law_same" "_law_same" (gargs "_law_same" 0) g_same .none (.str "law_it0021_01" 405))]
noncomputable def as01 : List Addr := [3, 172, 57, 44, 173, 58, 45, 92, 68, 107, 20, 21, 27, 28, 34, 35, 74, 75, 81, 82, 90, 91, 98, 99, 105, 106, 113, 114, 120, 121, 134, 135, 141, 142, 148, 149, 183, 184, 190, 191, 197, 198, 204, 205, 209, 210, 214, 215, 221, 222, 228, 229, 235, 236, 242, 243, 249, 250, 254, 255]
noncomputable abbrev p01 : Program := PySem.Challenge.pw_it0021_01
noncomputable def q01 : Program := { p01 with main := { p01.main with body := (p01.main.body.drop 1).take 6 ++ p01.main.body.drop 8 } }
noncomputable def H01 : Hook := kHook K01 as01 (fun _ => rfl)
theorem left01 : LeftO PySem.Challenge.rw_it0021_01.row.prog q01 [Str.ofString "Stream"] (fun s => xlAt q01 [] s && recOk (RowW.records (OpenRow.toRowW PySem.Challenge.rw_it0021_01.row)) s) (Hook.obs H01) (Hook.val H01) 3526 := by
 intro w
 show Option.map _ (openEnds treeTable PySem.Challenge.pw_it0021_01 w 3526) = _
 unfold openEnds fencedOpening topFrom q01 p01
 rw [PySem.W.Fast.te14082659384304107361, PySem.W.Fast.te10274390034422433532, PySem.W.Fast.te14364793385576792824, PySem.W.Fast.te4187177175401517315, PySem.W.Fast.te5923862056798008813, PySem.W.Fast.te14289696077712309145, PySem.W.Fast.te1435165496053646825]
 kernel_rfl
noncomputable def c01 (w : World) (h : Heap) : Cx := { prog := PySem.Challenge.rw_it0021_01.row.prog, w, K := K01 w.params, C := 173, base := h, P := pi01 }
noncomputable abbrev pmP : Value := .str "priority.priority" 187
noncomputable abbrev pmL : Value := .str "law_it0021_01" 405
theorem bindR_some {b : Bool} {params : List Str} {dvs pos us : List Value} {kw : List (Str × Value)} (h : bindR b params dvs pos kw = some us) :
  (kw = [] ∧ pos.length ≤ params.length ∧ params.length ≤ pos.length + dvs.length ∧ us = pos ++ dvs.drop (pos.length + dvs.length - params.length)) ∨ (b = true ∧ params.length = pos.length + 1 ∧ ∃ p, params[pos.length]? = some p.1 ∧ kw = [p] ∧ us = pos ++ [p.2]) := by
 match kw with
 | [] =>
  unfold bindR at h
  dsimp only at h
  by_cases q : pos.length ≤ params.length ∧ params.length ≤ pos.length + dvs.length
  ·rw [if_pos q] at h
   exact .inl ⟨rfl, q.1, q.2, (sj h).symm⟩
  ·rw [if_neg q] at h; cases h
 | [p] =>
  unfold bindR at h
  dsimp only at h
  by_cases q : b = true ∧ params.length = pos.length + 1 ∧ params[pos.length]? = some p.1
  ·rw [if_pos q] at h
   exact .inr ⟨q.1, q.2.1, p, q.2.2, rfl, (sj h).symm⟩
  ·rw [if_neg q] at h; cases h
 | _ :: _ :: _ => exact nomatch (show none = some us from h)
noncomputable abbrev ScP (c : FnC) (k : Nat) : Prop := c.scope.isCoroutine = false ∧ c.scope.isGenerator = false ∧ c.scope.kind = .function ∧ c.params.Nodup ∧ (∀ x ∈ c.params, c.scope.names.lookup x = some .local ∨ c.scope.names.lookup x = some .cell) ∧ c.params.length = k
noncomputable def fnB (P : Params) (a : Addr) (q : Str) (code : FnC) (k : Nat) : Bool := decide (ScP code k ∧ code.defaults = [] ∧ code.kw = false ∧ codeIn (K01 P) (.ref (a - 1)) q = true)
theorem fn_k {w : World} {h : Heap} {a : Addr} {n q : Str} {ar : Arguments} {code : FnC} {pm : Value} {k : Nat} (h1 : (K01 w.params).lookup a = some (fo a n q ar code .none pm)) (h2 : fnB w.params a q code k = true)
  (hb : ∀ pos : List Value, pos.length = k → bindArgs (fnOf n q ar code.body code.scope .none .none .none pm none (.ref (a - 1)) .none) ⟨pos, []⟩ = pure (code.params.zip pos)) : FnOk (c01 w h) code a := by
 have x := of_decide_eq_true h2
 have hk := x.2.2.1
 have go : ∀ (pos : List Value) (kw : List (Str × Value)) (us : List Value), bindR code.kw code.params [] pos kw = some us → kw = [] ∧ bindArgs (fnOf n q ar code.body code.scope .none .none .none pm none (.ref (a - 1)) .none) ⟨pos, []⟩ = pure (code.params.zip us) := fun pos kw us hx => by
  rcases bindR_some hx with ⟨rfl, h1, h2, rfl⟩ | ⟨e, _⟩
  ·rw [List.drop_nil, List.append_nil]
   exact ⟨rfl, hb pos ((Nat.le_antisymm h1 h2).trans x.1.2.2.2.2.2)⟩
  ·rw [hk] at e; cases e
 exact ⟨⟨_, _, _, n, q, ar, _, _, _, pm, _, _, _, [], h1, x.2.2.2, fun _ => by rw [x.2.1]; trivial, fun s pos kw us X hx => by
  obtain ⟨rfl, e⟩ := go pos kw us hx
  exact BindsTo.of_eq e, fun _ => go⟩, x.1.1, x.1.2.1, x.1.2.2.1, x.1.2.2.2.1, x.1.2.2.2.2.1⟩
theorem len1 {pos : List Value} (h : pos.length = 1) : ∃ x, pos = [x] := List.length_eq_one_iff.mp h
theorem len2 {pos : List Value} (h : pos.length = 2) : ∃ x y, pos = [x, y] := by
 obtain ⟨x, r, rfl⟩ := List.exists_cons_of_length_eq_add_one h
 obtain ⟨y, rfl⟩ := len1 (Nat.succ.inj h)
 exact ⟨x, y, rfl⟩
theorem len3 {pos : List Value} (h : pos.length = 3) : ∃ x y z, pos = [x, y, z] := by
 obtain ⟨x, r, rfl⟩ := List.exists_cons_of_length_eq_add_one h
 obtain ⟨y, z, rfl⟩ := len2 (Nat.succ.inj h)
 exact ⟨x, y, z, rfl⟩
theorem fn0 {w : World} {h : Heap} {a : Addr} {n q : Str} {ar : Arguments} {code : FnC} {pm : Value} (h1 : (K01 w.params).lookup a = some (fo a n q ar code .none pm)) (h2 : fnB w.params a q code 0 = true)
  (hb : bindArgs (fnOf n q ar code.body code.scope .none .none .none pm none (.ref (a - 1)) .none) ⟨[], []⟩ = pure (code.params.zip [])) : FnOk (c01 w h) code a :=
 fn_k h1 h2 fun pos hl => List.length_eq_zero_iff.mp hl ▸ hb
theorem fn1 {w : World} {h : Heap} {a : Addr} {n q : Str} {ar : Arguments} {code : FnC} {pm : Value} (h1 : (K01 w.params).lookup a = some (fo a n q ar code .none pm)) (h2 : fnB w.params a q code 1 = true)
  (hb : ∀ x : Value, bindArgs (fnOf n q ar code.body code.scope .none .none .none pm none (.ref (a - 1)) .none) ⟨[x], []⟩ = pure (code.params.zip [x])) : FnOk (c01 w h) code a :=
 fn_k h1 h2 fun pos hl => by
  obtain ⟨x, rfl⟩ := len1 hl
  exact hb x
theorem fn2 {w : World} {h : Heap} {a : Addr} {n q : Str} {ar : Arguments} {code : FnC} {pm : Value} (h1 : (K01 w.params).lookup a = some (fo a n q ar code .none pm)) (h2 : fnB w.params a q code 2 = true)
  (hb : ∀ x y : Value, bindArgs (fnOf n q ar code.body code.scope .none .none .none pm none (.ref (a - 1)) .none) ⟨[x, y], []⟩ = pure (code.params.zip [x, y])) : FnOk (c01 w h) code a :=
 fn_k h1 h2 fun pos hl => by
  obtain ⟨x, y, rfl⟩ := len2 hl
  exact hb x y
theorem fn3 {w : World} {h : Heap} {a : Addr} {n q : Str} {ar : Arguments} {code : FnC} {pm : Value} (h1 : (K01 w.params).lookup a = some (fo a n q ar code .none pm)) (h2 : fnB w.params a q code 3 = true)
  (hb : ∀ x y z : Value, bindArgs (fnOf n q ar code.body code.scope .none .none .none pm none (.ref (a - 1)) .none) ⟨[x, y, z], []⟩ = pure (code.params.zip [x, y, z])) : FnOk (c01 w h) code a :=
 fn_k h1 h2 fun pos hl => by
  obtain ⟨x, y, z, rfl⟩ := len3 hl
  exact hb x y z
theorem ok_m_init (w : World) (h : Heap) : FnOk (c01 w h) m_init 75 := by
 have sc : ScP m_init 3 := by decide +kernel
 have hl := sc.2.2.2.2.2
 refine ⟨⟨.type "function", none, #[], "__init__", "Stream.__init__", margs "__init__" 0, .ref 68, .none, .none, pmP, none, .ref 74, .none, [.int 16 261], (by kernel_rfl), (by kernel_rfl), fun W => ⟨⟨261, rfl⟩, trivial⟩, fun s pos kw us X hx => ?_, fun q => absurd (show cellNs m_init.scope.names = [] from rfl) q⟩, sc.1, sc.2.1, sc.2.2.1, sc.2.2.2.1, sc.2.2.2.2.1⟩
 have X : (K01 w.params).In s.heap := X
 rcases bindR_some hx with ⟨rfl, h1, h2, rfl⟩ | ⟨e, _⟩
 ·rw [hl] at h1 h2 ⊢
  rcases Nat.lt_or_ge pos.length 3 with l | l
  ·obtain ⟨a, b, rfl⟩ := len2 (pos := pos) (Nat.le_antisymm (Nat.le_of_lt_succ l) (Nat.le_of_succ_le_succ h2))
   exact binds_K (T := 68) (o := { cls := .type "tuple", data := .seq #[.int 16 261] 0 }) X rfl (by kernel_rfl) rfl rfl rfl
  ·obtain ⟨a, b, d, rfl⟩ := len3 (Nat.le_antisymm h1 l)
   exact binds_K (T := 68) (o := { cls := .type "tuple", data := .seq #[.int 16 261] 0 }) X rfl (by kernel_rfl) rfl rfl rfl
 ·cases (show false = true from e)
theorem ok_m_rem (w : World) (h : Heap) : FnOk (c01 w h) m_rem 114 := by
 have sc : ScP m_rem 3 := by decide +kernel
 have hl := sc.2.2.2.2.2
 refine ⟨⟨.type "function", none, #[], "remove_child", "Stream.remove_child", margs "remove_child" 0, .ref 107, .none, .none, pmP, none, .ref 113, .none, [.bool true], (by kernel_rfl), (by kernel_rfl), fun W => ⟨rfl, trivial⟩, fun s pos kw us X hx => ?_, fun q => absurd (show cellNs m_rem.scope.names = [] from rfl) q⟩, sc.1, sc.2.1, sc.2.2.1, sc.2.2.2.1, sc.2.2.2.2.1⟩
 have X : (K01 w.params).In s.heap := X
 rcases bindR_some hx with ⟨rfl, h1, h2, rfl⟩ | ⟨_, h1, ⟨x, v⟩, h2, rfl, rfl⟩
 ·rw [hl] at h1 h2 ⊢
  rcases Nat.lt_or_ge pos.length 3 with l | l
  ·obtain ⟨a, b, rfl⟩ := len2 (pos := pos) (Nat.le_antisymm (Nat.le_of_lt_succ l) (Nat.le_of_succ_le_succ h2))
   exact binds_K (T := 107) (o := { cls := .type "tuple", data := .seq #[.bool true] 0 }) X rfl (by kernel_rfl) rfl rfl rfl
  ·obtain ⟨a, b, d, rfl⟩ := len3 (Nat.le_antisymm h1 l)
   exact binds_K (T := 107) (o := { cls := .type "tuple", data := .seq #[.bool true] 0 }) X rfl (by kernel_rfl) rfl rfl rfl
 ·obtain ⟨a, b, rfl⟩ := len2 (pos := pos) (Nat.succ.inj (h1.symm.trans hl))
  obtain rfl : "strip_children" = x := sj h2
  exact binds_K (T := 107) (o := { cls := .type "tuple", data := .seq #[.bool true] 0 }) X rfl (by kernel_rfl) rfl rfl rfl
noncomputable abbrev FP (w : World) (h : Heap) (f : FId) (code : FnC) : Prop := ∃ fa, FAddr (c01 w h) f fa ∧ FnOk (c01 w h) code fa
theorem gstep {w : World} {h : Heap} {n x : Str} {a code : FnC} {r : Option FnC} (e : (if n = x then some a else r) = some code) (fa : Addr) (h1 : nsIn (K01 w.params) mainGlobals x = some (some (.ref fa))) (h2 : FnOk (c01 w h) a fa) (k : r = some code → FP w h (.glob n) code) : FP w h (.glob n) code := by
 by_cases q : n = x
 ·rw [if_pos q] at e
  exact sj e ▸ q ▸ ⟨fa, h1, h2⟩
 ·rw [if_neg q] at e; exact k e
theorem mstep {w : World} {h : Heap} {n x : Str} {a code : FnC} {r : Option FnC} (e : (if n = x then some a else r) = some code) (fa : Addr) (h0 : findIn (K01 w.params) (.ref 173) x = some (some (.ref fa))) (h1 : isFn (K01 w.params) (.ref fa) = true) (h2 : FnOk (c01 w h) a fa) (k : r = some code → FP w h (.meth n) code) : FP w h (.meth n) code := by
 by_cases q : n = x
 ·rw [if_pos q] at e
  exact sj e ▸ q ▸ ⟨fa, ⟨h0, h1⟩, h2⟩
 ·rw [if_neg q] at e; exact k e
theorem fn_glob (w : World) (h : Heap) (n : Str) (code : FnC) (e : code01 (.glob n) = some code) : FP w h (.glob n) code :=
 gstep (show (if n = "_ahead" then _ else _) = _ from e) 21 (by kernel_rfl) (fn2 (n := "_ahead") (q := "_ahead") (ar := (gargs "_ahead" 0)) (pm := pmP) (by kernel_rfl) (by kernel_rfl) (fun _ _ => rfl)) fun e =>
 gstep e 28 (by kernel_rfl) (fn2 (n := "heappush") (q := "heappush") (ar := (gargs "heappush" 0)) (pm := pmP) (by kernel_rfl) (by kernel_rfl) (fun _ _ => rfl)) fun e =>
 gstep e 35 (by kernel_rfl) (fn1 (n := "heappop") (q := "heappop") (ar := (gargs "heappop" 0)) (pm := pmP) (by kernel_rfl) (by kernel_rfl) (fun _ => rfl)) fun e =>
 gstep e 184 (by kernel_rfl) (fn0 (n := "_law_names") (q := "_law_names") (ar := (gargs "_law_names" 0)) (pm := pmL) (by kernel_rfl) (by kernel_rfl) rfl) fun e =>
 gstep e 191 (by kernel_rfl) (fn2 (n := "_law_row") (q := "_law_row") (ar := (gargs "_law_row" 0)) (pm := pmL) (by kernel_rfl) (by kernel_rfl) (fun _ _ => rfl)) fun e =>
 gstep e 198 (by kernel_rfl) (fn3 (n := "_law_lay") (q := "_law_lay") (ar := (gargs "_law_lay" 0)) (pm := pmL) (by kernel_rfl) (by kernel_rfl) (fun _ _ _ => rfl)) fun e =>
 gstep e 205 (by kernel_rfl) (fn3 (n := "_law_alone") (q := "_law_alone") (ar := (gargs "_law_alone" 0)) (pm := pmL) (by kernel_rfl) (by kernel_rfl) (fun _ _ _ => rfl)) fun e =>
 gstep e 210 (by kernel_rfl) (fn2 (n := "_law_out") (q := "_law_out") (ar := (gargs "_law_out" 0)) (pm := pmL) (by kernel_rfl) (by kernel_rfl) (fun _ _ => rfl)) fun e =>
 gstep e 215 (by kernel_rfl) (fn2 (n := "_law_turn") (q := "_law_turn") (ar := (gargs "_law_turn" 0)) (pm := pmL) (by kernel_rfl) (by kernel_rfl) (fun _ _ => rfl)) fun e =>
 gstep e 222 (by kernel_rfl) (fn2 (n := "_law_inside") (q := "_law_inside") (ar := (gargs "_law_inside" 0)) (pm := pmL) (by kernel_rfl) (by kernel_rfl) (fun _ _ => rfl)) fun e =>
 gstep e 229 (by kernel_rfl) (fn1 (n := "_law_told") (q := "_law_told") (ar := (gargs "_law_told" 0)) (pm := pmL) (by kernel_rfl) (by kernel_rfl) (fun _ => rfl)) fun e =>
 gstep e 236 (by kernel_rfl) (fn2 (n := "_law_served") (q := "_law_served") (ar := (gargs "_law_served" 0)) (pm := pmL) (by kernel_rfl) (by kernel_rfl) (fun _ _ => rfl)) fun e =>
 gstep e 243 (by kernel_rfl) (fn2 (n := "_law_refused") (q := "_law_refused") (ar := (gargs "_law_refused" 0)) (pm := pmL) (by kernel_rfl) (by kernel_rfl) (fun _ _ => rfl)) fun e =>
 gstep e 250 (by kernel_rfl) (fn2 (n := "_law_stranger") (q := "_law_stranger") (ar := (gargs "_law_stranger" 0)) (pm := pmL) (by kernel_rfl) (by kernel_rfl) (fun _ _ => rfl)) fun e =>
 gstep e 255 (by kernel_rfl) (fn2 (n := "_law_same") (q := "_law_same") (ar := (gargs "_law_same" 0)) (pm := pmL) (by kernel_rfl) (by kernel_rfl) (fun _ _ => rfl)) fun e =>
 nomatch e
theorem fn_meth (w : World) (h : Heap) (n : Str) (code : FnC) (e : code01 (.meth n) = some code) : FP w h (.meth n) code :=
 mstep (show (if n = "__init__" then _ else _) = _ from e) 75 (by kernel_rfl) (by kernel_rfl) (ok_m_init w h) fun e =>
 mstep e 99 (by kernel_rfl) (by kernel_rfl) (fn2 (n := "add_child") (q := "Stream.add_child") (ar := (margs "add_child" 0)) (pm := pmP) (by kernel_rfl) (by kernel_rfl) (fun _ _ => rfl)) fun e =>
 mstep e 106 (by kernel_rfl) (by kernel_rfl) (fn2 (n := "add_child_exclusive") (q := "Stream.add_child_exclusive") (ar := (margs "add_child_exclusive" 0)) (pm := pmP) (by kernel_rfl) (by kernel_rfl) (fun _ _ => rfl)) fun e =>
 mstep e 114 (by kernel_rfl) (by kernel_rfl) (ok_m_rem w h) fun e =>
 mstep e 121 (by kernel_rfl) (by kernel_rfl) (fn1 (n := "schedule") (q := "Stream.schedule") (ar := (margs "schedule" 0)) (pm := pmP) (by kernel_rfl) (by kernel_rfl) (fun _ => rfl)) fun e =>
 mstep e 135 (by kernel_rfl) (by kernel_rfl) (fn2 (n := "__eq__") (q := "Stream.__eq__") (ar := (margs "__eq__" 0)) (pm := pmP) (by kernel_rfl) (by kernel_rfl) (fun _ _ => rfl)) fun e =>
 mstep e 142 (by kernel_rfl) (by kernel_rfl) (fn2 (n := "__ne__") (q := "Stream.__ne__") (ar := (margs "__ne__" 0)) (pm := pmP) (by kernel_rfl) (by kernel_rfl) (fun _ _ => rfl)) fun e =>
 mstep e 149 (by kernel_rfl) (by kernel_rfl) (fn2 (n := "__lt__") (q := "Stream.__lt__") (ar := (margs "__lt__" 0)) (pm := pmP) (by kernel_rfl) (by kernel_rfl) (fun _ _ => rfl)) fun e =>
 nomatch e
theorem fn_ok (w : World) (h : Heap) : ∀ (f : FId) (code : FnC), code01 f = some code → FP w h f code
 | .glob n, code, e => fn_glob w h n code e
 | .meth n, code, e => fn_meth w h n code e
 | .getW, code, e => sj e ▸ ⟨82, ⟨92, [.ref 91, .none, .none, .str "weight" 278, .bool false], by kernel_rfl, by kernel_rfl⟩, fn1 (n := "weight") (q := "Stream.weight") (ar := (margs "weight" 0)) (pm := pmP) (by kernel_rfl) (by kernel_rfl) (fun _ => rfl)⟩
 | .setW, code, e => sj e ▸ ⟨91, ⟨92, .ref 82, [.none, .none, .str "weight" 278, .bool false], by kernel_rfl, by kernel_rfl⟩, fn2 (n := "weight") (q := "Stream.weight") (ar := (margs "weight" 1)) (pm := pmP) (by kernel_rfl) (by kernel_rfl) (fun _ _ => rfl)⟩
theorem cx01 (w : World) {h : Heap} {mg mb : Str → Option Value} {p : Program} {loose : List Str} (KX : (K01 w.params).In h) (T : TopRead p loose mg mb h) : CxOk (c01 w h) where
 X := KX
 g := ⟨mg, mb, T.g, T.b, T.builtins⟩
 lim := T.nolimit
 get := fun n => (show plainGet (K01 w.params) 173 "x" = true by kernel_rfl)
 hasDict := by show hasDictIn (K01 w.params) 173 = true; kernel_rfl
 setattr := by show findIn (K01 w.params) (.ref 173) "__setattr__" = _; kernel_rfl
 over := by show plainOver (K01 w.params) 173 = true; kernel_rfl
 makes := by show makesIn (K01 w.params) 173 = true; kernel_rfl
 keep := by show keepIn (K01 w.params) (.ref 173) = true; kernel_rfl
 stream := by show nsIn (K01 w.params) mainGlobals "Stream" = _; kernel_rfl
 fields := by
  intro x hx
  show findIn (K01 w.params) (.ref 173) x = some none ∧ takerIn (K01 w.params) 173 x = some none
  have hx' : x ∈ (["stream_id", "_weight", "children", "parent", "child_queue", "active", "last_weight", "_deficit"] : List Str) := hx
  simp only [List.mem_cons, List.not_mem_nil, or_false] at hx'
  rcases hx' with rfl | rfl | rfl | rfl | rfl | rfl | rfl | rfl <;> exact ⟨by kernel_rfl, by kernel_rfl⟩
 weight := by
  refine ⟨mg, T.g, 58, "Exception", "Exception.__new__", _, _, "Exception", _, _, [.type "Exception", .type "BaseException", .type "object"], ?_, PySem.F.excBase_Exception, by decide, PySem.F.excBase_Exception, own_of_in KX T ?_ ?_⟩
  ·show nsIn (K01 w.params) mainGlobals "BadWeightError" = _; kernel_rfl
  ·show nsIn (K01 w.params) mainGlobals "BadWeightError" = _; kernel_rfl
  ·kernel_rfl
 dbg := rfl
 fn := fn_ok w h
 prop := by
  refine ⟨92, ?_, ?_, ?_, ?_, ?_⟩
  ·show findIn (K01 w.params) (.ref 173) "weight" = _; kernel_rfl
  ·show specialIn (K01 w.params) (.ref 92) "__get__" = _; kernel_rfl
  ·show takesIn (K01 w.params) (.ref 92) = _; kernel_rfl
  ·show takerIn (K01 w.params) 173 "weight" = _; kernel_rfl
  ·show typeIn (K01 w.params) (.ref 92) = _; kernel_rfl
 frees := by
  intro n hn
  show nsIn (K01 w.params) mainGlobals n = some none
  simp only [List.mem_cons, List.not_mem_nil, or_false] at hn
  rcases hn with rfl | rfl | rfl | rfl | rfl | rfl | rfl | rfl | rfl <;> kernel_rfl
 isiN := by
  intro T hT
  show kitOne (K01 w.params) (.type T) (.type "int") = some false
  simp only [List.mem_cons, List.not_mem_nil, or_false] at hT
  rcases hT with rfl | rfl | rfl | rfl <;> kernel_rfl
 isi := by
  show kitOne (K01 w.params) _ _ = _ ∧ kitOne (K01 w.params) _ _ = _ ∧ kitOne (K01 w.params) _ _ = _
  exact ⟨by kernel_rfl, by kernel_rfl, by kernel_rfl⟩
 isiC := by
  refine ⟨?_, ?_, ?_, ?_⟩
  ·show findIn (K01 w.params) (.ref 173) "__class__" = _; kernel_rfl
  ·show specialIn (K01 w.params) (.builtin "object.__class__") "__get__" = _; kernel_rfl
  ·show takesIn (K01 w.params) (.builtin "object.__class__") = _; kernel_rfl
  ·show mroIn (K01 w.params) 173 (.type "object") = _; kernel_rfl
 subInt := by show subIn (K01 w.params) (.type "int") (.ref 173) = some false; kernel_rfl
theorem vs_ints {W : Wd} : ∀ {vs : List Value} {ns : List Int}, IntsAre vs ns → VsRel W (ns.map V.int) vs
 | _, _, .nil => trivial
 | _, _, .cons _ _ h => ⟨⟨_, rfl⟩, vs_ints h⟩
noncomputable def w01 (a L : Addr) : Wd := { n := 2, ρ := fun i => if i = 0 then a else L + 1, δ := fun _ => 0, lab := fun x => if x = L then some .frame else if x = L + 1 then some (.own 1) else none }
noncomputable def st01 (ns : List Int) : S := ⟨fun i => if i = 0 then some (.ro (ns.map .int)) else if i = 1 then some (.cell none) else none, 2, fun x => if x = ("script" : Str) then some (.ref 0) else none⟩
theorem st01_inv {w : World} {s₁ : Heap} {a : Addr} {vs : List Value} {zs : List Int} {h₁ : Heap} {m : Str → Option Value} {oc : Obj} (hL : s₁.IsList a vs.toArray) (hI : IntsAre vs zs) (keep : ∀ b o, s₁.get? b = some o → h₁.get? b = some o) (ns : h₁.Ns s₁.objs.size m)
  (hc : h₁.get? (s₁.objs.size + 1) = some oc) (hd : oc.data = .cell none) : Inv (c01 w s₁) [(s₁.objs.size, m)] [] (w01 a s₁.objs.size) (st01 zs).heap h₁ where
 stays := keep
 frs := fun p hp => by
  obtain rfl := smp hp
  exact ns
 pin := fun p hp => zL hp
 dom := fun i o e => by
  have e' : (if i = 0 then some (AObj.ro (zs.map .int)) else if i = 1 then some (.cell none) else none) = some o := e
  show i < 2
  by_cases z : i = 0
  ·lia
  ·rw [if_neg z] at e'
   by_cases z : i = 1
   ·lia
   ·rw [if_neg z] at e'; cases e'
 own := fun i o e => by
  have e' : (if i = 0 then some (AObj.ro (zs.map .int)) else if i = 1 then some (.cell none) else none) = some o := e
  by_cases z : i = 0
  ·rw [if_pos z] at e'; cases e'
   subst z
   exact ⟨vs, hL, vs_ints hI⟩
  ·rw [if_neg z] at e'
   by_cases z : i = 1
   ·rw [if_pos z] at e'; cases e'
    subst z
    exact ⟨none, ⟨oc, hc, hd⟩, trivial⟩
   ·rw [if_neg z] at e'; cases e'
 lfr := fun p hp => by
  obtain rfl := smp hp
  exact if_pos rfl
 lpin := fun p hp => zL hp
 lown := fun i o e hn => by
  have e' : (if i = 0 then some (AObj.ro (zs.map .int)) else if i = 1 then some (.cell none) else none) = some o := e
  by_cases z : i = 0
  ·rw [if_pos z] at e'; cases e'; exact hn.elim
  ·rw [if_neg z] at e'
   by_cases z : i = 1
   ·subst z
    exact (if_neg (Nat.succ_ne_self _)).trans (if_pos rfl)
   ·rw [if_neg z] at e'; cases e'
 ldic := fun i fs e => by
  have e' : (if i = 0 then some (AObj.ro (zs.map .int)) else if i = 1 then some (.cell none) else none) = some (.inst fs) := e
  by_cases z : i = 0
  ·rw [if_pos z] at e'; cases e'
  ·rw [if_neg z] at e'
   by_cases z : i = 1
   ·rw [if_pos z] at e'; cases e'
   ·rw [if_neg z] at e'; cases e'
 new := fun x hx => by
  have hx' : (if x = s₁.objs.size then some Tag.frame else if x = s₁.objs.size + 1 then some (.own 1) else none) ≠ none := hx
  by_cases z : x = s₁.objs.size
  ·subst z
   obtain ⟨o, _, _, ho, _⟩ := ns
   exact ⟨⟨base_none (c := c01 w s₁) (Nat.le_refl _), fun _ => Nat.le_refl _⟩, o, ho⟩
  ·rw [if_neg z] at hx'
   by_cases z : x = s₁.objs.size + 1
   ·subst z
    exact ⟨⟨base_none (c := c01 w s₁) (Nat.le_succ _), fun _ => Nat.le_succ _⟩, _, hc⟩
   ·rw [if_neg z] at hx'; exact absurd rfl hx'
 nodup := List.nodup_cons.mpr ⟨(fun h => zL h), List.nodup_nil⟩
 sz := by
  obtain ⟨o, _, _, ho, _⟩ := ns
  exact Nat.le_of_lt (Heap.lt_size ho)
theorem law_runs {w : World} {s : Shared} {mg mb : Str → Option Value} {p : Program} {loose : List Str} (KX : (K01 w.params).In s.heap) (T : TopRead p loose mg mb s.heap)
  {a : Addr} {vs : List Value} {zs : List Int} {m cm : Str → Option Value} {env : Env} {s' : Shared} (hL : s.heap.IsList a vs.toArray) (hI : IntsAre vs zs) (hlen : zs.length ≤ 63) (hm : m "script" = some (.ref a)) (hcm : cm "inside" = none)
  (e1 : env.scope = g_law.scope) (e2 : env.locals = s.heap.objs.size) (e3 : env.globals = mainGlobals) (e4 : env.builtins = builtinsNs) (e5 : env.frame = some s.heap.objs.size) (e6 : env.cells = [(("inside" : Str), s.heap.objs.size + 1)])
  (x : InCallC s env.locals m env.cells cm s') {Q : PySem.Flow → Shared → Prop} {E : Value → Shared → Prop} (hQ : ∀ s'', (∀ b o, s.heap.get? b = some o → s''.heap.get? b = some o) → Same s s'' → Q (.ret (.bool true)) s'') :
  wpAny (model PySem.Challenge.rw_it0021_01.row.prog w) (callerA.deeper env) (execs g_law.body env) Q E s' := by
 have C := cx01 w KX T
 have ns := x.toInCall.ns
 have kp := x.toInCall.keep
 have sm : Same s s' := x.toInCall.same
 rw [e2] at ns
 obtain ⟨oc, hc, hd⟩ := x.cell "inside" (s.heap.objs.size + 1) (by rw [e6]; exact List.lookup_cons_self)
 rw [hcm] at hd
 have fo : FOk ⟨c01 w s.heap, 22, 0, false, [], [env], s.heap.objs.size, []⟩ := fun e he => by
  obtain rfl := smp he
  exact ⟨by rw [e1]; decide, _, e5, .head _⟩
 have hA : AOk ⟨c01 w s.heap, 22, 0, false, [], [env], s.heap.objs.size, []⟩ (callerA.deeper env) := ⟨fo, Around.frames_deeper rfl, .inl rfl, Nat.zero_le _, (by decide : 1 + claimMargin + 1 + 8 * 22 ≤ 980 + 0), (by decide : 4 + 3 + 60 * 22 ≤ 9800 + 0)⟩
 have O : EnvOk ⟨c01 w s.heap, 22, 0, false, [], [env], s.heap.objs.size, []⟩ (w01 a s.heap.objs.size) (evL 1) env := by
  refine ⟨by rw [e1]; rfl, fun _ => by rw [e1], e3, e4, e2, fun x i _ e => ?_, rfl⟩
  rw [e6]
  by_cases z : x = "inside"
  ·subst z
   obtain rfl : 1 = i := sj (List.lookup_cons_self.symm.trans e)
   exact ⟨(by decide : 1 < 2), List.lookup_cons_self⟩
  ·have e' : ([(("inside" : Str), 1)] : List (Str × Nat)).lookup x = some i := e
   rw [List.lookup_cons, show (x == ("inside" : Str)) = false from beq_eq_false_iff_ne.mpr z] at e'
   cases e'
 have hS : St ⟨c01 w s.heap, 22, 0, false, [], [env], s.heap.objs.size, []⟩ (w01 a s.heap.objs.size) m (st01 zs) s' := by
  refine ⟨st01_inv hL hI kp ns hc hd, rfl, fun x v e => ?_⟩
  have e' : (if x = ("script" : Str) then some (V.ref 0) else none) = some v := e
  by_cases z : x = "script"
  ·rw [if_pos z] at e'; cases e'; subst z
   exact ⟨_, hm, (by decide : 0 < 2), rfl⟩
  ·rw [if_neg z] at e'; cases e'
 obtain ⟨st', hr⟩ := law_body (i := 0) (cl := 1) (ns := zs) (h := (st01 zs).heap) (n := 2) (l := (st01 zs).loc) (cv := none) rfl (by decide) rfl (by decide) (show (if ("script" : Str) = "script" then some (V.ref 0) else none) = some (.ref 0) from if_pos rfl) hlen
 refine snd_Ss g_law.body ⟨C, fnSim_all C 22, Nat.zero_le _⟩ ⟨fo, [], _, rfl, e5⟩ O _ _ _ _ _ _ _ hA (Ext.refl _) hS ?_
 have hr' : denSs (c01 w s.heap).P (phi (c01 w s.heap).P 22) (evL 1) g_law.body (st01 zs) = .ok (.ret (.bool true)) st' := hr
 rw [hr']
 rintro W' mm' s'' f' hx' hS' hs' ⟨u, rfl, rfl⟩
 exact hQ s'' hS'.inv.stays (sm.trans hs')
theorem post_true (l : OpenLaw) (args args' : List WData) : l.row.claim.post args (.bool true) args' = true := by
 have h1 : WShape.has [] (WData.bool true) .bool = true := by first | rfl | decide | kernel_rfl | (simp [WShape.has, WShape.arms]; done)
 have h2 : PySem.W.same (WData.bool true) (WData.bool true) = true := by first | rfl | decide | kernel_rfl
 show (WShape.has [] (WData.bool true) .bool && WTm.holds [] (.eq .res (.lit (.bool true))) { args := args, res := some (.bool true), after := args' }) = true
 rw [h1, Bool.true_and]
 unfold WTm.holds WTm.value
 simp [WTm.value, h2]
noncomputable abbrev r01 : RowW := OpenRow.toRowW PySem.Challenge.rw_it0021_01.row
noncomputable def lawD : DefRec := ⟨"law", gargs "law" 0, g_law.body, g_law.scope, ⟨197, 0, 260, 35⟩⟩
theorem ws01 : PySem.Challenge.rw_it0021_01.wellSaid = true := by kernel_rfl
theorem args01 {w : World} {s₀ s₁ : Shared} {args : List WData} {vals : List Value} {as : List Addr} (hpre : r01.claim.pre args = true) (hlay : WData.layableAll args = true) (hrd : ReadsAllW r01.records (classAt s₀.heap) s₁.heap vals args as) (hwl : WellAll w.params s₁.heap vals args) (hlo : ∀ a ∈ as, (a == sysModules) = false) :
  ∃ a vs zs, vals = [.ref a] ∧ s₁.heap.IsList a vs.toArray ∧ IntsAre vs zs ∧ zs.length ≤ 63 := by
 wrow_args hpre hlay hrd hwl hlo
 rename IntsAre _ _ => hI
 rename Heap.IsList _ _ _ => hL
 exact ⟨_, _, _, rfl, hL, hI, by lia⟩
theorem walk01 : WalkO q01 [Str.ofString "Stream"] (XL q01 []) (Hook.says H01) r01 lawD [] fun f vs => PySem.call f vs := by
 intro w s₀ s₁ mg mb G Y fa o pm cd doc dV kV ho hd hcd hD hmg hg args vals as hpre hlay hrd hwl hlo
 obtain ⟨a, vs, zs, rfl, hL, hI, hlen⟩ := args01 hpre hlay hrd hwl hlo
 have KX : (K01 w.params).In s₁.heap := kIn_of Y
 obtain rfl := hD.none (show (gargs "law" 0).defaults = [] by kernel_rfl)
 obtain rfl := hD.noKw
 refine enter_call (codeAny_mono (codeAny_call_cells (body := g_law.body) (binds := [(("script" : Str), .ref a)]) (by decide) ho hd G.T.nolimit hcd rfl rfl rfl (fun x hx => by rw [smp hx]; exact .inl (show g_law.scope.names.lookup ("script" : Str) = _ by kernel_rfl)) (fun s' x => ?_) (by kernel_rfl) (by kernel_rfl) (by kernel_rfl)) fun _ _ g => GoodW.toG g)
 refine law_runs KX (topRead_of G.T) hL hI hlen (by kernel_rfl) (by kernel_rfl) rfl rfl rfl rfl rfl (cellsFrom_one (show cellNs g_law.scope.names = [("inside" : Str)] by kernel_rfl)) x fun s'' keep ⟨h', tk', e⟩ => ?_
 subst e
 exact ⟨.inl ⟨.bool true, .bool true, [], rfl, fun _ => rfl, .bool true, post_true _ _ _, fun _ => ⟨List.nodup_nil, fun _ h => zL h⟩⟩, keep, rfl, hg⟩
theorem wit01 : (OpenRow.toRowW PySem.Challenge.rw_it0021_01.row).promised := by w_witness2
theorem final01 : PySem.Challenge.rw_it0021_01.Holds :=
 holds_law ws01 fun said => PySem.W.holds_open (q := q01) (loose := [Str.ofString "Stream"]) (Xt := (fun s => xlAt q01 [] s && recOk (RowW.records r01) s)) (XP := XL q01 []) (Yf := Hook.obs H01) (Ya := Hook.val H01) (YP := Hook.says H01) (d := lawD) (kwd := []) (N := 3526) left01 (Hook.of H01) (Hook.keeps H01) (fun s e => xl_of s (Bool.and_eq_true_iff.mp e).1) XL.keeps (by kernel_rfl) (by kernel_rfl) (by rfl) (fun s e => recFacts_of (Bool.and_eq_true_iff.mp e).2) (by rfl) said (by decide +kernel) ⟨rfl, rfl, rfl, rfl, rfl, by decide +kernel⟩ wit01 walk01
end
end Mine
theorem PySem.Challenge.cw_it0021_01_holds : PySem.Challenge.rw_it0021_01.Holds :=
  Mine.final01
