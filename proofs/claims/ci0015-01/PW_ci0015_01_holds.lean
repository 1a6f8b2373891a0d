import PyProof.Rows.All
import Wide.All
import OpenK.AllK
import Wide.FinOn
import PySem.Challenge.RW_ci0015_01
set_option Elab.async false

/-! Mini -/
section
open PySem PySem.W PyProof.Rows
namespace Mine

/-! the small language -/
inductive BOp where | add | sub | mul | fdiv | mod | band
  deriving DecidableEq
inductive COp where | eq | ne | lt | le | gt | ge | isin | notin
  deriving DecidableEq
inductive Tgt where | one (x : String) | many (xs : List String)
  deriving DecidableEq
inductive E where
  | nil | cons (e es : E)
  | kv (k : String) (v rest : E)
  | var (x : String) | non | bool (b : Bool) | int (i : Int) | str (s : List Nat)
  | list (es : E) | tuple (es : E) | dict (es : E) | tdict
  | attr (e : E) (f : String) | sub (e i : E) | slice (e lo hi : E) | dget (e : E) (k : String)
  | dgetd (e : E) (k : String) (d : E) | dpop (e : E) (k : String) (d : E) | dhas (k : String) (e : E) | dhasnt (k : String) (e : E)
  | neg (e : E) | lnot (e : E) | bin (o : BOp) (a b : E) | isNone (e : E) | notNone (e : E) | cmp (o : COp) (a b : E)
  | ands (es : E) | ors (es : E) | ite (c t f : E)
  | comp (vis : List String) (elt : E) (x : Tgt) (it cond : E)
  | call (f : String) (es : E) | bcall (f : String) (es : E) | new (c : String) (es : E)
  | umeth (e : E) (m : String) (es : E) | bmeth (e : E) (m : String) (es : E) | callLoc (f : String) (es : E)
  | rng (a b : E) (one : Bool) | listRng (a : E) | enumE (a : E) | zipE (a b : E)
  | stuck
inductive S where
  | done | seq (a b : S) | expr (e : E) | retS (e : E) | passS | brkS | contS
  | ifS (c : E) (t f : S) | whileS (c : E) (b : S) | forS (x : Tgt) (it : E) (b : S)
  | assign (t : Tgt) (e : E) | swap (t : Tgt) (e : E)
  | setAttr (o : E) (f : String) (v : E) | setSub (o i v : E) | setSlice (o lo hi v : E) | dset (o : E) (k : String) (v : E)
  | aug (x : String) (o : BOp) (e : E) | augAttr (e : E) (f : String) (o : BOp) (v : E) | augSub (e i : E) (o : BOp) (v : E)
  | defn (f : String)
  | extS (vis : List String) (e elt : E) (x : Tgt) (it : E)
structure Fn where
  params : List String
  body : S

/-! values, objects, the store -/
inductive V where
  | none | bool (b : Bool) | int (i : Int) | str (s : List Nat) | ref (n : Nat)
  deriving DecidableEq, Inhabited
inductive O where
  | list (vs : List V) | tuple (vs : List V) | dict (es : List (String × V))
  | tdict (es : List ((List Nat × Int × Bool) × Int)) | inst (c : String) (fs : List (String × V))
  deriving DecidableEq
abbrev St := List O
abbrev Loc := String → Option V
def Loc.set (ℓ : Loc) (x : String) (v : V) : Loc := fun y => if y = x then some v else ℓ y
/-- what an inner scope sees -/
def Loc.only (ℓ : Loc) (vis : List String) : Loc := fun y => if vis.contains y then ℓ y else none
def LIM : Nat := 1048576
def ILIM : Int := 1099511627776

def St.new (σ : St) (o : O) : V × St := (.ref σ.length, σ ++ [o])
def getList (σ : St) : V → Option (Nat × List V)
  | .ref a => match σ[a]? with | some (.list vs) => some (a, vs) | _ => none
  | _ => none
def getDict (σ : St) : V → Option (Nat × List (String × V))
  | .ref a => match σ[a]? with | some (.dict es) => some (a, es) | _ => none
  | _ => none
def getInst (σ : St) : V → Option (Nat × String × List (String × V))
  | .ref a => match σ[a]? with | some (.inst c fs) => some (a, c, fs) | _ => none
  | _ => none
def lenAt (σ : St) (a : Nat) : Option Nat := match σ[a]? with | some (.list vs) => some vs.length | _ => none
def itemAt (σ : St) (a i : Nat) : Option V := match σ[a]? with | some (.list vs) => vs[i]? | _ => none
def truthy (σ : St) : V → Option Bool
  | .none => some false
  | .bool b => some b
  | .int i => some (i != 0)
  | .str s => some !s.isEmpty
  | .ref a => match σ[a]? with
    | some (.list vs) => some !vs.isEmpty
    | _ => none
def seqIdx (n : Nat) (i : Int) : Option Nat :=
  if 0 ≤ i then (if i < n then some i.toNat else none) else if 0 ≤ i + n then some (i + n).toNat else none
def bound (n : Nat) (i : Int) : Nat := if i < 0 then (i + n).toNat else min i.toNat n
def bnd (n dflt : Nat) : V → Option Nat
  | .none => some dflt
  | .int i => if i.natAbs ≤ LIM then some (bound n i) else none
  | _ => none
def cut {α : Type} (l : List α) (lo hi : Nat) : List α := (l.drop lo).take (hi - lo)
def mkS (l : List Nat) : Str := ⟨l.toArray⟩
def alnumS (l : List Nat) : Bool := Txt.isalnum (mkS l)
def spaceS (l : List Nat) : Bool := Txt.isspace (mkS l)
def endsS (l k : List Nat) : Bool := Txt.endswith (mkS l) (mkS k)

def mulList (σ : St) (x : Nat) (n : Int) : Option (V × St) := do
  let (_, vs) ← getList σ (.ref x)
  if 0 ≤ n ∧ n ≤ 1000 ∧ vs.length * n.toNat ≤ LIM then some (.ref σ.length, σ ++ [.list (List.replicate n.toNat vs).flatten]) else none
def addLists (σ : St) (x y : Nat) : Option (V × St) := do
  let (_, vs) ← getList σ (.ref x)
  let (_, ws) ← getList σ (.ref y)
  if vs.length + ws.length ≤ LIM then some (.ref σ.length, σ ++ [.list (vs ++ ws)]) else none
def binOp (σ : St) (o : BOp) (a b : V) : Option (V × St) :=
  match o, a, b with
  | .add, .int a, .int b => some (.int (a + b), σ)
  | .sub, .int a, .int b => some (.int (a - b), σ)
  | .mul, .int a, .int b => if a.natAbs ≤ LIM ∧ b.natAbs ≤ LIM then some (.int (a * b), σ) else none
  | .fdiv, .int a, .int b => if 0 < b ∧ b.natAbs ≤ LIM then some (.int (a.fdiv b), σ) else none
  | .mod, .int a, .int b => if 0 < b ∧ b.natAbs ≤ LIM then some (.int (a.fmod b), σ) else none
  | .band, .int a, .int b => some (.int (Builtin.bitAnd a b), σ)
  | .add, .str a, .str b => if a.length + b.length ≤ LIM then some (.str (a ++ b), σ) else none
  | .mul, .str a, .int n => if 0 ≤ n ∧ n ≤ 1000 ∧ a.length * n.toNat ≤ LIM then some (.str (List.replicate n.toNat a).flatten, σ) else none
  | .mul, .ref x, .int n => mulList σ x n
  | .add, .ref x, .ref y => addLists σ x y
  | _, _, _ => none
def augOp (o : BOp) (a b : V) : Option V :=
  match o, a, b with
  | .add, .int a, .int b => some (.int (a + b))
  | .sub, .int a, .int b => some (.int (a - b))
  | .add, .str a, .str b => if a.length + b.length ≤ LIM then some (.str (a ++ b)) else none
  | _, _, _ => none
def allStrs : List V → Option (List (List Nat))
  | [] => some []
  | .str s :: r => (allStrs r).map (s :: ·)
  | _ => none
def seqAt (σ : St) (a : Nat) : Option (List V) := match σ[a]? with
  | some (.list vs) => some vs
  | some (.tuple vs) => some vs
  | _ => none
def isIn (σ : St) (a b : V) : Option Bool :=
  match a, b with
  | .str [c], .str l => some (l.contains c)
  | .str s, .ref y => do
    let vs ← seqAt σ y
    let l ← allStrs vs
    some (l.contains s)
  | _, _ => none
def notIn (σ : St) (a b : V) : Option Bool :=
  match a, b with
  | .str [c], .str l => some (!l.contains c)
  | .str s, .ref y => match σ[y]? with
    | some (.tuple vs) => (allStrs vs).map fun l => !l.contains s
    | _ => none
  | _, _ => none
def isEq (σ : St) (a b : V) : Option Bool :=
  match a, b with
  | .int a, .int b => some (a == b)
  | .str a, .str b => some (a == b)
  | .bool a, .bool b => some (a == b)
  | .ref x, .ref y => do
    let (_, vs) ← getList σ (.ref x)
    let (_, ws) ← getList σ (.ref y)
    if ws.isEmpty then some vs.isEmpty else none
  | _, _ => none
def cmpOp (σ : St) (o : COp) (a b : V) : Option Bool :=
  match o, a, b with
  | .eq, a, b => isEq σ a b
  | .ne, .int a, .int b => some (a != b)
  | .ne, .str a, .str b => some (a != b)
  | .ne, .bool a, .bool b => some (a != b)
  | .lt, .int a, .int b => some (decide (a < b))
  | .le, .int a, .int b => some (decide (a ≤ b))
  | .gt, .int a, .int b => some (decide (a > b))
  | .ge, .int a, .int b => some (decide (a ≥ b))
  | .isin, a, b => isIn σ a b
  | .notin, a, b => notIn σ a b
  | _, _, _ => none
def index (σ : St) (v i : V) : Option V :=
  match v, i with
  | .str s, .int i => do
    let k ← seqIdx s.length i
    let c ← s[k]?
    some (.str [c])
  | .ref a, .int i => do
    let vs ← seqAt σ a
    let k ← seqIdx vs.length i
    vs[k]?
  | _, _ => none
def sliceOf (σ : St) (v lo hi : V) : Option (V × St) :=
  match v with
  | .str s => do
    let l ← bnd s.length 0 lo
    let h ← bnd s.length s.length hi
    some (.str (cut s l h), σ)
  | .ref a => do
    let (_, vs) ← getList σ (.ref a)
    let l ← bnd vs.length 0 lo
    let h ← bnd vs.length vs.length hi
    some (.ref σ.length, σ ++ [.list (cut vs l h)])
  | _ => none
def maxL : List V → Option Int
  | [.int a] => some a
  | .int a :: r => (maxL r).map (max a ·)
  | _ => none
def isRef : V → Bool
  | .ref _ => true
  | _ => false
def builtinF (σ : St) (f : String) (args : List V) : Option (V × St) :=
  match f, args with
  | "len", [.str s] => some (.int s.length, σ)
  | "len", [.ref a] => (seqAt σ a).map fun vs => (.int vs.length, σ)
  | "max", [.int a, .int b] => some (.int (if b > a then b else a), σ)
  | "min", [.int a, .int b] => some (.int (if b < a then b else a), σ)
  | "bool", [v] => if isRef v then none else (truthy σ v).map fun b => (.bool b, σ)
  | "int", [.int i] => some (.int i, σ)
  | _, _ => none
abbrev TKey := List Nat × Int × Bool
def keyOf (σ : St) : V → Option TKey
  | .ref a => match σ[a]? with | some (.tuple [.str s, .int i, .bool b]) => some (s, i, b) | _ => none
  | _ => none
def getT (σ : St) (a : Nat) : Option (List (TKey × Int)) := match σ[a]? with | some (.tdict es) => some es | _ => none
def putT (es : List (TKey × Int)) (q : TKey) (z : Int) : List (TKey × Int) :=
  if (es.lookup q).isSome then es.map (fun p => if p.1 == q then (q, z) else p) else es ++ [(q, z)]
def mOk (σ : St) (v : V) (m : String) : Bool :=
  if m = "append" ∨ m = "pop" ∨ m = "clear" then (getList σ v).isSome
  else if m = "get" then match v with | .ref a => (getT σ a).isSome | _ => false
  else match v with | .str _ => true | _ => false
def builtinM (σ : St) (v : V) (m : String) (args : List V) : Option (V × St) :=
  match m, v, args with
  | "append", .ref a, [x] => do
    let (_, vs) ← getList σ (.ref a)
    if vs.length < LIM ∧ a ≠ 0 then some (.none, σ.set a (.list (vs ++ [x]))) else none
  | "pop", .ref a, [] => do
    let (_, vs) ← getList σ (.ref a)
    let x ← vs.getLast?
    if a ≠ 0 then some (x, σ.set a (.list vs.dropLast)) else none
  | "clear", .ref a, [] => do
    let (_, _) ← getList σ (.ref a)
    if a ≠ 0 then some (.none, σ.set a (.list [])) else none
  | "get", .ref a, [k, .int d] => do
    let es ← getT σ a
    let q ← keyOf σ k
    some (.int ((es.lookup q).getD d), σ)
  | "join", .str [], [.ref a] => do
    let (_, vs) ← getList σ (.ref a)
    let l ← allStrs vs
    if l.flatten.length ≤ LIM then some (.str l.flatten, σ) else none
  | "isalnum", .str s, [] => some (.bool (alnumS s), σ)
  | "isspace", .str s, [] => some (.bool (spaceS s), σ)
  | "endswith", .str s, [.str k] => some (.bool (endsS s k), σ)
  | _, _, _ => none
def bindMany (ℓ : Loc) (xs : List String) (vs : List V) : Option Loc :=
  if vs.length = xs.length then some ((xs.zip vs).foldl (fun ℓ p => ℓ.set p.1 p.2) ℓ) else none
def getTuple (σ : St) : V → Option (List V)
  | .ref a => match σ[a]? with | some (.tuple vs) => some vs | _ => none
  | _ => none
def bindTgt (ℓ : Loc) (σ : St) (t : Tgt) (v : V) : Option Loc :=
  match t with
  | .one x => some (ℓ.set x v)
  | .many xs => do
    let vs ← getTuple σ v
    bindMany ℓ xs vs

/-! sources of a loop -/
inductive Src where | list (a : Nat) | rng (lo hi : Int) | enum (a : Nat) | zip (a b : Nat)
def Src.size (σ : St) : Src → Option Nat
  | .list a | .enum a => lenAt σ a
  | .rng lo hi => some (hi - lo).toNat
  | .zip a b => do
    let n ← lenAt σ a
    let k ← lenAt σ b
    some (min n k)
/-- the locals behind the i-th draw -/
def Src.bind (σ : St) (ℓ : Loc) (t : Tgt) (i : Nat) : Src → Option Loc
  | .list a => do
    let v ← itemAt σ a i
    match t with
    | .one x => some (ℓ.set x v)
    | .many _ => none
  | .rng lo _ => match t with
    | .one x => some (ℓ.set x (.int (lo + i)))
    | .many _ => none
  | .enum a => do
    let v ← itemAt σ a i
    match t with
    | .one _ => none
    | .many xs => bindMany ℓ xs [.int i, v]
  | .zip a b => do
    let v ← itemAt σ a i
    let u ← itemAt σ b i
    match t with
    | .one _ => none
    | .many xs => bindMany ℓ xs [v, u]

/-- a comprehension's turns: `rem` are left, the source keeps its size `n` -/
def compGo (src : Src) (t : Tgt) (ℓ : Loc) (n : Nat) (cond : Loc → St → Option (Bool × St)) (elt : Loc → St → Option (V × St)) : Nat → Nat → List V → St → Option (List V × St)
  | 0, _, acc, σ => if src.size σ = some n then some (acc, σ) else none
  | rem + 1, i, acc, σ =>
    if src.size σ = some n then do
      let ℓ' ← src.bind σ ℓ t i
      let (b, σ) ← cond ℓ' σ
      if b then do
        let (v, σ) ← elt ℓ' σ
        compGo src t ℓ n cond elt rem (i + 1) (acc ++ [v]) σ
      else compGo src t ℓ n cond elt rem (i + 1) acc σ
    else none
/-- a generator that a list draws dry -/
def extGo (src : Src) (t : Tgt) (ℓ : Loc) (n a : Nat) (elt : Loc → St → Option (V × St)) : Nat → Nat → St → Option St
  | 0, _, σ => if src.size σ = some n then some σ else none
  | rem + 1, i, σ =>
    if src.size σ = some n then do
      let ℓ' ← src.bind σ ℓ t i
      let (v, σ) ← elt ℓ' σ
      let (_, vs) ← getList σ (.ref a)
      if vs.length < LIM then extGo src t ℓ n a elt rem (i + 1) (σ.set a (.list (vs ++ [v]))) else none
    else none
def setField : List (String × V) → String → V → List (String × V)
  | [], f, v => [(f, v)]
  | (a, b) :: r, f, v => if a == f then (a, v) :: r else (a, b) :: setField r f v
def putField (σ : St) (a : Nat) (mk : List (String × V) → O) (fs : List (String × V)) (f : String) (v : V) : Option St :=
  if (setField fs f v).length ≤ 1000 ∧ a ≠ 0 then some (σ.set a (mk (setField fs f v))) else none
def setItemF (σ : St) (x j w : V) : Option St :=
  match x, j with
  | .ref a, .int j => do
    let (_, vs) ← getList σ (.ref a)
    if 0 ≤ j ∧ j < vs.length ∧ a ≠ 0 then some (σ.set a (.list (vs.set j.toNat w))) else none
  | .ref a, .ref k => do
    let es ← getT σ a
    let q ← keyOf σ (.ref k)
    match w with
    | .int z => if es.length ≤ 1000 ∧ a ≠ 0 then some (σ.set a (.tdict (putT es q z))) else none
    | _ => none
  | _, _ => none
def setSliceF (σ : St) (x l h w : V) : Option St := do
  let (a, vs) ← getList σ x
  let (b, ws) ← getList σ w
  let l ← bnd vs.length 0 l
  let h ← bnd vs.length vs.length h
  if a ≠ b ∧ l ≤ h ∧ vs.length + ws.length ≤ LIM ∧ a ≠ 0 then some (σ.set a (.list (vs.take l ++ ws ++ vs.drop h))) else none
def asInt : V → Option Int
  | .int i => some i
  | _ => none
def asRef : V → Option Nat
  | .ref i => some i
  | _ => none

abbrev CallF := String → List V → St → Option (V × St)
variable (cf : CallF)

mutual
def evalE : E → Loc → St → Option (V × St)
  | .nil, _, σ => some (.none, σ)
  | .var x, ℓ, σ => do let v ← ℓ x; some (v, σ)
  | .non, _, σ => some (.none, σ)
  | .bool b, _, σ => some (.bool b, σ)
  | .int i, _, σ => some (.int i, σ)
  | .str s, _, σ => some (.str s, σ)
  | .list es, ℓ, σ => do
    let (vs, σ) ← evalL es ℓ σ
    some (.ref σ.length, σ ++ [.list vs])
  | .tuple es, ℓ, σ => do
    let (vs, σ) ← evalL es ℓ σ
    some (.ref σ.length, σ ++ [.tuple vs])
  | .dict es, ℓ, σ => do
    let (vs, σ) ← evalKV es ℓ σ
    some (.ref σ.length, σ ++ [.dict vs])
  | .tdict, _, σ => some (.ref σ.length, σ ++ [.tdict []])
  | .attr e f, ℓ, σ => do
    let (v, σ) ← evalE e ℓ σ
    let (_, _, fs) ← getInst σ v
    let w ← fs.lookup f
    some (w, σ)
  | .sub e i, ℓ, σ => do
    let (v, σ) ← evalE e ℓ σ
    let (w, σ) ← evalE i ℓ σ
    let r ← index σ v w
    some (r, σ)
  | .slice e lo hi, ℓ, σ => do
    let (v, σ) ← evalE e ℓ σ
    let (l, σ) ← evalE lo ℓ σ
    let (h, σ) ← evalE hi ℓ σ
    sliceOf σ v l h
  | .dget e k, ℓ, σ => do
    let (v, σ) ← evalE e ℓ σ
    let (_, es) ← getDict σ v
    let w ← es.lookup k
    some (w, σ)
  | .dgetd e k d, ℓ, σ => do
    let (v, σ) ← evalE e ℓ σ
    let _ ← getDict σ v
    let (w, σ) ← evalE d ℓ σ
    let (_, es) ← getDict σ v
    some ((es.lookup k).getD w, σ)
  | .dhas k e, ℓ, σ => do
    let (v, σ) ← evalE e ℓ σ
    let (_, es) ← getDict σ v
    some (.bool (es.lookup k).isSome, σ)
  | .dhasnt k e, ℓ, σ => do
    let (v, σ) ← evalE e ℓ σ
    let (_, es) ← getDict σ v
    some (.bool !(es.lookup k).isSome, σ)
  | .neg e, ℓ, σ => do
    let (v, σ) ← evalE e ℓ σ
    let i ← asInt v
    some (.int (-i), σ)
  | .lnot e, ℓ, σ => do
    let (v, σ) ← evalE e ℓ σ
    let b ← truthy σ v
    some (.bool !b, σ)
  | .bin o a b, ℓ, σ => do
    let (v, σ) ← evalE a ℓ σ
    let (w, σ) ← evalE b ℓ σ
    binOp σ o v w
  | .isNone e, ℓ, σ => do
    let (v, σ) ← evalE e ℓ σ
    some (.bool (v == .none), σ)
  | .notNone e, ℓ, σ => do
    let (v, σ) ← evalE e ℓ σ
    some (.bool (v != .none), σ)
  | .cmp o a b, ℓ, σ => do
    let (v, σ) ← evalE a ℓ σ
    let (w, σ) ← evalE b ℓ σ
    let r ← cmpOp σ o v w
    some (.bool r, σ)
  | .ands es, ℓ, σ => evalB true es ℓ σ
  | .ors es, ℓ, σ => evalB false es ℓ σ
  | .ite c t f, ℓ, σ => do
    let (v, σ) ← evalE c ℓ σ
    let b ← truthy σ v
    if b then evalE t ℓ σ else evalE f ℓ σ
  | .comp vis elt t it cond, ℓ, σ => do
    let (src, σ) ← evalSrc it ℓ σ
    let n ← src.size σ
    let (vs, σ) ← compGo src t (ℓ.only vis) n (fun ℓ σ => evalC cond ℓ σ) (fun ℓ σ => evalE elt ℓ σ) n 0 [] σ
    if vs.length ≤ LIM then some (.ref σ.length, σ ++ [.list vs]) else none
  | .call f es, ℓ, σ => do
    let (vs, σ) ← evalL es ℓ σ
    cf f vs σ
  | .bcall f es, ℓ, σ => do
    let (vs, σ) ← evalL es ℓ σ
    builtinF σ f vs
  | .new c es, ℓ, σ => do
    let (vs, σ) ← evalL es ℓ σ
    let (r, σ') ← cf (c ++ ".__init__") (.ref σ.length :: vs) (σ ++ [.inst c []])
    if r = .none then some (.ref σ.length, σ') else none
  | .umeth e m es, ℓ, σ => do
    let (v, σ) ← evalE e ℓ σ
    let (_, c, fs) ← getInst σ v
    if (fs.lookup m).isSome then none else do
      let (vs, σ) ← evalL es ℓ σ
      cf (c ++ "." ++ m) (v :: vs) σ
  | .bmeth e m es, ℓ, σ => do
    let (v, σ) ← evalE e ℓ σ
    if mOk σ v m then do
      let (vs, σ) ← evalL es ℓ σ
      builtinM σ v m vs
    else none
  | .listRng a, ℓ, σ => do
    let (v, σ) ← evalE a ℓ σ
    let n ← asInt v
    if 0 ≤ n ∧ n.natAbs ≤ LIM then some (.ref σ.length, σ ++ [.list ((List.range n.toNat).map fun i => .int (i : Nat))]) else none
  | .dpop .., _, _ | .cons .., _, _ | .kv .., _, _ | .callLoc .., _, _ | .rng .., _, _ | .enumE .., _, _ | .zipE .., _, _ | .stuck, _, _ => none
def evalL : E → Loc → St → Option (List V × St)
  | .nil, _, σ => some ([], σ)
  | .cons e es, ℓ, σ => do
    let (v, σ) ← evalE e ℓ σ
    let (vs, σ) ← evalL es ℓ σ
    some (v :: vs, σ)
  | _, _, _ => none
def evalKV : E → Loc → St → Option (List (String × V) × St)
  | .nil, _, σ => some ([], σ)
  | .kv k e es, ℓ, σ => do
    let (v, σ) ← evalE e ℓ σ
    let (vs, σ) ← evalKV es ℓ σ
    some ((k, v) :: vs, σ)
  | _, _, _ => none
def evalB : Bool → E → Loc → St → Option (V × St)
  | q, .cons e es, ℓ, σ => do
    let (v, σ) ← evalE e ℓ σ
    match es with
    | .nil => some (v, σ)
    | es => do
      let b ← truthy σ v
      if b = q then evalB q es ℓ σ else some (v, σ)
  | _, _, _, _ => none
/-- a test: nothing said is true -/
def evalC : E → Loc → St → Option (Bool × St)
  | e, ℓ, σ => match e with
    | .nil => some (true, σ)
    | e => do
      let (v, σ) ← evalE e ℓ σ
      let b ← truthy σ v
      some (b, σ)
def evalSrc : E → Loc → St → Option (Src × St)
  | .rng a b _, ℓ, σ => do
    let (v, σ) ← evalE a ℓ σ
    let lo ← asInt v
    let (w, σ) ← evalE b ℓ σ
    let hi ← asInt w
    if lo.natAbs ≤ LIM ∧ hi.natAbs ≤ LIM then some (.rng lo hi, σ) else none
  | .enumE a, ℓ, σ => do
    let (v, σ) ← evalE a ℓ σ
    let x ← asRef v
    some (.enum x, σ)
  | .zipE _ _, _, _ => none
  | e, ℓ, σ => do
    let (v, σ) ← evalE e ℓ σ
    let x ← asRef v
    some (.list x, σ)
end

inductive Fl where | next | brk | cont | ret (v : V)

def whileGo (c : Loc → St → Option (Bool × St)) (b : Loc → St → Option (Fl × Loc × St)) : Nat → Loc → St → Option (Fl × Loc × St)
  | 0, _, _ => none
  | k + 1, ℓ, σ => do
    let (t, σ) ← c ℓ σ
    if t then do
      let (f, ℓ, σ) ← b ℓ σ
      match f with
      | .next => whileGo c b k ℓ σ
      | .cont => whileGo c b k ℓ σ
      | .brk => some (.next, ℓ, σ)
      | .ret v => some (.ret v, ℓ, σ)
    else some (.next, ℓ, σ)
def forGo (src : Src) (t : Tgt) (n : Nat) (b : Loc → St → Option (Fl × Loc × St)) : Nat → Nat → Loc → St → Option (Fl × Loc × St)
  | 0, _, ℓ, σ => if src.size σ = some n then some (.next, ℓ, σ) else none
  | rem + 1, i, ℓ, σ =>
    if src.size σ = some n then do
      let ℓ ← src.bind σ ℓ t i
      let (f, ℓ, σ) ← b ℓ σ
      match f with
      | .next => forGo src t n b rem (i + 1) ℓ σ
      | .cont => forGo src t n b rem (i + 1) ℓ σ
      | .brk => some (.next, ℓ, σ)
      | .ret v => some (.ret v, ℓ, σ)
    else none
def WLIM : Nat := 100000

def execS : S → Loc → St → Option (Fl × Loc × St)
  | .done, ℓ, σ => some (.next, ℓ, σ)
  | .passS, ℓ, σ => some (.next, ℓ, σ)
  | .brkS, ℓ, σ => some (.brk, ℓ, σ)
  | .contS, ℓ, σ => some (.cont, ℓ, σ)
  | .seq a b, ℓ, σ => do
    let (f, ℓ, σ) ← execS a ℓ σ
    match f with
    | .next => execS b ℓ σ
    | f => some (f, ℓ, σ)
  | .expr e, ℓ, σ => do
    let (_, σ) ← evalE cf e ℓ σ
    some (.next, ℓ, σ)
  | .retS e, ℓ, σ => do
    let (v, σ) ← evalE cf e ℓ σ
    some (.ret v, ℓ, σ)
  | .ifS c t f, ℓ, σ => do
    let (v, σ) ← evalE cf c ℓ σ
    let b ← truthy σ v
    if b then execS t ℓ σ else execS f ℓ σ
  | .whileS c b, ℓ, σ => whileGo (fun ℓ σ => evalC cf c ℓ σ) (fun ℓ σ => execS b ℓ σ) WLIM ℓ σ
  | .forS t it b, ℓ, σ => do
    let (src, σ) ← evalSrc cf it ℓ σ
    let n ← src.size σ
    forGo src t n (fun ℓ σ => execS b ℓ σ) n 0 ℓ σ
  | .assign t e, ℓ, σ => do
    let (v, σ) ← evalE cf e ℓ σ
    let ℓ ← bindTgt ℓ σ t v
    some (.next, ℓ, σ)
  | .swap t e, ℓ, σ => do
    let (v, σ) ← evalE cf e ℓ σ
    let ℓ ← bindTgt ℓ σ t v
    some (.next, ℓ, σ)
  | .setAttr o f v, ℓ, σ => do
    let (w, σ) ← evalE cf v ℓ σ
    let (x, σ) ← evalE cf o ℓ σ
    let (a, c, fs) ← getInst σ x
    let σ ← putField σ a (.inst c) fs f w
    some (.next, ℓ, σ)
  | .setSub o i v, ℓ, σ => do
    let (w, σ) ← evalE cf v ℓ σ
    let (x, σ) ← evalE cf o ℓ σ
    let (j, σ) ← evalE cf i ℓ σ
    let σ ← setItemF σ x j w
    some (.next, ℓ, σ)
  | .setSlice o lo hi v, ℓ, σ => do
    let (w, σ) ← evalE cf v ℓ σ
    let (x, σ) ← evalE cf o ℓ σ
    let (l, σ) ← evalE cf lo ℓ σ
    let (h, σ) ← evalE cf hi ℓ σ
    let σ ← setSliceF σ x l h w
    some (.next, ℓ, σ)
  | .dset o k v, ℓ, σ => do
    let (w, σ) ← evalE cf v ℓ σ
    let (x, σ) ← evalE cf o ℓ σ
    let (a, es) ← getDict σ x
    let σ ← putField σ a .dict es k w
    some (.next, ℓ, σ)
  | .aug x o e, ℓ, σ => do
    let a ← ℓ x
    let (b, σ) ← evalE cf e ℓ σ
    let r ← augOp o a b
    some (.next, ℓ.set x r, σ)
  | .augAttr e f o v, ℓ, σ => do
    let (x, σ) ← evalE cf e ℓ σ
    let (_, _, fs) ← getInst σ x
    let u ← fs.lookup f
    let (w, σ) ← evalE cf v ℓ σ
    let r ← augOp o u w
    let (a, c, fs) ← getInst σ x
    let σ ← putField σ a (.inst c) fs f r
    some (.next, ℓ, σ)
  | .augSub e i o v, ℓ, σ => do
    let (x, σ) ← evalE cf e ℓ σ
    let (j, σ) ← evalE cf i ℓ σ
    let a ← asRef x
    let k ← asInt j
    if 0 ≤ k ∧ k.natAbs ≤ LIM then do
      let u ← itemAt σ a k.toNat
      let (w, σ) ← evalE cf v ℓ σ
      let r ← augOp o u w
      let σ ← setItemF σ x j r
      some (.next, ℓ, σ)
    else none
  | .extS vis e elt t it, ℓ, σ => do
    let (v, σ) ← evalE cf e ℓ σ
    let (a, _) ← getList σ v
    let (u, σ) ← evalE cf it ℓ σ
    let b ← asRef u
    let _ ← lenAt σ a
    if a = b ∨ a = 0 then none else do
      let n ← lenAt σ b
      let σ ← extGo (.list b) t (ℓ.only vis) n a (fun ℓ σ => evalE cf elt ℓ σ) n 0 σ
      some (.next, ℓ, σ)
  | .defn _, _, _ => none

def params (ps : List String) (vs : List V) : Loc := fun x => (ps.zip vs).lookup x
def callN (prog : String → Option Fn) : Nat → CallF
  | 0 => fun _ _ _ => none
  | d + 1 => fun f args σ => do
    let fn ← prog f
    if args.length = fn.params.length then do
      let (fl, _, σ) ← execS (callN prog d) fn.body (params fn.params args) σ
      match fl with
      | .ret v => some (v, σ)
      | .next => some (.none, σ)
      | _ => none
    else none
end Mine
end

/-! Sound0 -/
section
open PySem PySem.W PySem.Calls PyProof.Rows
set_option linter.unusedVariables false
namespace Mine

inductive All2 {α β : Type} (R : α → β → Prop) : List α → List β → Prop
  | nil : All2 R [] []
  | cons {a b as bs} : R a b → All2 R as bs → All2 R (a :: as) (b :: bs)
namespace All2
variable {α β : Type} {R R' : α → β → Prop}
theorem mono (h : ∀ a b, R a b → R' a b) : ∀ {as bs}, All2 R as bs → All2 R' as bs
  | _, _, .nil => .nil
  | _, _, .cons x y => .cons (h _ _ x) (y.mono h)
theorem length : ∀ {as : List α} {bs : List β}, All2 R as bs → as.length = bs.length
  | _, _, .nil => rfl
  | _, _, .cons _ y => by simp [y.length]
theorem append : ∀ {as as' : List α} {bs bs' : List β}, All2 R as bs → All2 R as' bs' → All2 R (as ++ as') (bs ++ bs')
  | _, _, _, _, .nil, y => y
  | _, _, _, _, .cons a x, y => .cons a (x.append y)
theorem get : ∀ {as : List α} {bs : List β}, All2 R as bs → ∀ {i : Nat} {a}, as[i]? = some a → ∃ b, bs[i]? = some b ∧ R a b
  | _, _, .cons x _, 0, _, e => by simp at e; subst e; exact ⟨_, rfl, x⟩
  | _, _, .cons _ y, i + 1, _, e => by simpa using y.get (i := i) (by simpa using e)
theorem set : ∀ {as : List α} {bs : List β}, All2 R as bs → ∀ {a b} (i : Nat), R a b → All2 R (as.set i a) (bs.set i b)
  | _, _, .nil, _, _, _, _ => .nil
  | _, _, .cons _ y, _, _, 0, r => .cons r y
  | _, _, .cons x y, _, _, i + 1, r => .cons x (y.set i r)
theorem take : ∀ {as : List α} {bs : List β}, All2 R as bs → ∀ n, All2 R (as.take n) (bs.take n)
  | _, _, _, 0 => by simpa using .nil
  | _, _, .nil, n + 1 => .nil
  | _, _, .cons x y, n + 1 => .cons x (y.take n)
theorem drop : ∀ {as : List α} {bs : List β}, All2 R as bs → ∀ n, All2 R (as.drop n) (bs.drop n)
  | _, _, h, 0 => h
  | _, _, .nil, n + 1 => .nil
  | _, _, .cons _ y, n + 1 => y.drop n
end All2

/-- where the objects of the store lie: an address, and an own object's dict -/
abbrev Rho := List (Addr × Addr)
def VR (ρ : Rho) : V → Value → Prop
  | .none, w => w = .none
  | .bool b, w => w = .bool b
  | .int i, w => ∃ t, w = .int i t
  | .str l, w => l.length ≤ LIM ∧ ∃ t, w = .str (mkS l) t
  | .ref n, w => ∃ a d, ρ[n]? = some (a, d) ∧ w = .ref a
theorem VR.mono {ρ ρ' : Rho} (h : ρ <+: ρ') : ∀ {v w}, VR ρ v w → VR ρ' v w
  | .none, _, x => x
  | .bool _, _, x => x
  | .int _, _, x => x
  | .str _, _, x => x
  | .ref n, w, ⟨a, d, e, q⟩ => by
    obtain ⟨r, rfl⟩ := h
    exact ⟨a, d, by rw [List.getElem?_append_left (by simpa using (List.getElem?_eq_some_iff.mp e).1)]; exact e, q⟩
abbrev VRs (ρ : Rho) := All2 (VR ρ)
theorem VRs.mono {ρ ρ' : Rho} (h : ρ <+: ρ') {vs ws} (x : VRs ρ vs ws) : VRs ρ' vs ws := All2.mono (fun _ _ => VR.mono h) x

structure Cx where
  prog : Program
  w : World
  K : Frag
  base : Heap
  os : OsState
  /-- a global name's value -/
  glob : String → Option Value
  /-- a def's address, a class's -/
  fa : String → Option Addr
  ca : String → Option Addr
  /-- the table of code objects that a generator expression grows, and its code -/
  ro : Obj
  tab : Addr
  tcode : Addr
  tabBig : sysModules < tab
variable (cx : Cx)

def EntR (ρ : Rho) (p : String × V) (e : DictEntry) : Prop :=
  (∃ t, e.key = .str (Str.ofString p.1) t) ∧ e.hash = PyData.keyHash cx.w.params (Str.ofString p.1) ∧ VR ρ p.2 e.val
theorem EntR.mono {ρ ρ' : Rho} (h : ρ <+: ρ') {p e} (x : EntR cx ρ p e) : EntR cx ρ' p e := ⟨x.1, x.2.1, x.2.2.mono h⟩
def tupOf (ws : Array Value) (n : Nat) : Obj := { cls := .type "tuple", data := .seq ws n }
def keyHashT (q : TKey) : Int := reduceHash (Builtin.Tuple.tupleHashOf [hashStr cx.w (mkS q.1), hashInt q.2.1, hashInt (if q.2.2 then 1 else 0)])
/-- an entry whose key is a tuple -/
def TEntR (h : Heap) (p : TKey × Int) (e : DictEntry) : Prop :=
  ∃ a n t u, e.key = .ref a ∧ h.get? a = some (tupOf #[.str (mkS p.1.1) t, .int p.1.2.1 u, .bool p.1.2.2] n) ∧ e.hash = keyHashT cx p.1 ∧ ∃ t, e.val = .int p.2 t
def ORep (ρ : Rho) (h : Heap) (a d : Addr) : O → Prop
  | .list vs => d = a ∧ vs.length ≤ LIM ∧ ∃ ws n, h.get? a = some (W.listOf ws n) ∧ VRs ρ vs ws.toList
  | .tuple vs => d = a ∧ vs.length ≤ LIM ∧ ∃ ws n, h.get? a = some (tupOf ws n) ∧ VRs ρ vs ws.toList
  | .dict es => d = a ∧ ∃ l n, h.get? a = some (dictOf l n) ∧ l.length ≤ 1000 ∧ All2 (EntR cx ρ) es l ∧ (es.map (·.1)).Nodup ∧ a ≠ sysModules
  | .tdict es => d = a ∧ ∃ l n, h.get? a = some (dictOf l n) ∧ All2 (TEntR cx h) es l ∧ (es.map (·.1)).Nodup ∧ a ≠ sysModules
  | .inst c fs => ∃ C l n, cx.ca c = some C ∧ h.get? a = some (instObj C d) ∧ h.get? d = some (dictOf l n) ∧ l.length ≤ 1000 ∧ All2 (EntR cx ρ) fs l
theorem ORep.mono {ρ ρ' : Rho} (r : ρ <+: ρ') {h : Heap} {a d : Addr} {o : O} (x : ORep cx ρ h a d o) : ORep cx ρ' h a d o := by
  cases o with
  | list vs => obtain ⟨e, l, ws, n, g, q⟩ := x; exact ⟨e, l, ws, n, g, q.mono r⟩
  | tuple vs => obtain ⟨e, l, ws, n, g, q⟩ := x; exact ⟨e, l, ws, n, g, q.mono r⟩
  | dict es => obtain ⟨e, l, n, g, z, q, nd⟩ := x; exact ⟨e, l, n, g, z, q.mono fun _ _ => EntR.mono cx r, nd⟩
  | tdict es => exact x
  | inst c fs => obtain ⟨C, l, n, e, g, g', z, q⟩ := x; exact ⟨C, l, n, e, g, g', z, q.mono fun _ _ => EntR.mono cx r⟩
/-- what an object's likeness leans on: its own two places, and tuples -/
theorem ORep.keeps {ρ : Rho} {h h' : Heap} {a d : Addr} {o : O} (x : ORep cx ρ h a d o)
    (ka : ∀ o, h.get? a = some o → h'.get? a = some o) (kd : ∀ o, h.get? d = some o → h'.get? d = some o)
    (kt : ∀ b ws n, h.get? b = some (tupOf ws n) → h'.get? b = some (tupOf ws n)) : ORep cx ρ h' a d o := by
  cases o with
  | list vs => obtain ⟨e, l, ws, n, g, q⟩ := x; exact ⟨e, l, ws, n, ka _ g, q⟩
  | tuple vs => obtain ⟨e, l, ws, n, g, q⟩ := x; exact ⟨e, l, ws, n, ka _ g, q⟩
  | dict es => obtain ⟨e, l, n, g, q⟩ := x; exact ⟨e, l, n, ka _ g, q⟩
  | tdict es => obtain ⟨e, l, n, g, q, nd⟩ := x; exact ⟨e, l, n, ka _ g, q.mono fun p en ⟨b, m, t, u, h1, h2, h3⟩ => ⟨b, m, t, u, h1, kt _ _ _ h2, h3⟩, nd⟩
  | inst c fs => obtain ⟨C, l, n, e, g, g', q⟩ := x; exact ⟨C, l, n, e, ka _ g, kd _ g', q⟩
theorem ORep.main {ρ : Rho} {h : Heap} {a d : Addr} {o : O} (x : ORep cx ρ h a d o) : (∃ ob, h.get? a = some ob) ∧ ∃ ob, h.get? d = some ob := by
  cases o with
  | list vs => obtain ⟨e, l, ws, n, g, q⟩ := x; subst e; exact ⟨⟨_, g⟩, ⟨_, g⟩⟩
  | tuple vs => obtain ⟨e, l, ws, n, g, q⟩ := x; subst e; exact ⟨⟨_, g⟩, ⟨_, g⟩⟩
  | dict es => obtain ⟨e, l, n, g, q⟩ := x; subst e; exact ⟨⟨_, g⟩, ⟨_, g⟩⟩
  | tdict es => obtain ⟨e, l, n, g, q⟩ := x; subst e; exact ⟨⟨_, g⟩, ⟨_, g⟩⟩
  | inst c fs => obtain ⟨C, l, n, e, g, g', q⟩ := x; exact ⟨⟨_, g⟩, ⟨_, g'⟩⟩

/-- what stays as it is while a frame runs -/
abbrev Kept := Addr → Obj → Prop
def inRho (ρ : Rho) (b : Addr) : Prop := ∃ (n : Nat) (a d : Addr), ρ[n]? = some (a, d) ∧ (b = a ∨ b = d)

/-- the store in the heap -/
structure HInv (P : Kept) (ρ : Rho) (σ : St) (s : Shared) : Prop where
  keep : ∀ b o, P b o → s.heap.get? b = some o
  base : ∀ b o, cx.base.get? b = some o → P b o
  len : ρ.length = σ.length
  rep : ∀ (n : Nat) o a d, σ[n]? = some o → ρ[n]? = some (a, d) → ORep cx ρ s.heap a d o
  inj : ∀ (n m : Nat) a d a' d', ρ[n]? = some (a, d) → ρ[m]? = some (a', d') → n ≠ m → a ≠ a' ∧ a ≠ d' ∧ d ≠ a' ∧ d ≠ d'
  free : ∀ b, inRho ρ b → ∀ o, ¬ P b o
  bare : AllBare s.gens
  os : s.os = cx.os
  tab : ∃ ps, s.heap.get? cx.tab = some (tabObj ps) ∧ TriplesOk ps.toList
  tabFree : (∀ o, ¬ P cx.tab o) ∧ ¬ inRho ρ cx.tab
  ro : ∃ a d, ρ[0]? = some (a, d) ∧ s.heap.get? a = some cx.ro

theorem inRho.append {ρ : Rho} {p : Addr × Addr} {b : Addr} (h : inRho (ρ ++ [p]) b) : inRho ρ b ∨ b = p.1 ∨ b = p.2 := by
  obtain ⟨n, a, d, e, q⟩ := h
  by_cases hn : n < ρ.length
  · rw [List.getElem?_append_left hn] at e; exact .inl ⟨n, a, d, e, q⟩
  · rw [List.getElem?_append_right (by omega)] at e
    cases hk : n - ρ.length with
    | zero => rw [hk] at e; simp at e; subst e; exact .inr q
    | succ k => rw [hk] at e; simp at e
theorem inRho.mono {ρ ρ' : Rho} (h : ρ <+: ρ') {b : Addr} (x : inRho ρ b) : inRho ρ' b := by
  obtain ⟨r, rfl⟩ := h
  obtain ⟨n, a, d, e, q⟩ := x
  exact ⟨n, a, d, by rw [List.getElem?_append_left (by simpa using (List.getElem?_eq_some_iff.mp e).1)]; exact e, q⟩

section
variable {cx} {P : Kept} {ρ : Rho} {σ : St} {s s' : Shared}
theorem HInv.at (I : HInv cx P ρ σ s) {n : Nat} {o : O} (h : σ[n]? = some o) : ∃ a d, ρ[n]? = some (a, d) ∧ ORep cx ρ s.heap a d o := by
  have hn : n < ρ.length := by rw [I.len]; exact (List.getElem?_eq_some_iff.mp h).1
  obtain ⟨⟨a, d⟩, e⟩ : ∃ p, ρ[n]? = some p := ⟨_, List.getElem?_eq_getElem hn⟩
  exact ⟨a, d, e, I.rep n o a d h e⟩
theorem HInv.sizeNe (I : HInv cx P ρ σ s) : s.heap.objs.size ≠ sysModules := by
  obtain ⟨ps, e, _⟩ := I.tab
  exact Nat.ne_of_gt (Nat.lt_trans cx.tabBig (Heap.lt_size e))
theorem HInv.lt (I : HInv cx P ρ σ s) {b : Addr} (h : inRho ρ b) : ∃ o, s.heap.get? b = some o := by
  obtain ⟨n, a, d, e, q⟩ := h
  have hn : n < σ.length := by rw [← I.len]; exact (List.getElem?_eq_some_iff.mp e).1
  have := (I.rep n _ a d (List.getElem?_eq_getElem hn) e).main
  rcases q with rfl | rfl
  · exact this.1
  · exact this.2
/-- places of the frame's own -/
def Apart (cx : Cx) (P : Kept) (ρ : Rho) (X : Addr → Prop) (h : Heap) : Prop := ∀ b, X b → (∀ o, ¬ P b o) ∧ ¬ inRho ρ b ∧ b ≠ cx.tab ∧ ∀ ws n, h.get? b ≠ some (tupOf ws n)
theorem Apart.none {h : Heap} : Apart cx P ρ (fun _ => False) h := fun _ q => False.elim q
/-- nothing that was there is changed, but the frame's own -/
theorem HInv.grow {X : Addr → Prop} (I : HInv cx P ρ σ s) (hX : Apart cx P ρ X s.heap) (k : ∀ b o, ¬ X b → s.heap.get? b = some o → s'.heap.get? b = some o) (hb : AllBare s'.gens) (ho : s'.os = s.os) : HInv cx P ρ σ s' where
  keep := fun b o h => k _ _ (fun q => (hX b q).1 o h) (I.keep b o h)
  base := I.base
  len := I.len
  rep := fun n o a d h e => (I.rep n o a d h e).keeps cx (fun o => k _ o fun q => (hX _ q).2.1 ⟨n, a, d, e, .inl rfl⟩) (fun o => k _ o fun q => (hX _ q).2.1 ⟨n, a, d, e, .inr rfl⟩)
    fun b ws n e => k _ _ (fun q => (hX _ q).2.2.2 ws n e) e
  inj := I.inj
  free := I.free
  bare := hb
  os := ho.trans I.os
  tab := let ⟨ps, e, ok⟩ := I.tab; ⟨ps, k _ _ (fun q => (hX _ q).2.2.1 rfl) e, ok⟩
  tabFree := I.tabFree
  ro := let ⟨a, d, e, g⟩ := I.ro; ⟨a, d, e, k _ _ (fun q => (hX _ q).2.1 ⟨0, a, d, e, .inl rfl⟩) g⟩
theorem HInv.toks (I : HInv cx P ρ σ s) (t : Nat) : HInv cx P ρ σ { s with toks := t } := ⟨I.keep, I.base, I.len, I.rep, I.inj, I.free, I.bare, I.os, I.tab, I.tabFree, I.ro⟩
/-- a new object -/
theorem HInv.add {X : Addr → Prop} (I : HInv cx P ρ σ s) (hX : Apart cx P ρ X s.heap) {a d : Addr} {o : O} (k : ∀ b o, ¬ X b → s.heap.get? b = some o → s'.heap.get? b = some o)
    (na : s.heap.get? a = none) (nd : s.heap.get? d = none) (r : ORep cx (ρ ++ [(a, d)]) s'.heap a d o) (hb : AllBare s'.gens) (ho : s'.os = s.os) : HInv cx P (ρ ++ [(a, d)]) (σ ++ [o]) s' := by
  have G := I.grow hX k hb ho
  have pre : ρ <+: ρ ++ [(a, d)] := List.prefix_append _ _
  have old : ∀ {n : Nat}, n < ρ.length → (ρ ++ [(a, d)])[n]? = ρ[n]? := fun hn => List.getElem?_append_left hn
  have last : ∀ {n : Nat} {a' d'}, (ρ ++ [(a, d)])[n]? = some (a', d') → n < ρ.length ∨ (n = ρ.length ∧ a' = a ∧ d' = d) := by
    intro n a' d' e
    by_cases hn : n < ρ.length
    · exact .inl hn
    · rw [List.getElem?_append_right (by omega)] at e
      cases hk : n - ρ.length with
      | zero => rw [hk] at e; simp at e; exact .inr ⟨by omega, e.1.symm, e.2.symm⟩
      | succ j => rw [hk] at e; simp at e
  have new : ∀ {n : Nat} {a' d'}, ρ[n]? = some (a', d') → a' ≠ a ∧ a' ≠ d ∧ d' ≠ a ∧ d' ≠ d := by
    intro n a' d' e
    obtain ⟨o1, h1⟩ := I.lt ⟨n, a', d', e, .inl rfl⟩
    obtain ⟨o2, h2⟩ := I.lt ⟨n, a', d', e, .inr rfl⟩
    refine ⟨?_, ?_, ?_, ?_⟩ <;> rintro rfl
    · rw [h1] at na; cases na
    · rw [h1] at nd; cases nd
    · rw [h2] at na; cases na
    · rw [h2] at nd; cases nd
  refine ⟨G.keep, I.base, by simp [I.len], ?_, ?_, ?_, hb, ho.trans I.os, G.tab, ⟨I.tabFree.1, fun q => ?_⟩, ?_⟩
  · intro n o' a' d' h e
    rcases last e with hn | ⟨rfl, rfl, rfl⟩
    · rw [old hn] at e
      rw [List.getElem?_append_left (by rw [← I.len]; exact hn)] at h
      exact (G.rep n o' a' d' h e).mono cx pre
    · rw [I.len, List.getElem?_append_right (Nat.le_refl _)] at h
      simp at h; subst h; exact r
  · intro n m a1 d1 a2 d2 h1 h2 hne
    rcases last h1 with hn | ⟨rfl, rfl, rfl⟩
    · rw [old hn] at h1
      rcases last h2 with hm | ⟨rfl, rfl, rfl⟩
      · rw [old hm] at h2; exact I.inj _ _ _ _ _ _ h1 h2 hne
      · exact new h1
    · rcases last h2 with hm | ⟨rfl, rfl, rfl⟩
      · rw [old hm] at h2
        obtain ⟨x1, x2, x3, x4⟩ := new h2
        exact ⟨x1.symm, x3.symm, x2.symm, x4.symm⟩
      · exact absurd rfl hne
  · intro b hb' o' hp
    rcases hb'.append with q | rfl | rfl
    · exact I.free b q o' hp
    · have := I.keep _ _ hp; rw [na] at this; cases this
    · have := I.keep _ _ hp; rw [nd] at this; cases this
  · obtain ⟨ps, et, eok⟩ := I.tab
    rcases q.append with q | q | q
    · exact I.tabFree.2 q
    · dsimp only at q; rw [q, na] at et; cases et
    · dsimp only at q; rw [q, nd] at et; cases et
  · obtain ⟨a0, d0, e0, g0⟩ := G.ro
    exact ⟨a0, d0, by rw [List.getElem?_append_left (List.getElem?_eq_some_iff.mp e0).1]; exact e0, g0⟩
/-- an object of the store is changed at its place c -/
theorem HInv.change {X : Addr → Prop} (I : HInv cx P ρ σ s) (hX : Apart cx P ρ X s.heap) {n : Nat} (hn0 : n ≠ 0) {a d c : Addr} {o o' : O} (hσ : σ[n]? = some o) (hρ : ρ[n]? = some (a, d)) (hc : c = a ∨ c = d)
    (ht : ∀ ws m, s.heap.get? c ≠ some (tupOf ws m)) (k : ∀ b o, b ≠ c → ¬ X b → s.heap.get? b = some o → s'.heap.get? b = some o)
    (r : ORep cx ρ s'.heap a d o') (hg : s'.gens = s.gens) (ho : s'.os = s.os) : HInv cx P ρ (σ.set n o') s' := by
  have hin : inRho ρ c := ⟨n, a, d, hρ, hc⟩
  have kt : ∀ b ws m, s.heap.get? b = some (tupOf ws m) → s'.heap.get? b = some (tupOf ws m) := fun b ws m e => k b _ (fun q => ht ws m (q ▸ e)) (fun q => (hX _ q).2.2.2 ws m e) e
  refine ⟨fun b x hp => k b x (fun q => I.free c hin x (q ▸ hp)) (fun q => (hX _ q).1 x hp) (I.keep b x hp), I.base, by simp [I.len], ?_, I.inj, I.free, hg ▸ I.bare, ho.trans I.os, ?_, I.tabFree, ?_⟩
  · intro m x a' d' h e
    by_cases hm : m = n
    · subst hm
      have hlt : m < σ.length := (List.getElem?_eq_some_iff.mp hσ).1
      rw [List.getElem?_set_self hlt] at h
      cases h
      rw [hρ] at e; cases e
      exact r
    · rw [List.getElem?_set_ne (Ne.symm hm)] at h
      have hd := I.inj m n a' d' a d e hρ hm
      have n1 : a' ≠ c := hc.elim (fun q => q ▸ hd.1) fun q => q ▸ hd.2.1
      have n2 : d' ≠ c := hc.elim (fun q => q ▸ hd.2.2.1) fun q => q ▸ hd.2.2.2
      exact (I.rep m x a' d' h e).keeps cx (fun o => k _ o n1 fun q => (hX _ q).2.1 ⟨m, a', d', e, .inl rfl⟩) (fun o => k _ o n2 fun q => (hX _ q).2.1 ⟨m, a', d', e, .inr rfl⟩) kt
  · obtain ⟨ps, et, eok⟩ := I.tab
    exact ⟨ps, k _ _ (fun q => I.tabFree.2 (q ▸ hin)) (fun q => (hX _ q).2.2.1 rfl) et, eok⟩
  · obtain ⟨a0, d0, e0, g0⟩ := I.ro
    have hd := I.inj 0 n a0 d0 a d e0 hρ (Ne.symm hn0)
    have n1 : a0 ≠ c := hc.elim (fun q => q ▸ hd.1) fun q => q ▸ hd.2.1
    exact ⟨a0, d0, e0, k _ _ n1 (fun q => (hX _ q).2.1 ⟨0, a0, d0, e0, .inl rfl⟩) g0⟩
end

/-! a frame -/
structure Frm where
  env : Env
  oc : List Addr
def CellIs (P : Kept) (f : Frm) (ρ : Rho) (h : Heap) (x : String) (v : V) : Prop :=
  ∃ c w, f.env.cells.lookup (Str.ofString x) = some c ∧ h.IsCell c (some w) ∧ VR ρ v w ∧ (c ∈ f.oc ∨ ∃ o, P c o)
def NameIs (P : Kept) (f : Frm) (ρ : Rho) (h : Heap) (m : Str → Option Value) (x : String) (v : V) : Prop :=
  match f.env.kindOf (Str.ofString x) with
  | some .local => ∃ w, m (Str.ofString x) = some w ∧ VR ρ v w
  | some .cell => CellIs P f ρ h x v
  | some .free => CellIs P f ρ h x v
  | _ => False
theorem NameIs.go {P : Kept} {f : Frm} {ρ ρ' : Rho} {h h' : Heap} {m : Str → Option Value} {x : String} {v : V} (r : ρ <+: ρ')
    (kc : ∀ c w, (c ∈ f.oc ∨ ∃ o, P c o) → h.IsCell c w → h'.IsCell c w) (N : NameIs P f ρ h m x v) : NameIs P f ρ' h' m x v := by
  unfold NameIs at N ⊢
  split at N
  · obtain ⟨w, e, q⟩ := N; exact ⟨w, e, q.mono r⟩
  · obtain ⟨c, w, e, g, q, z⟩ := N; exact ⟨c, w, e, kc _ _ z g, q.mono r, z⟩
  · obtain ⟨c, w, e, g, q, z⟩ := N; exact ⟨c, w, e, kc _ _ z g, q.mono r, z⟩
  · exact N.elim
/-- the frame's cells -/
structure CInj (f : Frm) : Prop where
  inj : ∀ x y c, f.env.cells.lookup x = some c → f.env.cells.lookup y = some c → x = y
  has : ∀ n, f.env.kindOf n = some .cell ∨ f.env.kindOf n = some .free → ∃ c, f.env.cells.lookup n = some c
structure FInv (P : Kept) (f : Frm) (ℓ : Loc) (ρ : Rho) (σ : St) (s : Shared) : Prop where
  st : HInv cx P ρ σ s
  kind : f.env.scope.kind = .function
  glo : f.env.globals = mainGlobals
  bui : f.env.builtins = builtinsNs
  above : cx.base.objs.size ≤ f.env.locals
  names : ∃ m, s.heap.Ns f.env.locals m ∧ ∀ x v, ℓ x = some v → NameIs P f ρ s.heap m x v
  lp : (∀ o, ¬ P f.env.locals o) ∧ ¬ inRho ρ f.env.locals ∧ f.env.locals ≠ cx.tab
  cp : ∀ c ∈ f.oc, (∀ o, ¬ P c o) ∧ ¬ inRho ρ c ∧ c ≠ cx.tab ∧ c ≠ f.env.locals ∧ ∃ v, s.heap.IsCell c v
  cinj : CInj f
section
variable {cx} {P : Kept} {f : Frm} {ℓ : Loc} {ρ : Rho} {σ : St} {s s' : Shared}
theorem Ns_not_tup {h : Heap} {a : Addr} {m} (n : h.Ns a m) (ws : Array Value) (k : Nat) : h.get? a ≠ some (tupOf ws k) := by
  obtain ⟨o, es, ep, ho, hd, _⟩ := n
  rw [ho]; intro q; cases q; cases hd
theorem cell_not_tup {h : Heap} {a : Addr} {v} (n : h.IsCell a v) (ws : Array Value) (k : Nat) : h.get? a ≠ some (tupOf ws k) := by
  obtain ⟨o, ho, hd⟩ := n
  rw [ho]; intro q; cases q; cases hd
theorem FInv.apartL (I : FInv cx P f ℓ ρ σ s) : Apart cx P ρ (fun b => b = f.env.locals) s.heap := by
  rintro b rfl
  obtain ⟨m, n, _⟩ := I.names
  exact ⟨I.lp.1, I.lp.2.1, I.lp.2.2, Ns_not_tup n⟩
theorem FInv.apart (I : FInv cx P f ℓ ρ σ s) : Apart cx P ρ (fun b => b = f.env.locals ∨ b ∈ f.oc) s.heap := by
  rintro b (rfl | hb)
  · exact I.apartL _ rfl
  · obtain ⟨h1, h2, h3, h4, v, h5⟩ := I.cp b hb
    exact ⟨h1, h2, h3, cell_not_tup h5⟩
theorem FInv.fr (I : FInv cx P f ℓ ρ σ s) : ∃ m, Fr cx.base f.env.locals s.heap m ∧ ∀ x v, ℓ x = some v → NameIs P f ρ s.heap m x v :=
  let ⟨m, n, h⟩ := I.names; ⟨m, ⟨n, fun b o e => I.st.keep b o (I.st.base b o e), I.above⟩, h⟩
/-- the heap has grown: all but the locals stands, the locals read the same -/
theorem FInv.grow (I : FInv cx P f ℓ ρ σ s) (k : ∀ b o, b ≠ f.env.locals → s.heap.get? b = some o → s'.heap.get? b = some o) (n : ∀ m, s.heap.Ns f.env.locals m → s'.heap.Ns f.env.locals m)
    (hb : AllBare s'.gens) (ho : s'.os = s.os) : FInv cx P f ℓ ρ σ s' := by
  obtain ⟨m, hn, hm⟩ := I.names
  have kc : ∀ c w, (c ∈ f.oc ∨ ∃ o, P c o) → s.heap.IsCell c w → s'.heap.IsCell c w := fun c w q ⟨o, e, g⟩ =>
    ⟨o, k _ _ (fun z => q.elim (fun q => (I.cp c q).2.2.2.1 z) fun ⟨o, q⟩ => I.lp.1 o (z ▸ q)) e, g⟩
  exact ⟨I.st.grow I.apartL (fun b o hx => k b o hx) hb ho, I.kind, I.glo, I.bui, I.above, ⟨m, n m hn, fun x v e => (hm x v e).go (List.prefix_refl _) kc⟩, I.lp,
    fun c hc => let ⟨a, b, d, e, v, g⟩ := I.cp c hc; ⟨a, b, d, e, v, kc c v (.inl hc) g⟩, I.cinj⟩
theorem FInv.grow' (I : FInv cx P f ℓ ρ σ s) (k : ∀ b o, s.heap.get? b = some o → s'.heap.get? b = some o)
    (hb : AllBare s'.gens) (ho : s'.os = s.os) : FInv cx P f ℓ ρ σ s' :=
  I.grow (fun b o _ => k b o) (fun m n => n.keeps k) hb ho
theorem FInv.toks (I : FInv cx P f ℓ ρ σ s) (t : Nat) : FInv cx P f ℓ ρ σ { s with toks := t } := I.grow (fun _ _ _ e => e) (fun _ n => n) I.st.bare rfl
theorem FInv.new_apart (I : FInv cx P f ℓ ρ σ s) {a : Addr} (na : s.heap.get? a = none) : a ≠ f.env.locals ∧ a ∉ f.oc ∧ a ≠ cx.tab := by
  obtain ⟨m, ⟨o, es, ep, ho, _⟩, _⟩ := I.names
  obtain ⟨ps, et, _⟩ := I.st.tab
  refine ⟨fun q => ?_, fun q => ?_, fun q => ?_⟩
  · rw [q, ho] at na; cases na
  · obtain ⟨_, _, _, _, v, o', e, _⟩ := I.cp a q
    rw [e] at na; cases na
  · rw [q, et] at na; cases na
theorem FInv.add (I : FInv cx P f ℓ ρ σ s) {a d : Addr} {o : O} (k : ∀ b o, b ≠ f.env.locals → s.heap.get? b = some o → s'.heap.get? b = some o) (n : ∀ m, s.heap.Ns f.env.locals m → s'.heap.Ns f.env.locals m)
    (na : s.heap.get? a = none) (nd : s.heap.get? d = none) (r : ORep cx (ρ ++ [(a, d)]) s'.heap a d o) (hb : AllBare s'.gens) (ho : s'.os = s.os) : FInv cx P f ℓ (ρ ++ [(a, d)]) (σ ++ [o]) s' := by
  have G := I.grow k n hb ho
  obtain ⟨m, hn, hm⟩ := G.names
  have A := I.new_apart na
  have D := I.new_apart nd
  have notIn : ∀ b, ¬ inRho ρ b → b ≠ a → b ≠ d → ¬ inRho (ρ ++ [(a, d)]) b := fun b h h1 h2 q => q.append.elim h fun q => q.elim h1 h2
  refine ⟨I.st.add I.apartL (fun b o hx => k b o hx) na nd r hb ho, I.kind, I.glo, I.bui, I.above, ⟨m, hn, fun x v e => (hm x v e).go (List.prefix_append _ _) fun _ _ _ z => z⟩,
    ⟨I.lp.1, notIn _ I.lp.2.1 (Ne.symm A.1) (Ne.symm D.1), I.lp.2.2⟩, fun c hc => ?_, I.cinj⟩
  obtain ⟨h1, h2, h3, h4, h5⟩ := G.cp c hc
  exact ⟨h1, notIn c h2 (fun q => A.2.1 (q ▸ hc)) (fun q => D.2.1 (q ▸ hc)), h3, h4, h5⟩
theorem FInv.change (I : FInv cx P f ℓ ρ σ s) {n : Nat} (hn0 : n ≠ 0) {a d c : Addr} {o o' : O} (hσ : σ[n]? = some o) (hρ : ρ[n]? = some (a, d)) (hc : c = a ∨ c = d)
    (ht : ∀ ws m, s.heap.get? c ≠ some (tupOf ws m)) (k : ∀ b o, b ≠ c → b ≠ f.env.locals → s.heap.get? b = some o → s'.heap.get? b = some o) (hn : ∀ m, s.heap.Ns f.env.locals m → s'.heap.Ns f.env.locals m)
    (r : ORep cx ρ s'.heap a d o') (hg : s'.gens = s.gens) (ho : s'.os = s.os) : FInv cx P f ℓ ρ (σ.set n o') s' := by
  have hin : inRho ρ c := ⟨n, a, d, hρ, hc⟩
  obtain ⟨m, hN, hm⟩ := I.names
  have kc : ∀ b w, (b ∈ f.oc ∨ ∃ o, P b o) → s.heap.IsCell b w → s'.heap.IsCell b w := fun b w q ⟨o, e, g⟩ =>
    ⟨o, k _ _ (fun z => q.elim (fun q => (I.cp b q).2.1 (z ▸ hin)) fun ⟨o, q⟩ => I.st.free c hin o (z ▸ q)) (fun z => q.elim (fun q => (I.cp b q).2.2.2.1 z) fun ⟨o, q⟩ => I.lp.1 o (z ▸ q)) e, g⟩
  exact ⟨I.st.change I.apartL hn0 hσ hρ hc ht (fun b o h1 h2 => k b o h1 h2) r hg ho, I.kind, I.glo, I.bui, I.above, ⟨m, hn m hN, fun x v e => (hm x v e).go (List.prefix_refl _) kc⟩, I.lp,
    fun b hb => let ⟨h1, h2, h3, h4, v, h5⟩ := I.cp b hb; ⟨h1, h2, h3, h4, v, kc b v (.inl hb) h5⟩, I.cinj⟩
end
end Mine
end

/-! Chk -/
section
open PySem PySem.W PySem.Calls PyProof.Rows
set_option linter.unusedVariables false
namespace Mine
/-! the given tree is the small term -/
abbrev Nms := List (Str × NameKind)
def isVar (ns : Nms) (x : String) : Bool := match ns.lookup (Str.ofString x) with
  | some .local => true | some .cell => true | some .free => true | _ => false
def isGlob (ns : Nms) (x : String) : Bool := ns.lookup (Str.ofString x) == some .globalImplicit
def attrNames : List String := ["index", "marker", "length", "can_open", "can_close", "orig_length", "order", "_tree", "_next"]
def umethNames : List String := ["current", "collapse", "deactivate", "deactivate_range", "_find"]
def bmethNames : List String := ["append", "pop", "clear", "copy", "get", "join", "isalnum", "isspace", "endswith"]
def okName (id : Str) (x : String) : Bool := id == Str.ofString x && x != "__debug__" && x != "__classdict__"
def bop : BOp → Operator
  | .add => .Add | .sub => .Sub | .mul => .Mult | .fdiv => .FloorDiv | .mod => .Mod | .band => .BitAnd
def cop : COp → CmpOp
  | .eq => .Eq | .ne => .NotEq | .lt => .Lt | .le => .LtE | .gt => .Gt | .ge => .GtE | .isin => .In | .notin => .NotIn
def notCall : Expr → Bool
  | .Call .. => false
  | _ => true
def notSlice : Expr → Bool
  | .Slice .. => false
  | _ => true
def isOwn (ns : Nms) (x : String) : Bool := match ns.lookup (Str.ofString x) with
  | some .local => true | some .cell => true | _ => false
def chkNames (ns : Nms) : List String → List Expr → Bool
  | [], [] => true
  | x :: xs, .Name id _ :: es => okName id x && isOwn ns x && chkNames ns xs es
  | _, _ => false
def chkTgt (ns : Nms) : Tgt → Expr → Bool
  | .one x, .Name id _ => okName id x && isOwn ns x
  | .many xs, .Tuple es _ _ => chkNames ns xs es && xs.length == 2 && decide xs.Nodup
  | _, _ => false
/-- a comprehension's own names: no cells; its variables local -/
def compScope (ns : Nms) (sc : Scope) : Bool := sc.kind == .function && !sc.isCoroutine && sc.names.all (fun y => y.2 == .local || y.2 == .free || y.2 == .globalImplicit) &&
  sc.names.all (fun y => y.2 != .local || sc.names.lookup y.1 == some .local) && decide (sc.names.map (·.1)).Nodup &&
  sc.names.all (fun y => y.2 != .free || ns.lookup y.1 == some .cell || ns.lookup y.1 == some .free)
/-- a comprehension sees its frame's own cells as cells -/
def relN (ns : Nms) (sc : Scope) : Nms := sc.names.map fun (n, k) => if (k == .free && ns.lookup n == some .cell) then (n, .cell) else (n, k)
def tgtLocal (ns : Nms) : Tgt → Bool
  | .one x => ns.lookup (Str.ofString x) == some .local
  | .many xs => xs.all fun x => ns.lookup (Str.ofString x) == some .local
def kvNames : E → List String
  | .kv k _ r => k :: kvNames r
  | _ => []
def notNil : E → Bool
  | .nil => false
  | _ => true
def noDot (f : String) : Bool := (Str.ofString f).cps.toList.all (· != 46)
def visOK (ns : Nms) (vis : List String) : Bool := vis.all fun x => ns.lookup (Str.ofString x) == some .cell || ns.lookup (Str.ofString x) == some .free
def isPair : E → Bool
  | .tuple (.cons (.var _) (.cons (.var _) .nil)) => true
  | _ => false
def noFold : Expr → Bool
  | .List .. => false
  | .Set .. => false
  | _ => true
def isOne : Tgt → Bool
  | .one _ => true
  | _ => false
def isNilE : E → Bool
  | .nil => true
  | _ => false
def isZeroE : E → Bool
  | .int 0 => true
  | _ => false
def optChk (n : Bool) (k : Expr → Bool) : Option Expr → Bool
  | none => n
  | some p => k p
def ifChk (n : Bool) (k : Expr → Bool) : List Expr → Bool
  | [] => n
  | [p] => k p
  | _ => false
def rngChk (ns : Nms) (one : Bool) (a : E) (ka kb : Expr → Bool) (p : Expr) : Bool := match one, p with
  | true, .Call (.Name id _) [q] [] _ => okName id "range" && isGlob ns "range" && isZeroE a && kb q
  | false, .Call (.Name id _) [p, q] [] _ => okName id "range" && isGlob ns "range" && ka p && kb q
  | _, _ => false
def enumChk (ns : Nms) (ka : Expr → Bool) : Expr → Bool
  | .Call (.Name id _) [p] [] _ => okName id "enumerate" && isGlob ns "enumerate" && ka p
  | _ => false
def zipChk (ns : Nms) (ka kb : Expr → Bool) : Expr → Bool
  | .Call (.Name id _) [p, q] [] _ => okName id "zip" && isGlob ns "zip" && ka p && kb q
  | _ => false
mutual
def chkE (ns : Nms) : E → Expr → Bool
  | .var x, pe => match pe with | .Name id _ => okName id x && isVar ns x | _ => false
  | .non, pe => match pe with | .Constant .none _ _ => true | _ => false
  | .bool b, pe => match pe with | .Constant (.bool c) _ _ => b == c | _ => false
  | .int i, pe => match pe with | .Constant (.int j) _ _ => i == j | _ => false
  | .str s, pe => match pe with | .Constant (.str x) _ _ => x == mkS s && decide (s.length ≤ 100) | _ => false
  | .list es, pe => match pe with | .List ps _ => chkL ns es ps && decide (ps.length ≤ 1000) | _ => false
  | .tuple es, pe => match pe with | .Tuple ps _ _ => chkL ns es ps && decide (ps.length ≤ 1000) | _ => false
  | .dict es, pe => match pe with | .Dict ks vs _ => chkKV ns es ks vs && decide (vs.length ≤ 15) && notNil es && decide (kvNames es).Nodup | _ => false
  | .tdict, pe => match pe with | .Dict [] [] _ => true | _ => false
  | .attr e f, pe => match pe with | .Attribute p id _ => chkE ns e p && id == Str.ofString f && attrNames.contains f && notCall p | _ => false
  | .sub e i, pe => match pe with | .Subscript p q _ => chkE ns e p && chkE ns i q && notSlice q | _ => false
  | .slice e lo hi, pe => match pe with | .Subscript p (.Slice l h none _) _ => chkE ns e p && optChk (isNilE lo) (fun q => chkE ns lo q) l && optChk (isNilE hi) (fun q => chkE ns hi q) h | _ => false
  | .dget e k, pe => match pe with | .Subscript p (.Constant (.str x) _ _) _ => chkE ns e p && x == Str.ofString k | _ => false
  | .dgetd e k d, pe => match pe with | .Call (.Attribute p id ap) [.Constant (.str x) _ _, q] [] cp => ap.endLine == cp.line && chkE ns e p && id == Str.ofString "get" && x == Str.ofString k && chkE ns d q && notCall p | _ => false
  | .dpop e k d, pe => match pe with | .Call (.Attribute p id ap) [.Constant (.str x) _ _, q] [] cp => ap.endLine == cp.line && chkE ns e p && id == Str.ofString "pop" && x == Str.ofString k && chkE ns d q && notCall p | _ => false
  | .dhas k e, pe => match pe with | .Compare (.Constant (.str x) _ _) [.In] [p] _ => chkE ns e p && x == Str.ofString k | _ => false
  | .dhasnt k e, pe => match pe with | .Compare (.Constant (.str x) _ _) [.NotIn] [p] _ => chkE ns e p && x == Str.ofString k | _ => false
  | .neg e, pe => match pe with | .UnaryOp .USub p _ => chkE ns e p | _ => false
  | .lnot e, pe => match pe with | .UnaryOp .Not p _ => chkE ns e p | _ => false
  | .bin o a b, pe => match pe with | .BinOp p q r _ => q == bop o && chkE ns a p && chkE ns b r | _ => false
  | .isNone e, pe => match pe with | .Compare p [.Is] [.Constant .none _ _] _ => chkE ns e p | _ => false
  | .notNone e, pe => match pe with | .Compare p [.IsNot] [.Constant .none _ _] _ => chkE ns e p | _ => false
  | .cmp o a b, pe => match pe with | .Compare p [q] [r] _ => q == cop o && chkE ns a p && chkE ns b r | _ => false
  | .ands es, pe => match pe with | .BoolOp .And ps _ => chkL ns es ps | _ => false
  | .ors es, pe => match pe with | .BoolOp .Or ps _ => chkL ns es ps | _ => false
  | .ite c t f, pe => match pe with | .IfExp p q r _ => chkE ns c p && chkE ns t q && chkE ns f r | _ => false
  | .comp vis elt t it cond, pe => match pe with | .ListComp p [⟨tg, i, ifs, 0⟩] sc _ => visOK (relN ns sc) vis && isOne t && (match it with | .rng a b one => rngChk ns one a (fun q => chkE ns a q) (fun q => chkE ns b q) i | .enumE a => enumChk ns (fun q => chkE ns a q) i | .zipE a b => zipChk ns (fun q => chkE ns a q) (fun q => chkE ns b q) i | it => chkE ns it i) && compScope ns sc && chkE (relN ns sc) elt p && chkTgt (relN ns sc) t tg && tgtLocal sc.names t && ifChk (isNilE cond) (fun q => chkE (relN ns sc) cond q) ifs | _ => false
  | .call f es, pe => match pe with | .Call (.Name id _) ps [] _ => noDot f && okName id f && isGlob ns f && chkL ns es ps && decide (ps.length ≤ 20) | _ => false
  | .bcall f es, pe => match pe with | .Call (.Name id _) ps [] _ => okName id f && isGlob ns f && chkL ns es ps && decide (ps.length ≤ 20) | _ => false
  | .new f es, pe => match pe with | .Call (.Name id _) ps [] _ => okName id f && isGlob ns f && chkL ns es ps && decide (ps.length ≤ 20) | _ => false
  | .umeth e m es, pe => match pe with | .Call (.Attribute p id ap) ps [] cp => ap.endLine == cp.line && chkE ns e p && id == Str.ofString m && umethNames.contains m && chkL ns es ps && notCall p && decide (ps.length ≤ 20) | _ => false
  | .bmeth e m es, pe => match pe with | .Call (.Attribute p id ap) ps [] cp => ap.endLine == cp.line && chkE ns e p && id == Str.ofString m && bmethNames.contains m && chkL ns es ps && notCall p && decide (ps.length ≤ 20) | _ => false
  | .listRng a, pe => match pe with | .Call (.Name id _) [.Call (.Name id2 _) [p] [] _] [] _ => okName id "list" && isGlob ns "list" && okName id2 "range" && isGlob ns "range" && chkE ns a p | _ => false
  | .stuck, pe => match pe with | .Call .. => true | _ => false
  | _, _ => false
def chkL (ns : Nms) : E → List Expr → Bool
  | .nil, [] => true
  | .cons e es, p :: ps => chkE ns e p && chkL ns es ps
  | _, _ => false
def chkKV (ns : Nms) : E → List (Option Expr) → List Expr → Bool
  | .nil, [], [] => true
  | .kv k e es, some (.Constant (.str x) _ _) :: ks, p :: ps => x == Str.ofString k && chkE ns e p && chkKV ns es ks ps
  | _, _, _ => false
end
def chkO (ns : Nms) (e : E) (o : Option Expr) : Bool := optChk (isNilE e) (fun q => chkE ns e q) o
def chkIf (ns : Nms) (e : E) (l : List Expr) : Bool := ifChk (isNilE e) (fun q => chkE ns e q) l
def chkSrc (ns : Nms) (e : E) (p : Expr) : Bool := match e with
  | .rng a b one => rngChk ns one a (fun q => chkE ns a q) (fun q => chkE ns b q) p
  | .enumE a => enumChk ns (fun q => chkE ns a q) p
  | .zipE a b => zipChk ns (fun q => chkE ns a q) (fun q => chkE ns b q) p
  | e => chkE ns e p
theorem isNilE_eq {e : E} (h : isNilE e = true) : e = .nil := by cases e <;> first | rfl | cases h
theorem isZeroE_eq {e : E} (h : isZeroE e = true) : e = .int 0 := by
  unfold isZeroE at h
  split at h
  · rfl
  · cases h
def isComp : Expr → Bool
  | .ListComp .. => true
  | _ => false
mutual
def chkS (ns : Nms) : S → Stmt → Bool
  | .expr e, pe => match pe with | .Expr p _ => chkE ns e p && !isComp p | _ => false
  | .extS vis e elt t it, pe => match pe with | .Expr (.Call (.Attribute p id ap) [.GeneratorExp q [⟨tg, i, [], 0⟩] sc gp] [] cp) _ => visOK sc.names vis && isOne t && ap.endLine == cp.line && chkE ns e p && id == Str.ofString "extend" && notCall p && chkE ns it i && compScope ns sc && chkE sc.names elt q && chkTgt sc.names t tg && tgtLocal sc.names t && sc.names.lookup (".0" : Str) == some .local && ns.lookup (Str.ofString "maximum") == some .local && isPair elt && noFold i && decide (sc.isCoroutine = false) | _ => false
  | .retS e, pe => match pe with | .Return none _ => (match e with | .nil => true | _ => false) | .Return (some p) _ => chkE ns e p | _ => false
  | .passS, pe => match pe with | .Pass _ => true | _ => false
  | .brkS, pe => match pe with | .Break _ => true | _ => false
  | .contS, pe => match pe with | .Continue _ => true | _ => false
  | .ifS c t f, pe => match pe with | .If p ts fs _ => chkE ns c p && chkSs ns t ts && chkSs ns f fs | _ => false
  | .whileS c b, pe => match pe with | .While p bs [] _ => chkE ns c p && chkSs ns b bs | _ => false
  | .forS t it b, pe => match pe with | .For tg i bs [] _ => chkSrc ns it i && chkTgt ns t tg && chkSs ns b bs | _ => false
  | .assign t e, pe => match pe with | .Assign [tg] p _ => chkTgt ns t tg && chkE ns e p && (match p, tg with | .Tuple .., .Tuple .. => false | _, _ => true) | _ => false
  | .swap (.many xs) e, pe => match pe with | .Assign [.Tuple ts k q] p _ => chkTgt ns (.many xs) (.Tuple ts k q) && chkE ns e p && (match p with | .Tuple vs _ _ => !vs.all (constantsAlone 8) | _ => false) | _ => false
  | .setAttr o f v, pe => match pe with | .Assign [.Attribute p id _] q _ => chkE ns v q && chkE ns o p && id == Str.ofString f && attrNames.contains f && !isComp q | _ => false
  | .setSub o i v, pe => match pe with | .Assign [.Subscript p r _] q _ => chkE ns v q && chkE ns o p && chkE ns i r && notSlice r && !isComp q | _ => false
  | .setSlice o lo hi v, pe => match pe with | .Assign [.Subscript p (.Slice l h none _) _] q _ => chkE ns v q && chkE ns o p && chkO ns lo l && chkO ns hi h && !isComp q | _ => false
  | .dset o k v, pe => match pe with | .Assign [.Subscript p (.Constant (.str x) _ _) _] q _ => chkE ns v q && chkE ns o p && x == Str.ofString k && !isComp q | _ => false
  | .aug x o e, pe => match pe with | .AugAssign (.Name id _) q p _ => okName id x && isOwn ns x && q == bop o && chkE ns e p | _ => false
  | .augAttr e f o v, pe => match pe with | .AugAssign (.Attribute p id _) q r _ => chkE ns e p && id == Str.ofString f && attrNames.contains f && q == bop o && chkE ns v r | _ => false
  | .augSub e i o v, pe => match pe with | .AugAssign (.Subscript p r _) q u _ => chkE ns e p && chkE ns i r && notSlice r && q == bop o && chkE ns v u | _ => false
  | _, _ => false
def chkSs (ns : Nms) : S → List Stmt → Bool
  | .done, [] => true
  | .seq a b, p :: ps => chkS ns a p && chkSs ns b ps
  | _, _ => false
end
/-- a whole function -/
def chkF (fn : Fn) (params : Arguments) (body : List Stmt) (scope : Scope) : Bool :=
  chkSs scope.names fn.body body && scope.kind == .function && !scope.isGenerator && !scope.isCoroutine &&
  params.args.map (·.arg) == fn.params.map Str.ofString && params.posonlyargs.isEmpty && params.kwonlyargs.isEmpty && params.vararg.isNone && params.kwarg.isNone &&
  fn.params.all (fun x => isOwn scope.names x) && decide fn.params.Nodup && decide (scope.names.map (·.1)).Nodup && scope.names.all (fun y => y.2 != .free)
end Mine
end

/-! Sound1 -/
section
open PySem PySem.W PySem.Calls PyProof.Rows
set_option linter.unusedVariables false
namespace Mine
theorem ofString_inj {a b : String} (h : Str.ofString a = Str.ofString b) : a = b := by
  rw [Str.ofString_eq_toList, Str.ofString_eq_toList] at h
  have h1 : (a.toList.map Char.toNat) = (b.toList.map Char.toNat) := by
    have := congrArg (fun s : Str => s.cps.toList) h
    simpa using this
  have inj : ∀ {l r : List Char}, l.map Char.toNat = r.map Char.toNat → l = r := by
    intro l
    induction l with
    | nil => intro r h; cases r <;> simp_all
    | cons c l ih =>
      intro r h
      cases r with
      | nil => simp at h
      | cons e r =>
        simp only [List.map_cons, List.cons.injEq] at h
        rw [ih h.2]
        have hc : c = e := by
          exact Char.ext (UInt32.toNat_inj.mp h.1)
        rw [hc]
  have := inj h1
  exact String.toList_inj.mp this
theorem ofString_beq (a b : String) : (Str.ofString a == Str.ofString b) = (a == b) := by
  by_cases h : a = b
  · subst h; simp
  · have : Str.ofString a ≠ Str.ofString b := fun q => h (ofString_inj q)
    rw [beq_eq_false_iff_ne.mpr this, beq_eq_false_iff_ne.mpr h]

structure CxOK (cx : Cx) : Prop where
  kin : cx.K.In cx.base
  lim : cx.base.NoLimit
  globs : ∃ mg mb, cx.base.Ns mainGlobals mg ∧ cx.base.Ns builtinsNs mb ∧ ∀ x v, cx.glob x = some v → mg (Str.ofString x) = some v ∨ (mg (Str.ofString x) = none ∧ mb (Str.ofString x) = some v)

/-- room for d more calls -/
structure Room (A : Around) (d : Nat) : Prop where
  han : A.handled = none
  dep : A.depth + 4 * d + 20 ≤ 900
  uni : A.units + 20 * d + 200 ≤ 9000

/-- room for a statement: a generator's frame besides -/
structure RoomS (A : Around) (d : Nat) : Prop extends Room A d where
  dep2 : A.depth + 4 * d + 22 ≤ 900
  uni2 : A.units + 20 * d + 212 ≤ 9000

section
variable (cx : Cx) (cf : CallF) (d : Nat)
abbrev Md := model cx.prog cx.w
/-- an expression is sound -/
def SE (e : E) : Prop := ∀ (pe : Expr) (f : Frm), chkE f.env.scope.names e pe = true → ∀ {P ℓ ρ σ s A v σ'}, evalE cf e ℓ σ = some (v, σ') → FInv cx P f ℓ ρ σ s → Room A d →
  ∀ {Q : Value → Shared → Prop} {Ex : Value → Shared → Prop}, (∀ s' ρ' w, FInv cx P f ℓ ρ' σ' s' → ρ <+: ρ' → VR ρ' v w → Q w s') → wpAny (Md cx) A (eval pe f.env) Q Ex s
def SL (e : E) : Prop := ∀ (ps : List Expr) (f : Frm), chkL f.env.scope.names e ps = true → ∀ {P ℓ ρ σ s A vs σ'}, evalL cf e ℓ σ = some (vs, σ') → FInv cx P f ℓ ρ σ s → Room A d →
  ∀ (pos : Pos) {Q : List Value → Shared → Prop} {Ex : Value → Shared → Prop}, (∀ s' ρ' ws, FInv cx P f ℓ ρ' σ' s' → ρ <+: ρ' → VRs ρ' vs ws → ws.length = ps.length → Q ws s') → wpAny (Md cx) A (spliced (backTo pos (starEach ps f.env))) Q Ex s
/-- a test is sound -/
def ST (e : E) : Prop := ∀ (pe : Expr) (f : Frm), chkE f.env.scope.names e pe = true → ∀ {P ℓ ρ σ s A v σ' b}, evalE cf e ℓ σ = some (v, σ') → truthy σ' v = some b → FInv cx P f ℓ ρ σ s → Room A d →
  ∀ {Q : Bool → Shared → Prop} {Ex : Value → Shared → Prop}, (∀ s' ρ', FInv cx P f ℓ ρ' σ' s' → ρ <+: ρ' → Q b s') → wpAny (Md cx) A (PySem.isTrue pe f.env (eval pe f.env)) Q Ex s
end

section
variable {cx : Cx} {cf : CallF} {d : Nat}
theorem kindOf_lookup {f : Frm} {x : String} : f.env.kindOf (Str.ofString x) = f.env.scope.names.lookup (Str.ofString x) := rfl
theorem okName_eq {id : Str} {x : String} (h : okName id x = true) : id = Str.ofString x ∧ (id == ("__debug__" : Str)) = false ∧ (id == ("__classdict__" : Str)) = false := by
  simp only [okName, Bool.and_eq_true, beq_iff_eq, bne_iff_ne, ne_eq] at h
  obtain ⟨⟨rfl, h1⟩, h2⟩ := h
  exact ⟨rfl, by rw [ofString_beq]; simpa using h1, by rw [ofString_beq]; simpa using h2⟩
theorem FInv.load {P f ℓ ρ σ s} (I : FInv cx P f ℓ ρ σ s) {x : String} {v : V} (h : ℓ x = some v) {id : Str} (ok : okName id x = true) {A Q Ex} (k : ∀ w, VR ρ v w → Q w s) :
    wpAny (Md cx) A (loadName f.env id) Q Ex s := by
  obtain ⟨rfl, h1, h2⟩ := okName_eq ok
  obtain ⟨m, n, hm⟩ := I.names
  have N := hm x v h
  unfold NameIs at N
  split at N
  · rename_i hk
    obtain ⟨w, e, q⟩ := N
    exact wpAny_loadName_local I.kind hk n e (k w q)
  · rename_i hk
    obtain ⟨c, w, e, g, q, _⟩ := N
    exact wpAny_loadName_cell I.kind hk e g (k w q)
  · rename_i hk
    obtain ⟨c, w, e, g, q, _⟩ := N
    exact wpAny_loadName_free I.kind hk e g (k w q) h2
  · exact N.elim
theorem SE_var {x : String} : SE cx cf d (.var x) := by
  intro pe f hc P ℓ ρ σ s A v σ' he I R Q Ex k
  unfold chkE at hc
  split at hc
  case h_2 => cases hc
  simp only [Bool.and_eq_true] at hc
  simp only [evalE, Option.bind_eq_bind, Option.bind_eq_some_iff, Option.some.injEq, Prod.mk.injEq] at he
  obtain ⟨u, hu, rfl, rfl⟩ := he
  exact wpAny_Name (I.load hu hc.1 fun w q => k s ρ w I (List.prefix_refl _) q) (okName_eq hc.1).2.1
theorem SE_non : SE cx cf d .non := by
  intro pe f hc P ℓ ρ σ s A v σ' he I R Q Ex k
  unfold chkE at hc
  split at hc
  case h_2 => cases hc
  simp only [evalE, Option.some.injEq, Prod.mk.injEq] at he
  obtain ⟨rfl, rfl⟩ := he
  exact wpAny_Constant_none (k s ρ _ I (List.prefix_refl _) rfl)
theorem SE_bool {b} : SE cx cf d (.bool b) := by
  intro pe f hc P ℓ ρ σ s A v σ' he I R Q Ex k
  unfold chkE at hc
  split at hc
  case h_2 => cases hc
  simp only [evalE, Option.some.injEq, Prod.mk.injEq] at he
  obtain ⟨rfl, rfl⟩ := he
  exact wpAny_Constant_bool (k s ρ _ I (List.prefix_refl _) (by simp only [beq_iff_eq] at hc; rw [hc]; rfl))
theorem SE_int {b} : SE cx cf d (.int b) := by
  intro pe f hc P ℓ ρ σ s A v σ' he I R Q Ex k
  unfold chkE at hc
  split at hc
  case h_2 => cases hc
  simp only [evalE, Option.some.injEq, Prod.mk.injEq] at he
  obtain ⟨rfl, rfl⟩ := he
  exact wpAny_Constant_int (k _ ρ _ (I.toks _) (List.prefix_refl _) (by simp only [beq_iff_eq] at hc; rw [hc]; exact ⟨_, rfl⟩))
theorem SE_str {b} : SE cx cf d (.str b) := by
  intro pe f hc P ℓ ρ σ s A v σ' he I R Q Ex k
  unfold chkE at hc
  split at hc
  case h_2 => cases hc
  simp only [evalE, Option.some.injEq, Prod.mk.injEq] at he
  obtain ⟨rfl, rfl⟩ := he
  simp only [Bool.and_eq_true, beq_iff_eq, decide_eq_true_eq] at hc
  exact Constant_str (k _ ρ _ (I.toks _) (List.prefix_refl _) ⟨Nat.le_trans hc.2 (by decide), _, by rw [hc.1]⟩)

/-! lists of expressions, displays -/
theorem starEach_cons {p : Expr} {ps : List Expr} {env : Env} {ns : Nms} {e : E} (h : chkE ns e p = true) : starEach (p :: ps) env = (false, eval p env) :: starEach ps env := by
  cases p <;> first | rfl | skip
  unfold chkE at h
  cases e <;> dsimp only at h <;> first | cases h | (split at h <;> first | cases h | contradiction)
theorem SL_nil : SL cx cf d .nil := by
  intro ps f hc P ℓ ρ σ s A vs σ' he I R pos Q Ex k
  cases ps with
  | cons p ps => simp [chkL] at hc
  | nil =>
    simp only [evalL, Option.some.injEq, Prod.mk.injEq] at he
    obtain ⟨rfl, rfl⟩ := he
    exact wpAny_items_nil (k s ρ [] I (List.prefix_refl _) .nil rfl)
theorem SL_cons {e es : E} (h1 : SE cx cf d e) (h2 : SL cx cf d es) : SL cx cf d (.cons e es) := by
  intro ps f hc P ℓ ρ σ s A vs σ' he I R pos Q Ex k
  cases ps with
  | nil => simp [chkL] at hc
  | cons p ps =>
    simp only [chkL, Bool.and_eq_true] at hc
    simp only [evalL, Option.bind_eq_bind, Option.bind_eq_some_iff, Option.some.injEq, Prod.mk.injEq] at he
    obtain ⟨⟨v, σ1⟩, he1, ⟨ws, σ2⟩, he2, rfl, rfl⟩ := he
    refine wpAny_items_cons (h1 p f hc.1 he1 I R fun s1 ρ1 w I1 r1 q1 => ?_) (starEach_cons hc.1)
    refine h2 ps f hc.2 he2 I1 R pos fun s2 ρ2 us I2 r2 q2 hl => ?_
    exact k s2 ρ2 _ I2 (r1.trans r2) (.cons (q1.mono r2) q2) (by simp [hl])
theorem fresh_none (h : Heap) : h.get? h.objs.size = none := by
  cases e : h.get? h.objs.size with
  | none => rfl
  | some o => exact absurd (Heap.lt_size e) (Nat.lt_irrefl _)
/-- a new list or tuple on top -/
theorem FInv.push {P f ℓ ρ σ s} (I : FInv cx P f ℓ ρ σ s) {o : O} {ob : Obj} (hf : ob.isFreed = false) (r : ∀ ρ' h, ρ <+: ρ' → h.get? s.heap.objs.size = some ob → ORep cx ρ' h s.heap.objs.size s.heap.objs.size o) :
    FInv cx P f ℓ (ρ ++ [(s.heap.objs.size, s.heap.objs.size)]) (σ ++ [o]) { s with heap := s.heap.push ob } :=
  I.add (fun b o _ e => Heap.get?_push_of_some _ e) (fun m n => n.push _) (fresh_none _) (fresh_none _) (r _ _ (List.prefix_append _ _) (Heap.get?_push_size _ hf)) I.st.bare rfl
theorem new_ref {ρ : Rho} {σ : St} {a d : Addr} (h : ρ.length = σ.length) : VR (ρ ++ [(a, d)]) (.ref σ.length) (.ref a) :=
  ⟨a, d, by rw [← h]; simp, rfl⟩
theorem SE_list {es : E} (h : SL cx cf d es) : SE cx cf d (.list es) := by
  intro pe f hc P ℓ ρ σ s A v σ' he I R Q Ex k
  unfold chkE at hc
  split at hc
  case h_2 => cases hc
  simp only [Bool.and_eq_true, decide_eq_true_eq] at hc
  simp only [evalE, Option.bind_eq_bind, Option.bind_eq_some_iff, Option.some.injEq, Prod.mk.injEq] at he
  obtain ⟨⟨vs, σ1⟩, he1, rfl, rfl⟩ := he
  refine wpAny_List (h _ f hc.1 he1 I R _ fun s1 ρ1 ws I1 r1 q1 hl => ?_)
  have hL : vs.length ≤ LIM := by rw [q1.length, hl]; exact Nat.le_trans hc.2 (by decide)
  refine ⟨by rw [hl]; exact Nat.le_trans hc.2 (by decide), k _ _ _ (I1.push rfl fun ρ' h' r e => ⟨rfl, hL, ws.toArray, 0, e, by simpa using q1.mono r⟩) (r1.trans (List.prefix_append _ _)) (new_ref I1.st.len)⟩
theorem SE_tuple {es : E} (h : SL cx cf d es) : SE cx cf d (.tuple es) := by
  intro pe f hc P ℓ ρ σ s A v σ' he I R Q Ex k
  unfold chkE at hc
  split at hc
  case h_2 => cases hc
  simp only [Bool.and_eq_true, decide_eq_true_eq] at hc
  simp only [evalE, Option.bind_eq_bind, Option.bind_eq_some_iff, Option.some.injEq, Prod.mk.injEq] at he
  obtain ⟨⟨vs, σ1⟩, he1, rfl, rfl⟩ := he
  refine wpAny_Tuple (h _ f hc.1 he1 I R _ fun s1 ρ1 ws I1 r1 q1 hl => ?_)
  have hL : vs.length ≤ LIM := by rw [q1.length, hl]; exact Nat.le_trans hc.2 (by decide)
  refine ⟨by rw [hl]; exact Nat.le_trans hc.2 (by decide), k _ _ _ (I1.push rfl fun ρ' h' r e => ⟨rfl, hL, ws.toArray, 0, e, by simpa using q1.mono r⟩) (r1.trans (List.prefix_append _ _)) (new_ref I1.st.len)⟩
end
end Mine
end

/-! Sound2 -/
section
open PySem PySem.W PySem.Calls PyProof.Rows
set_option linter.unusedVariables false
namespace Mine
/-! views of the store -/
section
variable {cx : Cx} {cf : CallF} {d : Nat} {P : Kept} {f : Frm} {ℓ : Loc} {ρ : Rho} {σ : St} {s : Shared}
theorem HInv.ref (I : HInv cx P ρ σ s) {n : Nat} {w : Value} {o : O} (h : σ[n]? = some o) (q : VR ρ (.ref n) w) : ∃ a d, w = .ref a ∧ ρ[n]? = some (a, d) ∧ ORep cx ρ s.heap a d o := by
  obtain ⟨a, d, e, r⟩ := q
  exact ⟨a, d, r, e, I.rep n o a d h e⟩
theorem HInv.listAt (I : HInv cx P ρ σ s) {n : Nat} {w : Value} {vs : List V} (h : σ[n]? = some (.list vs)) (q : VR ρ (.ref n) w) :
    ∃ a ws k, w = .ref a ∧ ρ[n]? = some (a, a) ∧ s.heap.get? a = some (W.listOf ws k) ∧ VRs ρ vs ws.toList ∧ vs.length ≤ LIM := by
  obtain ⟨a, d, rfl, e, rfl, hl, ws, k, g, z⟩ := I.ref h q
  exact ⟨d, ws, k, rfl, e, g, z, hl⟩
theorem HInv.tupAt (I : HInv cx P ρ σ s) {n : Nat} {w : Value} {vs : List V} (h : σ[n]? = some (.tuple vs)) (q : VR ρ (.ref n) w) :
    ∃ a ws k, w = .ref a ∧ ρ[n]? = some (a, a) ∧ s.heap.get? a = some (tupOf ws k) ∧ VRs ρ vs ws.toList ∧ vs.length ≤ LIM := by
  obtain ⟨a, d, rfl, e, rfl, hl, ws, k, g, z⟩ := I.ref h q
  exact ⟨d, ws, k, rfl, e, g, z, hl⟩
theorem HInv.dictAt (I : HInv cx P ρ σ s) {n : Nat} {w : Value} {es : List (String × V)} (h : σ[n]? = some (.dict es)) (q : VR ρ (.ref n) w) :
    ∃ a l k, w = .ref a ∧ ρ[n]? = some (a, a) ∧ s.heap.get? a = some (dictOf l k) ∧ l.length ≤ 1000 ∧ All2 (EntR cx ρ) es l ∧ (es.map (·.1)).Nodup ∧ a ≠ sysModules := by
  obtain ⟨a, d, rfl, e, rfl, l, k, g, z, y⟩ := I.ref h q
  exact ⟨d, l, k, rfl, e, g, z, y⟩
theorem HInv.instAt (I : HInv cx P ρ σ s) {n : Nat} {w : Value} {c : String} {fs : List (String × V)} (h : σ[n]? = some (.inst c fs)) (q : VR ρ (.ref n) w) :
    ∃ a d C l k, w = .ref a ∧ ρ[n]? = some (a, d) ∧ cx.ca c = some C ∧ s.heap.get? a = some (instObj C d) ∧ s.heap.get? d = some (dictOf l k) ∧ l.length ≤ 1000 ∧ All2 (EntR cx ρ) fs l := by
  obtain ⟨a, d, rfl, e, C, l, k, hc, g, g', z, y⟩ := I.ref h q
  exact ⟨a, d, C, l, k, rfl, e, hc, g, g', z, y⟩
theorem isListOf {h : Heap} {a : Addr} {ws : Array Value} {k : Nat} (g : h.get? a = some (W.listOf ws k)) : h.IsList a ws := ⟨_, g, rfl, k, rfl⟩
theorem isTupOf {h : Heap} {a : Addr} {ws : Array Value} {k : Nat} (g : h.get? a = some (tupOf ws k)) : IsTup h a ws := ⟨_, g, rfl, k, rfl⟩
theorem getList_some {σ : St} {v : V} {a : Nat} {vs : List V} (h : getList σ v = some (a, vs)) : v = .ref a ∧ σ[a]? = some (.list vs) := by
  cases v <;> simp only [getList] at h <;> try cases h
  rename_i n
  split at h <;> cases h
  exact ⟨rfl, by assumption⟩
theorem getDict_some {σ : St} {v : V} {a : Nat} {vs : List (String × V)} (h : getDict σ v = some (a, vs)) : v = .ref a ∧ σ[a]? = some (.dict vs) := by
  cases v <;> simp only [getDict] at h <;> try cases h
  rename_i n
  split at h <;> cases h
  exact ⟨rfl, by assumption⟩
theorem getInst_some {σ : St} {v : V} {a : Nat} {c : String} {vs : List (String × V)} (h : getInst σ v = some (a, c, vs)) : v = .ref a ∧ σ[a]? = some (.inst c vs) := by
  cases v <;> simp only [getInst] at h <;> try cases h
  rename_i n
  split at h <;> cases h
  exact ⟨rfl, by assumption⟩
theorem getTuple_some {σ : St} {v : V} {vs : List V} (h : getTuple σ v = some vs) : ∃ a, v = .ref a ∧ σ[a]? = some (.tuple vs) := by
  cases v <;> simp only [getTuple] at h <;> try cases h
  rename_i n
  split at h <;> cases h
  exact ⟨_, rfl, by assumption⟩
theorem asInt_some {v : V} {i : Int} (h : asInt v = some i) : v = .int i := by cases v <;> simp [asInt] at h; rw [h]
theorem asRef_some {v : V} {i : Nat} (h : asRef v = some i) : v = .ref i := by cases v <;> simp [asRef] at h; rw [h]
theorem seqAt_some {σ : St} {a : Nat} {vs : List V} (h : seqAt σ a = some vs) : σ[a]? = some (.list vs) ∨ σ[a]? = some (.tuple vs) := by
  unfold seqAt at h
  split at h <;> cases h
  · exact .inl (by assumption)
  · exact .inr (by assumption)

/-! items -/
theorem seqIdx_model {n : Nat} {i : Int} {k : Nat} (h : seqIdx n i = some k) : seqIndex? i n = some k ∧ k < n ∧ ((0 ≤ i ∧ i < n ∧ k = i.toNat) ∨ (i < 0 ∧ 0 ≤ i + n ∧ k = (i + n).toNat)) := by
  unfold seqIdx at h
  split at h
  · rename_i h0
    split at h <;> cases h
    rename_i h1
    exact ⟨seqIndex_of h0 h1, by omega, .inl ⟨h0, h1, rfl⟩⟩
  · rename_i h0
    split at h <;> cases h
    rename_i h1
    exact ⟨seqIndex_neg (by omega) (by omega), by omega, .inr ⟨by omega, h1, rfl⟩⟩
theorem LIM_small : LIM = 1048576 := rfl
theorem VR.strLen {ρ : Rho} {l : List Nat} {w : Value} (h : VR ρ (.str l) w) : l.length ≤ LIM ∧ ∃ t, w = .str (mkS l) t := h
theorem mkS_length (l : List Nat) : (mkS l).length = l.length := by simp [mkS, Str.length]
theorem not_slice_sub {q : Expr} (h : notSlice q = true) (o i : Value) : subscripted q false o i = operate [o, i] (getItem o i) := by
  cases q <;> first | rfl | cases h
theorem getItem_index (I : HInv cx P ρ σ s) {v i r : V} {wv wi : Value} (h : index σ v i = some r) (hv : VR ρ v wv) (hi : VR ρ i wi) {A Q Ex} (value q : Expr) (hq : notSlice q = true)
    (k : ∀ t, ∀ w, VR ρ r w → Q w { s with toks := t }) : wpAny (Md cx) A (subscriptTail value q wv wi) Q Ex s := by
  cases v <;> cases i <;> simp only [index] at h <;> try cases h
  · rename_i l i
    simp only [Option.bind_eq_bind, Option.bind_eq_some_iff, Option.some.injEq] at h
    obtain ⟨k', h1, c, h2, rfl⟩ := h
    obtain ⟨hl, t, rfl⟩ := hv
    obtain ⟨u, rfl⟩ := hi
    obtain ⟨m1, m2, m3⟩ := seqIdx_model h1
    rw [LIM_small] at hl
    refine tail_any (typeIs_str _ _ _) F.slot_str_getitem.lookup (getItem_str ?_ ?_ (k _ _ ⟨by rw [LIM_small]; simp, _, rfl⟩)) (not_slice_sub hq _ _)
    · simp only [Bool.or_eq_false_iff, decide_eq_false_iff_not]; omega
    · rw [mkS_length, m1]; simpa [mkS] using h2
  · rename_i n i
    simp only [Option.bind_eq_bind, Option.bind_eq_some_iff] at h
    obtain ⟨vs, h0, k', h1, h2⟩ := h
    obtain ⟨u, rfl⟩ := hi
    obtain ⟨m1, m2, m3⟩ := seqIdx_model h1
    rcases seqAt_some h0 with hs | hs
    · obtain ⟨a, ws, n', rfl, e, g, z, hL⟩ := I.listAt hs hv
      obtain ⟨w, hw, qw⟩ := z.get h2
      rw [LIM_small] at hL
      have hlen := z.length
      refine tail_any ⟨_, g, rfl⟩ slot_list_getitem.lookup ?_ (not_slice_sub hq _ _)
      rcases m3 with ⟨c1, c2, rfl⟩ | ⟨c1, c2, rfl⟩
      · exact wpAny_getItem_list (isListOf g) c1 (by omega) (by rw [← Array.getElem?_toList]; exact hw) (k s.toks w qw)
      · refine wpAny_getItem_list_neg (isListOf g) c1 ?_ ?_ (x := w) ?_ (k s.toks w qw)
        · have : ws.size = ws.toList.length := by simp
          omega
        · have : ws.size = ws.toList.length := by simp
          omega
        · rw [← Array.getElem?_toList]
          have : ws.size = ws.toList.length := by simp
          rw [this, ← hlen]; exact hw
    · obtain ⟨a, ws, n', rfl, e, g, z, hL⟩ := I.tupAt hs hv
      obtain ⟨w, hw, qw⟩ := z.get h2
      rw [LIM_small] at hL
      have hlen := z.length
      have hsz : ws.size = ws.toList.length := by simp
      refine tail_any ⟨_, g, rfl⟩ F.slot_tuple_getitem.lookup (getItem_tuple (isTupOf g) ?_ ?_ (by rw [hsz, ← hlen]; exact m1) (by rw [← Array.getElem?_toList]; exact hw) (k s.toks w qw)) (not_slice_sub hq _ _)
      · omega
      · omega
theorem SE_sub {e i : E} (h1 : SE cx cf d e) (h2 : SE cx cf d i) : SE cx cf d (.sub e i) := by
  intro pe f hc P ℓ ρ σ s A v σ' he I R Q Ex k
  unfold chkE at hc
  split at hc
  case h_2 => cases hc
  simp only [Bool.and_eq_true] at hc
  simp only [evalE, Option.bind_eq_bind, Option.bind_eq_some_iff, Option.some.injEq, Prod.mk.injEq] at he
  obtain ⟨⟨v1, σ1⟩, he1, ⟨v2, σ2⟩, he2, r, he3, rfl, rfl⟩ := he
  refine Subscript_ (h1 _ f hc.1.1 he1 I R fun s1 ρ1 w1 I1 r1 q1 => h2 _ f hc.1.2 he2 I1 R fun s2 ρ2 w2 I2 r2 q2 => ?_)
  exact getItem_index I2.st he3 (q1.mono r2) q2 _ _ hc.2 fun t w q => k _ ρ2 w (I2.toks t) (r1.trans r2) q

/-! slices -/
theorem bnd_part {n df : Nat} {v : V} {ρ : Rho} {w : Value} {k : Nat} (h : bnd n df v = some k) (q : VR ρ v w) (hdf : df ≤ n) :
    ∃ o : Option Int, IsPart w o ∧ k = o.elim df (clipAt n) ∧ (o = none ∨ ∃ i, o = some i) := by
  cases v <;> simp only [bnd] at h <;> try cases h
  · exact ⟨none, by rw [show w = .none from q]; exact .none, rfl, .inl rfl⟩
  · rename_i i
    split at h <;> cases h
    obtain ⟨t, rfl⟩ := q
    refine ⟨some i, .int i t, ?_, .inr ⟨i, rfl⟩⟩
    show bound n i = clipAt n i
    unfold bound clipAt
    split <;> omega
theorem strIdx_clip (lo hi : Option Int) (n : Nat) : Builtin.Str.strSliceIndices lo hi 1 n = sliceRange ((lo.elim 0 (clipAt n) : Nat) : Int) ((hi.elim n (clipAt n) : Nat) : Int) 1 := by
  unfold Builtin.Str.strSliceIndices
  cases lo <;> cases hi <;> simp [clipAt_cast]
theorem cut_str (l : List Nat) (a b : Nat) : ((sliceRange (a : Int) (b : Int) 1).filterMap ((mkS l).cps[·]?)) = cut l a b := by
  rw [sliceRange_one, pick_run]; rfl
theorem part_tok {w : Value} {o : Option Int} (h : IsPart w o) : ∃ q : Option (Int × Tok), partValue q = w ∧ q.map (·.1) = o := by
  cases h with
  | none => exact ⟨none, rfl, rfl⟩
  | int i t => exact ⟨some (i, t), rfl, rfl⟩
theorem cut_all (l : List Nat) {a b : Nat} (h : (cut l a b).length = l.length) : cut l a b = l := by
  unfold cut at h ⊢
  have h2 : l.length ≤ l.length - a := by
    rw [List.length_take, List.length_drop] at h; omega
  by_cases hl : l.length = 0
  · have : l = [] := List.length_eq_zero_iff.mp hl
    subst this; simp
  · have ha : a = 0 := by omega
    subst ha
    rw [List.length_take, List.length_drop] at h
    rw [List.drop_zero, List.take_of_length_le (by omega)]
theorem getItem_str_cut {l : List Nat} {t : Tok} {a : Addr} {vl vu : Value} {lo hi : Option Int} {A Q Ex} {s : Shared} (hsl : s.heap.get? a = some { cls := .type "slice", data := .fields #[vl, vu, .none] })
    (p1 : IsPart vl lo) (p2 : IsPart vu hi) (hL : l.length ≤ LIM) (k : ∀ t tk, Q (.str (mkS (cut l (lo.elim 0 (clipAt l.length)) (hi.elim l.length (clipAt l.length)))) t) { s with toks := tk }) :
    wpAny (Md cx) A (getItem (.str (mkS l) t) (.ref a)) Q Ex s := by
  obtain ⟨q1, rfl, e1⟩ := part_tok p1
  obtain ⟨q2, rfl, e2⟩ := part_tok p2
  refine wpAny_getItem_str_slice (l := q1) (u := q2) (st := none) ⟨_, hsl, rfl, rfl⟩ rfl ?_
  have hp : (slicePicked (mkS l) q1 q2 none).filterMap ((mkS l).cps[·]?) = cut l (lo.elim 0 (clipAt l.length)) (hi.elim l.length (clipAt l.length)) := by
    unfold slicePicked
    rw [e1, e2, mkS_length, show ((none : Option (Int × Tok)).map (·.1)).getD 1 = 1 from rfl, strIdx_clip, cut_str]
  unfold sliceMade
  split
  · rename_i hc
    have hlen : (slicePicked (mkS l) q1 q2 none).length = l.length := by
      simp only [Bool.and_eq_true, beq_iff_eq] at hc
      rw [hc.2, mkS_length]
    have hr : slicePicked (mkS l) q1 q2 none = (List.range ((hi.elim l.length (clipAt l.length)) - (lo.elim 0 (clipAt l.length)))).map ((lo.elim 0 (clipAt l.length)) + ·) := by
      unfold slicePicked
      rw [e1, e2, mkS_length, show ((none : Option (Int × Tok)).map (·.1)).getD 1 = 1 from rfl, strIdx_clip, sliceRange_one]
    have hb : hi.elim l.length (clipAt l.length) ≤ l.length := by
      cases hi with
      | none => exact Nat.le_refl _
      | some i => show clipAt _ _ ≤ _; unfold clipAt; omega
    have h3 : (cut l (lo.elim 0 (clipAt l.length)) (hi.elim l.length (clipAt l.length))).length = l.length := by
      rw [hr] at hlen
      simp only [List.length_map, List.length_range] at hlen
      unfold cut
      rw [List.length_take, List.length_drop]
      omega
    have := k t s.toks
    rw [cut_all l h3] at this
    exact this
  · rw [hp]
    refine ⟨?_, k _ _⟩
    show (mkS _).length ≤ _
    rw [mkS_length]
    unfold cut
    rw [List.length_take, List.length_drop]
    rw [LIM_small] at hL
    have : sizeLine = 16777216 := rfl
    omega
theorem SE_slice {e lo hi : E} (h1 : SE cx cf d e) (h2 : SE cx cf d lo) (h3 : SE cx cf d hi) : SE cx cf d (.slice e lo hi) := by
  intro pe f hc P ℓ ρ σ s A v σ' he I R Q Ex k
  unfold chkE at hc
  split at hc
  case h_2 => cases hc
  rename_i p pl ph ps pp
  simp only [Bool.and_eq_true] at hc
  simp only [evalE, Option.bind_eq_bind, Option.bind_eq_some_iff] at he
  obtain ⟨⟨v1, σ1⟩, he1, ⟨v2, σ2⟩, he2, ⟨v3, σ3⟩, he3, he4⟩ := he
  have part : ∀ {x : E} {px : Option Expr} {ρ σ s v σ'}, SE cx cf d x → chkO f.env.scope.names x px = true → evalE cf x ℓ σ = some (v, σ') → FInv cx P f ℓ ρ σ s → ∀ {Q : Value → Shared → Prop} {Ex},
      (∀ s' ρ' w, FInv cx P f ℓ ρ' σ' s' → ρ <+: ρ' → VR ρ' v w → Q w s') → wpAny (Md cx) A (evalPart px f.env) Q Ex s := by
    intro x px ρ σ s v σ' hx hcx hev I Q Ex k
    cases px with
    | none =>
      have hnil := isNilE_eq hcx
      subst hnil
      simp only [evalE, Option.some.injEq, Prod.mk.injEq] at hev
      obtain ⟨rfl, rfl⟩ := hev
      rw [evalPart_none]
      exact wpAny_pure (k s ρ _ I (List.prefix_refl _) rfl)
    | some px =>
      have hcx' : chkE f.env.scope.names x px = true := hcx
      rw [evalPart_some]
      exact hx px f hcx' hev I R k
  refine Subscript_ (h1 _ f hc.1.1 he1 I R fun s1 ρ1 w1 I1 r1 q1 => wpAny_Slice (part h2 hc.1.2 he2 I1 fun s2 ρ2 w2 I2 r2 q2 => part h3 hc.2 he3 I2 fun s3 ρ3 w3 I3 r3 q3 => ?_))
  rw [evalPart_none]
  refine wpAny_pure ?_
  have I4 : FInv cx P f ℓ ρ3 σ3 { s3 with heap := s3.heap.push { cls := .type "slice", data := .fields #[w2, w3, .none] } } :=
    I3.grow' (fun b o e => Heap.get?_push_of_some _ e) I3.st.bare rfl
  have hsl : (s3.heap.push { cls := .type "slice", data := .fields #[w2, w3, .none] }).get? s3.heap.objs.size = some { cls := .type "slice", data := .fields #[w2, w3, .none] } := Heap.get?_push_size _ rfl
  cases v1 <;> simp only [sliceOf] at he4 <;> try cases he4
  · rename_i l
    simp only [Option.bind_eq_bind, Option.bind_eq_some_iff, Option.some.injEq, Prod.mk.injEq] at he4
    obtain ⟨a, ha, b, hb, rfl, rfl⟩ := he4
    obtain ⟨hL, t, rfl⟩ := q1
    obtain ⟨o1, p1, rfl, _⟩ := bnd_part ha (q2.mono r3) (Nat.zero_le _)
    obtain ⟨o2, p2, rfl, _⟩ := bnd_part hb q3 (Nat.le_refl _)
    refine tail_any (typeIs_str _ _ _) F.slot_str_getitem.lookup (getItem_str_cut hsl p1 p2 hL fun t tk => k _ ρ3 _ (I4.toks tk) (r1.trans (r2.trans r3)) ⟨?_, _, rfl⟩) rfl
    unfold cut; rw [List.length_take, List.length_drop]; omega
  · rename_i n
    simp only [Option.bind_eq_bind, Option.bind_eq_some_iff, Option.some.injEq, Prod.mk.injEq] at he4
    obtain ⟨⟨n', vs⟩, hl, a, ha, b, hb, rfl, rfl⟩ := he4
    obtain ⟨hn, hσ⟩ := getList_some hl
    obtain ⟨o1, p1, rfl, _⟩ := bnd_part ha (q2.mono r3) (Nat.zero_le _)
    obtain ⟨o2, p2, rfl, _⟩ := bnd_part hb q3 (Nat.le_refl _)
    cases hn
    obtain ⟨a, ws, n', rfl, e, g, z, hL⟩ := I4.st.listAt hσ (q1.mono (r2.trans r3))
    have hsz : ws.size = vs.length := by rw [z.length]; simp
    refine tail_any ⟨_, g, rfl⟩ slot_list_getitem.lookup (wpAny_getItem_list_slice (isListOf g) ⟨_, hsl, rfl, rfl⟩ p1 p2 .none (by simp) ?_ ?_) rfl
    · have hL' : vs.length ≤ LIM := hL
      rw [slicePick_plain, hsz]
      refine k _ _ _ (I4.push rfl fun ρ' h' r e => ⟨rfl, ?_, _, 0, e, ?_⟩) ((r1.trans (r2.trans r3)).trans (List.prefix_append _ _)) (new_ref I4.st.len)
      · unfold cut; rw [List.length_take, List.length_drop]; dsimp only; omega
      · simpa [cut] using ((VRs.mono r z).drop _).take _
    · rw [hsz]; exact Nat.le_trans hL (by decide)
end
end Mine
end

/-! Sound3 -/
section
open PySem PySem.W PySem.Calls PyProof.Rows
set_option linter.unusedVariables false
namespace Mine
/-- what the top's classes and tables are -/
structure CxTop (cx : Cx) : Prop extends CxOK cx where
  attrs : ∀ c C x, cx.ca c = some C → attrNames.contains x = true → plainGet cx.K C (Str.ofString x) = true ∧ hasDictIn cx.K C = true ∧ ∃ a, findIn cx.K (.ref C) (Str.ofString x) = some a ∧ noGet cx.K a = true
  sets : ∀ c C x, cx.ca c = some C → attrNames.contains x = true → findIn cx.K (.ref C) "__setattr__" = some (some (.builtin "object.__setattr__")) ∧ plainOver cx.K C = true ∧ takerIn cx.K C (Str.ofString x) = some none
  tcd : ∃ o vs file tf flags tg inF text tt, cx.base.get? cx.tcode = some o ∧ o.cls = .type "code" ∧ o.data = .fields vs ∧ vs[11]? = some (.ref cx.tab) ∧ vs.getD 18 .none = .str file tf ∧ vs.getD 7 .none = .int flags tg ∧ vs.getD 9 .none = .bool inF ∧ vs.getD 10 .none = .int text tt ∧ cx.tcode ≠ cx.tab
  bfor : ∀ {M : Model} {A : Around} {E : Value → Shared → Prop} {s : Shared} {Q : Addr → Shared → Prop}, (∀ b o, cx.base.get? b = some o → s.heap.get? b = some o) → Q builtinsNs s → wpAny M A (builtinsFor mainGlobals builtinsNs) Q E s
  bLen : cx.glob "len" = some (.builtin "len")
  bMax : cx.glob "max" = some (.builtin "max")
  bMin : cx.glob "min" = some (.builtin "min")
  bBool : cx.glob "bool" = some (.type "bool")
  bInt : cx.glob "int" = some (.type "int")
  bRange : cx.glob "range" = some (.type "range")
  bList : cx.glob "list" = some (.type "list")
  bEnum : cx.glob "enumerate" = some (.type "enumerate")
  bZip : cx.glob "zip" = some (.type "zip")

section
variable {cx : Cx} {cf : CallF} {d : Nat} {P : Kept} {f : Frm} {ℓ : Loc} {ρ : Rho} {σ : St} {s : Shared}
theorem lookup_cons_beq {β : Type} (k a : String) (b : β) (l : List (String × β)) : List.lookup k ((a, b) :: l) = if k == a then some b else List.lookup k l := by
  rw [List.lookup_cons]; cases k == a <;> rfl
theorem ent_isStr {p : String × V} {e : DictEntry} (h : EntR cx ρ p e) (k : String) : e.key.isStr (Str.ofString k) = (k == p.1) := by
  obtain ⟨⟨t, e1⟩, _, _⟩ := h
  rw [e1]
  show (Str.ofString p.1 == Str.ofString k) = _
  rw [ofString_beq]
  by_cases hh : p.1 = k
  · subst hh; simp
  · rw [beq_eq_false_iff_ne.mpr hh, beq_eq_false_iff_ne.mpr (Ne.symm hh)]
theorem ents_noRef : ∀ {es : List (String × V)} {l : List DictEntry}, All2 (EntR cx ρ) es l → l.any (·.refKey) = false
  | _, _, .nil => rfl
  | _, _, .cons h r => by
    obtain ⟨⟨t, e1⟩, _, _⟩ := h
    rw [List.any_cons, ents_noRef r]
    simp [DictEntry.refKey, e1]
theorem ents_find : ∀ {es : List (String × V)} {l : List DictEntry}, All2 (EntR cx ρ) es l → ∀ k : String,
    (∀ v, es.lookup k = some v → ∃ e, l.find? (·.key.isStr (Str.ofString k)) = some e ∧ VR ρ v e.val) ∧ (es.lookup k = none → l.find? (·.key.isStr (Str.ofString k)) = none)
  | _, _, .nil, k => ⟨fun v h => by simp at h, fun _ => rfl⟩
  | (a, b) :: es, e :: l, .cons h r, k => by
    have ih := ents_find r k
    have hk := ent_isStr h k
    rw [lookup_cons_beq, List.find?_cons, hk]
    cases hb : k == a with
    | true => simp only [if_true]; exact ⟨fun v q => by cases q; exact ⟨e, rfl, h.2.2⟩, fun q => by cases q⟩
    | false => simpa using ih
theorem getL_some {es : List (String × V)} {l : List DictEntry} (h : All2 (EntR cx ρ) es l) {k : String} {v : V} (e : es.lookup k = some v) : ∃ w, getL (Str.ofString k) l = some (some w) ∧ VR ρ v w := by
  obtain ⟨en, h1, h2⟩ := (ents_find h k).1 v e
  exact ⟨en.val, by unfold getL; rw [h1], h2⟩
theorem getL_none {es : List (String × V)} {l : List DictEntry} (h : All2 (EntR cx ρ) es l) {k : String} (e : es.lookup k = none) : getL (Str.ofString k) l = some none := by
  unfold getL
  rw [(ents_find h k).2 e, ents_noRef h]; rfl
theorem mapOf_ents {h : Heap} {a : Addr} {es : List (String × V)} {l : List DictEntry} {n : Nat} (g : h.get? a = some (dictOf l n)) (r : All2 (EntR cx ρ) es l) :
    h.MapOf (PySem.strKind cx.prog cx.w) a (fun k => findBy Value.isStrOf l.toArray k) := by
  refine ⟨_, _, n, g, ⟨rfl, rfl, rfl⟩, rfl, fun e he => ?_, fun _ => rfl⟩
  have : ∀ {es : List (String × V)} {l : List DictEntry}, All2 (EntR cx ρ) es l → ∀ e ∈ l, ∃ p, EntR cx ρ p e := by
    intro es l r
    induction r with
    | nil => intro e he; cases he
    | cons h _ ih =>
      intro e he
      cases he with
      | head => exact ⟨_, h⟩
      | tail _ he => exact ih e he
  obtain ⟨p, ⟨t, e1⟩, e2, _⟩ := this r e (by simpa using he)
  exact ⟨Str.ofString p.1, by rw [e1]; exact strKind_is cx.prog cx.w _ t, e2⟩
theorem isStrOf_isStr (x : Str) (v : Value) : Value.isStrOf x v = v.isStr x := by cases v <;> rfl
theorem findBy_ents {es : List (String × V)} {l : List DictEntry} (r : All2 (EntR cx ρ) es l) (k : String) :
    (∀ v, es.lookup k = some v → ∃ w, findBy Value.isStrOf l.toArray (Str.ofString k) = some w ∧ VR ρ v w) ∧ (es.lookup k = none → findBy Value.isStrOf l.toArray (Str.ofString k) = none) := by
  have q : (fun e : DictEntry => Value.isStrOf (Str.ofString k) e.key) = fun e => e.key.isStr (Str.ofString k) := funext fun e => isStrOf_isStr _ _
  unfold findBy
  rw [List.find?_toArray, q]
  obtain ⟨h1, h2⟩ := ents_find r k
  exact ⟨fun v e => by obtain ⟨en, z, y⟩ := h1 v e; exact ⟨en.val, by rw [z]; rfl, y⟩, fun e => by rw [h2 e]; rfl⟩
theorem findBy_isSome {es : List (String × V)} {l : List DictEntry} (r : All2 (EntR cx ρ) es l) (k : String) : (findBy Value.isStrOf l.toArray (Str.ofString k)).isSome = (es.lookup k).isSome := by
  obtain ⟨h1, h2⟩ := findBy_ents r k
  cases e : es.lookup k with
  | none => rw [h2 e]; rfl
  | some v => obtain ⟨w, z, _⟩ := h1 v e; rw [z]; rfl
theorem VR.handed {ρ : Rho} {v : V} {w : Value} (h : VR ρ v w) : handedIn w = true := by
  cases v with
  | none => rw [show w = _ from h]; rfl
  | bool b => rw [show w = _ from h]; rfl
  | int i => obtain ⟨t, rfl⟩ := h; rfl
  | str l => obtain ⟨_, t, rfl⟩ := h; rfl
  | ref n => obtain ⟨a, d, _, rfl⟩ := h; rfl
theorem arm_attr {p : Expr} (h : notCall p = true) (id : Str) (q : Pos) (env : Env) : eval (.Attribute p id q) env = (do
    let o ← eval p env
    standAt q.atName
    let r ← holding [o] (getAttr o id true)
    letTemporaryGo p o r
    pure r) := by
  cases p <;> first | rfl | cases h
theorem getAttr_inst (T : CxTop cx) (I : FInv cx P f ℓ ρ σ s) {n : Nat} {w : Value} {c : String} {fs : List (String × V)} {x : String} {v : V} (h : σ[n]? = some (.inst c fs)) (q : VR ρ (.ref n) w)
    (hx : attrNames.contains x = true) (hv : fs.lookup x = some v) {A Q Ex} (k : ∀ w, VR ρ v w → Q w { s with toks := s.toks + 1 }) : wpAny (Md cx) A (getAttr w (Str.ofString x) true) Q Ex s := by
  obtain ⟨a, d, C, l, n', rfl, e, hc, g, g', z, y⟩ := I.st.instAt h q
  obtain ⟨m, F, _⟩ := I.fr
  obtain ⟨t1, t2, at', t3, t4⟩ := T.attrs c C x hc hx
  obtain ⟨u, hu, qu⟩ := getL_some y hv
  exact get_own F T.kin ⟨g, rfl, rfl, g'⟩ t1 t2 t3 t4 hu qu.handed (k u qu)
theorem SE_attr (T : CxTop cx) {e : E} {x : String} (h1 : SE cx cf d e) : SE cx cf d (.attr e x) := by
  intro pe f hc P ℓ ρ σ s A v σ' he I R Q Ex k
  unfold chkE at hc
  split at hc
  case h_2 => cases hc
  simp only [Bool.and_eq_true, beq_iff_eq] at hc
  obtain ⟨⟨⟨hc1, rfl⟩, hc2⟩, hc3⟩ := hc
  simp only [evalE, Option.bind_eq_bind, Option.bind_eq_some_iff, Option.some.injEq, Prod.mk.injEq] at he
  obtain ⟨⟨v1, σ1⟩, he1, ⟨n, c, fs⟩, he2, r, he3, rfl, rfl⟩ := he
  obtain ⟨rfl, hσ⟩ := getInst_some he2
  refine Attribute_any_ (h1 _ f hc1 he1 I R fun s1 ρ1 w1 I1 r1 q1 => ?_) (arm_attr hc3 _ _ _)
  exact getAttr_inst T I1 hσ q1 hc2 he3 fun w q => k _ ρ1 w (I1.toks _) r1 q
theorem SE_dget {e : E} {x : String} (h1 : SE cx cf d e) : SE cx cf d (.dget e x) := by
  intro pe f hc P ℓ ρ σ s A v σ' he I R Q Ex k
  unfold chkE at hc
  split at hc
  case h_2 => cases hc
  simp only [Bool.and_eq_true, beq_iff_eq] at hc
  obtain ⟨hc1, rfl⟩ := hc
  simp only [evalE, Option.bind_eq_bind, Option.bind_eq_some_iff, Option.some.injEq, Prod.mk.injEq] at he
  obtain ⟨⟨v1, σ1⟩, he1, ⟨n, es⟩, he2, r, he3, rfl, rfl⟩ := he
  obtain ⟨rfl, hσ⟩ := getDict_some he2
  refine Subscript_ (h1 _ f hc1 he1 I R fun s1 ρ1 w1 I1 r1 q1 => Constant_str ?_)
  obtain ⟨a, l, n', rfl, e', g, z, y, _⟩ := I1.st.dictAt hσ q1
  obtain ⟨u, hu, qu⟩ := (findBy_ents y x).1 r he3
  have hm := mapOf_ents g y
  refine tail_any (s := { s1 with toks := s1.toks + 1 }) hm.typeIs slot_dict_getitem.lookup (wpAny_getItem_of (strKind_is _ _ _ _) hm hu (k _ ρ1 u (I1.toks _) r1 qu)) rfl
theorem notSet_marks {ns : Nms} {e : E} {p : Expr} (h : chkE ns e p = true) (op : CmpOp) : behindInMarks op p = false := by
  cases p <;> first | rfl | skip
  unfold chkE at h
  cases e <;> dsimp only at h <;> first | cases h | (split at h <;> first | cases h | contradiction) | skip
theorem in_dict (T : CxTop cx) (I : FInv cx P f ℓ ρ σ s) {n : Nat} {w : Value} {es : List (String × V)} {x : String} {t : Tok} (h : σ[n]? = some (.dict es)) (q : VR ρ (.ref n) w) {A Q Ex}
    (k : ∀ t, Q (.bool (es.lookup x).isSome) { s with toks := t }) : wpAny (Md cx) A (compareOp .In (.str (Str.ofString x) t) w) Q Ex s := by
  obtain ⟨a, l, n', rfl, e', g, z, y, nd⟩ := I.st.dictAt h q
  have hm := mapOf_ents g y
  refine wpAny_in_of (strKind_is _ _ _ _) (beq_eq_false_iff_ne.mpr nd.2) hm ?_
  rw [findBy_isSome y]; exact k _
theorem notIn_dict (T : CxTop cx) (I : FInv cx P f ℓ ρ σ s) {n : Nat} {w : Value} {es : List (String × V)} {x : String} {t : Tok} (h : σ[n]? = some (.dict es)) (q : VR ρ (.ref n) w) {A Q Ex}
    (k : ∀ t, Q (.bool !(es.lookup x).isSome) { s with toks := t }) : wpAny (Md cx) A (compareOp .NotIn (.str (Str.ofString x) t) w) Q Ex s := by
  obtain ⟨a, l, n', rfl, e', g, z, y, nd⟩ := I.st.dictAt h q
  have hm := mapOf_ents g y
  refine wpAny_notIn_of (strKind_is _ _ _ _) (beq_eq_false_iff_ne.mpr nd.2) hm ?_
  rw [findBy_isSome y]; exact k _
theorem SE_dhas (T : CxTop cx) {e : E} {x : String} (h1 : SE cx cf d e) : SE cx cf d (.dhas x e) := by
  intro pe f hc P ℓ ρ σ s A v σ' he I R Q Ex k
  unfold chkE at hc
  split at hc
  case h_2 => cases hc
  simp only [Bool.and_eq_true, beq_iff_eq] at hc
  obtain ⟨hc1, rfl⟩ := hc
  simp only [evalE, Option.bind_eq_bind, Option.bind_eq_some_iff, Option.some.injEq, Prod.mk.injEq] at he
  obtain ⟨⟨v1, σ1⟩, he1, ⟨n, es⟩, he2, rfl, rfl⟩ := he
  obtain ⟨rfl, hσ⟩ := getDict_some he2
  refine wpAny_Compare1 (Constant_str (h1 _ f hc1 he1 (I.toks _) R fun s1 ρ1 w1 I1 r1 q1 => ?_)) (notSet_marks hc1 _)
  exact in_dict T I1 hσ q1 fun t => k _ ρ1 _ (I1.toks _) r1 rfl
theorem SE_dhasnt (T : CxTop cx) {e : E} {x : String} (h1 : SE cx cf d e) : SE cx cf d (.dhasnt x e) := by
  intro pe f hc P ℓ ρ σ s A v σ' he I R Q Ex k
  unfold chkE at hc
  split at hc
  case h_2 => cases hc
  simp only [Bool.and_eq_true, beq_iff_eq] at hc
  obtain ⟨hc1, rfl⟩ := hc
  simp only [evalE, Option.bind_eq_bind, Option.bind_eq_some_iff, Option.some.injEq, Prod.mk.injEq] at he
  obtain ⟨⟨v1, σ1⟩, he1, ⟨n, es⟩, he2, rfl, rfl⟩ := he
  obtain ⟨rfl, hσ⟩ := getDict_some he2
  refine wpAny_Compare1 (Constant_str (h1 _ f hc1 he1 (I.toks _) R fun s1 ρ1 w1 I1 r1 q1 => ?_)) (notSet_marks hc1 _)
  exact notIn_dict T I1 hσ q1 fun t => k _ ρ1 _ (I1.toks _) r1 rfl
end
end Mine
end

/-! Sound4 -/
section
open PySem PySem.W PySem.Calls PyProof.Rows
set_option linter.unusedVariables false
namespace Mine
section
variable {cx : Cx} {cf : CallF} {d : Nat} {P : Kept} {f : Frm} {ℓ : Loc} {ρ : Rho} {σ : St} {s : Shared}
theorem mkS_beq (a b : List Nat) : (mkS a == mkS b) = (a == b) := by
  by_cases h : a = b
  · subst h; simp
  · have : mkS a ≠ mkS b := fun q => h (by have := congrArg (fun x : Str => x.cps.toList) q; simpa [mkS] using this)
    rw [beq_eq_false_iff_ne.mpr this, beq_eq_false_iff_ne.mpr h]
theorem mkS_append (a b : List Nat) : mkS a ++ mkS b = mkS (a ++ b) := by
  show Str.mk _ = Str.mk _
  simp [mkS]
/-! a ledger of all that stands -/
def allNews (base : Heap) (L : Addr) (h : Heap) : List (Addr × Obj) :=
  (List.range h.objs.size).filterMap fun a => if a = L then none else if (base.get? a).isSome then none else (h.get? a).map fun o => (a, o)
theorem mem_allNews {base h : Heap} {L a : Addr} {o : Obj} : (a, o) ∈ allNews base L h ↔ h.get? a = some o ∧ a ≠ L ∧ base.get? a = none := by
  unfold allNews
  rw [List.mem_filterMap]
  constructor
  · rintro ⟨b, hb, e⟩
    split at e
    · cases e
    · split at e
      · cases e
      · rename_i h1 h2
        obtain ⟨x, hx, q⟩ := Option.map_eq_some_iff.mp e
        cases q
        exact ⟨hx, h1, by simpa using h2⟩
  · rintro ⟨h1, h2, h3⟩
    exact ⟨a, List.mem_range.mpr (Heap.lt_size h1), by rw [if_neg h2, h3]; simp [h1]⟩
theorem news_all (base : Heap) (L : Addr) (h : Heap) : News base L h (allNews base L h) := fun p hp => mem_allNews.mp hp
theorem kept_all {base h h' : Heap} {L : Addr} {m m' : Str → Option Value} {news : List (Addr × Obj)} (F : Fr base L h m) (F' : Fr base L h' m') (N' : News base L h' news)
    (sub : ∀ p ∈ allNews base L h, p ∈ news) : ∀ b o, b ≠ L → h.get? b = some o → h'.get? b = some o := by
  intro b o hb e
  cases hB : base.get? b with
  | none => exact (N' (b, o) (sub _ (mem_allNews.mpr ⟨e, hb, hB⟩))).1
  | some o' =>
    have := F.keep b o' hB
    rw [e] at this; cases this
    exact F'.keep b o hB
theorem Ns_unique {h : Heap} {a : Addr} {m m' : Str → Option Value} (x : h.Ns a m) (y : h.Ns a m') : m = m' := by
  obtain ⟨o, es, ep, ho, hd, _, hm⟩ := x
  obtain ⟨o', es', ep', ho', hd', _, hm'⟩ := y
  rw [ho] at ho'; cases ho'
  rw [hd] at hd'; cases hd'
  funext n
  rw [← hm n, ← hm' n]
/-- a rule over a frame and a ledger, read as: all else stands -/
theorem via_all (I : FInv cx P f ℓ ρ σ s) : ∃ m, Fr cx.base f.env.locals s.heap m ∧ News cx.base f.env.locals s.heap (allNews cx.base f.env.locals s.heap) ∧
    ∀ h' news, Fr cx.base f.env.locals h' m → News cx.base f.env.locals h' news → (∀ p ∈ allNews cx.base f.env.locals s.heap, p ∈ news) →
      (∀ b o, b ≠ f.env.locals → s.heap.get? b = some o → h'.get? b = some o) ∧ ∀ m, s.heap.Ns f.env.locals m → h'.Ns f.env.locals m := by
  obtain ⟨m, F, _⟩ := I.fr
  exact ⟨m, F, news_all _ _ _, fun h' news F' N' sub => ⟨kept_all F F' N' sub, fun m' n => by rw [Ns_unique n F.ns]; exact F'.ns⟩⟩
/-! truth -/
theorem wpAny_truth (I : HInv cx P ρ σ s) {v : V} {w : Value} {b : Bool} (h : truthy σ v = some b) (q : VR ρ v w) {A Q Ex} (k : ∀ t, Q b { s with toks := t }) : wpAny (Md cx) A (PySem.truthy w) Q Ex s := by
  cases v with
  | none => cases h; rw [show w = .none from q]; exact truthy_none (k s.toks)
  | bool c => cases h; rw [show w = .bool _ from q]; exact wpAny_truthy_bool (k s.toks)
  | int i => cases h; obtain ⟨t, rfl⟩ := q; exact truthy_int (k s.toks)
  | str l =>
    cases h
    obtain ⟨hl, t, rfl⟩ := q
    rw [LIM_small] at hl
    refine PySem.P.truthy_str ?_ ?_
    · rw [mkS_length]; omega
    · rw [mkS_length]
      have : ((l.length : Int) != 0) = !l.isEmpty := by cases l <;> simp; omega
      rw [this]; exact k _
  | ref n =>
    simp only [truthy] at h
    split at h <;> cases h
    rename_i vs hσ
    obtain ⟨a, ws, n', rfl, e, g, z, hL⟩ := I.listAt hσ q
    rw [LIM_small] at hL
    have hsz : ws.size = vs.length := by rw [z.length]; simp
    refine wpAny_truthy_list (isListOf g) (by omega) ?_
    have : ws.isEmpty = vs.isEmpty := by
      rw [Bool.eq_iff_iff, Array.isEmpty_iff_size_eq_zero, hsz, List.isEmpty_iff]; exact List.length_eq_zero_iff
    rw [this]; exact k _
/-! arithmetic -/
theorem natAbs_fits {a : Int} (h : a.natAbs ≤ LIM) : Builtin.Int.intBits a ≤ 64 := intBits_le_64 (by rw [LIM_small] at h; omega) (by rw [LIM_small] at h; omega)
theorem mul_str (l : List Nat) {n : Int} (h0 : 0 ≤ n) : Txt.mul (mkS l) n = mkS (List.replicate n.toNat l).flatten := by
  unfold Txt.mul
  split
  · rename_i h
    have : n = 0 := by omega
    subst this; rfl
  · split
    · rename_i h1 h2
      simp only [Bool.or_eq_true, beq_iff_eq] at h2
      rcases h2 with rfl | h2
      · simp
      · rw [mkS_length] at h2
        have : l = [] := List.length_eq_zero_iff.mp h2
        subst this; simp
    · have : ∀ (k : Nat) (acc : Array Nat), (List.replicate k (mkS l).cps).foldl (· ++ ·) acc = (acc.toList ++ (List.replicate k l).flatten).toArray := by
        intro k
        induction k with
        | zero => intro acc; simp
        | succ k ih => intro acc; rw [List.replicate_succ, List.foldl_cons, ih]; simp [mkS, List.replicate_succ]
      rw [this]; simp [mkS]
theorem mul_list_wp (I : FInv cx P f ℓ ρ σ s) {l : Addr} {items : Array Value} {k : Nat} {x : Int} {u : Tok} (g : s.heap.get? l = some (W.listOf items k)) (h0 : -2 ^ 63 ≤ x) (h1 : x < 2 ^ 63) (hs : items.size * x.toNat ≤ 2 ^ 24) {A Q Ex}
    (h : ∀ h' : Heap, (∀ b o, b ≠ f.env.locals → s.heap.get? b = some o → h'.get? b = some o) → (∀ m, s.heap.Ns f.env.locals m → h'.Ns f.env.locals m) → h'.get? s.heap.objs.size = some (W.listOf (List.replicate x.toNat items.toList).flatten.toArray 0) →
      Q (.ref s.heap.objs.size) { s with heap := h' }) : wpAny (Md cx) A (binaryOp .Mult (.ref l) (.int x u)) Q Ex s := by
  obtain ⟨m, F, N, V⟩ := via_all I
  refine mul_list F N g h0 h1 hs fun h' F' N' => ?_
  obtain ⟨k1, k2⟩ := V h' _ F' N' fun p hp => List.mem_cons_of_mem _ hp
  refine h h' k1 k2 ?_
  have := (N' _ List.mem_cons_self).1
  rw [this, listMul_foldl_if]
theorem binOp_sound (I : FInv cx P f ℓ ρ σ s) {o : BOp} {a b r : V} {wa wb : Value} {σ' : St} (h : binOp σ o a b = some (r, σ')) (ha : VR ρ a wa) (hb : VR ρ b wb) {A Q Ex}
    (k : ∀ s' ρ' w, FInv cx P f ℓ ρ' σ' s' → ρ <+: ρ' → VR ρ' r w → Q w s') : wpAny (Md cx) A (binaryOp (bop o) wa wb) Q Ex s := by
  have K : ∀ {t : Nat} {w : Value}, σ' = σ → VR ρ r w → Q w { s with toks := t } := fun e q => k _ ρ _ (e ▸ I.toks _) (List.prefix_refl _) q
  cases o <;> cases a <;> cases b <;> simp only [binOp] at h <;> try cases h
  case add.int.int => obtain ⟨t, rfl⟩ := ha; obtain ⟨u, rfl⟩ := hb; exact add_int (K rfl ⟨_, rfl⟩)
  case sub.int.int => obtain ⟨t, rfl⟩ := ha; obtain ⟨u, rfl⟩ := hb; exact sub_int (K rfl ⟨_, rfl⟩)
  case band.int.int => obtain ⟨t, rfl⟩ := ha; obtain ⟨u, rfl⟩ := hb; exact and_int (K rfl ⟨_, rfl⟩)
  case mul.int.int =>
    obtain ⟨t, rfl⟩ := ha; obtain ⟨u, rfl⟩ := hb
    split at h <;> cases h
    rename_i hh
    exact mul_int (K rfl ⟨_, rfl⟩) (IntMulOk.of_left (natAbs_fits hh.1))
  case fdiv.int.int x y =>
    obtain ⟨t, rfl⟩ := ha; obtain ⟨u, rfl⟩ := hb
    split at h <;> cases h
    rename_i hh
    refine floordiv_int (by omega) (K rfl ⟨_, rfl⟩) (.inl ?_)
    unfold Builtin.divisionGoesByPylong
    have hy : y.natAbs.log2 < 30 := by
      have h1 : y.natAbs < 2 ^ 30 := by have := hh.2; rw [LIM_small] at this; omega
      exact (Nat.log2_lt (by omega)).mpr h1
    have h3 : y.natAbs.log2 / 30 = 0 := Nat.div_eq_of_lt hy
    simp only [Bool.and_eq_false_iff, decide_eq_false_iff_not]
    left
    split <;> omega
  case mod.int.int =>
    obtain ⟨t, rfl⟩ := ha; obtain ⟨u, rfl⟩ := hb
    split at h <;> cases h
    rename_i hh
    exact mod_int' (by omega) (K rfl ⟨_, rfl⟩)
  case add.str.str x y =>
    obtain ⟨_, t, rfl⟩ := ha; obtain ⟨_, u, rfl⟩ := hb
    split at h <;> cases h
    rename_i hh
    refine SBL.add (fun t' k' _ => ?_) (by rw [mkS_length, mkS_length]; exact Nat.le_trans hh (by decide))
    rw [mkS_append]
    exact K rfl ⟨by simpa using hh, _, rfl⟩
  case mul.str.int x y =>
    obtain ⟨_, t, rfl⟩ := ha; obtain ⟨u, rfl⟩ := hb
    split at h <;> cases h
    rename_i hh
    have hL := hh.2.2
    rw [LIM_small] at hL
    have hfl : (List.replicate y.toNat x).flatten.length ≤ LIM := by rw [List.length_flatten]; simp; rw [LIM_small, Nat.mul_comm]; exact hL
    refine SB.mul ⟨?_, fun h1 _ => ?_, fun h1 _ => ?_⟩ fun t' k' => ?_
    · simp only [Bool.or_eq_false_iff, decide_eq_false_iff_not]; omega
    · rw [mkS_length]
      intro hgt
      have h2 : y ≤ 1000 := hh.2.1
      have h5 : x.length ≤ 1048576 := by
        have : 1 ≤ y.toNat := by omega
        exact Nat.le_trans (Nat.le_mul_of_pos_right _ this) hL
      have h4 : (9223372036854775807 : Int) / 1000 ≤ (2 ^ 63 - 1) / y := by
        refine Int.le_ediv_of_mul_le (by omega) ?_
        have : (9223372036854775807 : Int) / 1000 * y ≤ (9223372036854775807 : Int) / 1000 * 1000 := Int.mul_le_mul_of_nonneg_left h2 (by decide)
        exact Int.le_trans this (by decide)
      omega
    · unfold Builtin.Str.tooLong
      rw [mkS_length]
      simp only [decide_eq_false_iff_not]
      have : sizeLine = 16777216 := rfl
      omega
    · rw [mul_str x hh.1]
      exact K rfl ⟨hfl, _, rfl⟩
  case mul.ref.int n y =>
    obtain ⟨u, rfl⟩ := hb
    simp only [mulList, Option.bind_eq_bind, Option.bind_eq_some_iff] at h
    obtain ⟨⟨n', vs⟩, h1, h2⟩ := h
    obtain ⟨hn, hσ⟩ := getList_some h1
    cases hn
    split at h2 <;> cases h2
    rename_i hh
    have hL := hh.2.2
    obtain ⟨a, ws, n', rfl, e, g, z, hL0⟩ := I.st.listAt hσ ha
    have hsz : ws.size = vs.length := by rw [z.length]; simp
    refine mul_list_wp I (l := a) g (by omega) (by omega) ?_ ?_
    · rw [hsz]; rw [LIM_small] at hL; dsimp only at hL; omega
    · intro h' k1 k2 k3
      refine k _ _ _ (I.add (a := s.heap.objs.size) (d := s.heap.objs.size) k1 k2 (fresh_none _) (fresh_none _) ⟨rfl, ?_, _, 0, k3, ?_⟩ I.st.bare rfl) (List.prefix_append _ _) (new_ref I.st.len)
      · rw [List.length_flatten]; simp; rw [Nat.mul_comm]; exact hL
      · have : ∀ (j : Nat), VRs (ρ ++ [(s.heap.objs.size, s.heap.objs.size)]) (List.replicate j vs).flatten (List.replicate j ws.toList).flatten := by
          intro j
          induction j with
          | zero => simpa using .nil
          | succ j ih => rw [List.replicate_succ, List.replicate_succ, List.flatten_cons, List.flatten_cons]; exact (VRs.mono (List.prefix_append _ _) z).append ih
        simpa using this _
  case add.ref.ref n n2 =>
    simp only [addLists, Option.bind_eq_bind, Option.bind_eq_some_iff] at h
    obtain ⟨⟨n', vs⟩, h1, ⟨n3, us⟩, h2, h3⟩ := h
    obtain ⟨hn, hσ⟩ := getList_some h1
    cases hn
    obtain ⟨hn, hσ2⟩ := getList_some h2
    cases hn
    split at h3 <;> cases h3
    rename_i hh
    dsimp only at hh
    obtain ⟨a, ws, k1, rfl, e, g, z, hL0⟩ := I.st.listAt hσ ha
    obtain ⟨a2, ws2, k2, rfl, e2, g2, z2, hL2⟩ := I.st.listAt hσ2 hb
    have hsz : ws.size = vs.length := by rw [z.length]; simp
    have hsz2 : ws2.size = us.length := by rw [z2.length]; simp
    refine PySem.P.add_list (n := k1) (n2 := k2) g g2 ?_ (by rw [hsz, hsz2]; exact Nat.le_trans hh (by decide))
    refine k _ _ _ (I.push rfl fun ρ' h' r e => ⟨rfl, by simpa using hh, _, 0, e, ?_⟩) (List.prefix_append _ _) (new_ref I.st.len)
    simpa using (VRs.mono r z).append (VRs.mono r z2)
end
end Mine
end

/-! Sound5 -/
section
open PySem PySem.W PySem.Calls PyProof.Rows
set_option linter.unusedVariables false
namespace Mine
section
variable {cx : Cx} {cf : CallF} {d : Nat} {P : Kept} {f : Frm} {ℓ : Loc} {ρ : Rho} {σ : St} {s : Shared}
/-! comparisons -/
theorem strs_are {ρ : Rho} : ∀ {vs : List V} {ws : List Value} {l : List (List Nat)}, VRs ρ vs ws → allStrs vs = some l → StrsAre ws (l.map mkS)
  | [], _, _, .nil, h => by cases h; exact .nil
  | v :: vs, _, l, .cons x y, h => by
    cases v <;> simp only [allStrs] at h <;> try cases h
    rename_i c
    obtain ⟨l', h1, rfl⟩ := Option.map_eq_some_iff.mp h
    obtain ⟨_, t, rfl⟩ := x
    exact .cons _ _ (strs_are y h1)
theorem any_mkS (l : List (List Nat)) (c : List Nat) : ((l.map mkS).any fun x => x == mkS c) = l.contains c := by
  induction l with
  | nil => rfl
  | cons a r ih =>
    rw [List.map_cons, List.any_cons, ih, mkS_beq, List.contains_cons]
    congr 1
    by_cases h : a = c
    · subst h; simp
    · rw [beq_eq_false_iff_ne.mpr h, beq_eq_false_iff_ne.mpr (Ne.symm h)]
theorem one_in (l : List Nat) (c : Nat) : decide (c ∈ (mkS l).cps.toList) = l.contains c := by
  rw [Bool.eq_iff_iff]; simp only [mkS, List.contains_eq_mem]; exact ⟨fun h => decide_eq_true (of_decide_eq_true h), fun h => decide_eq_true (of_decide_eq_true h)⟩
theorem cmpOp_sound (I : FInv cx P f ℓ ρ σ s) {o : COp} {a b : V} {r : Bool} {wa wb : Value} (h : cmpOp σ o a b = some r) (ha : VR ρ a wa) (hb : VR ρ b wb) {A Q Ex} (R : Room A d)
    (k : ∀ t, Q (.bool r) { s with toks := t }) : wpAny (Md cx) A (compareOp (cop o) wa wb) Q Ex s := by
  have K : Q (.bool r) s := k s.toks
  cases o
  case eq =>
    cases a <;> cases b <;> simp only [cmpOp, isEq] at h <;> try cases h
    case int.int => obtain ⟨t, rfl⟩ := ha; obtain ⟨u, rfl⟩ := hb; exact eq_int K
    case bool.bool => rw [show wa = .bool _ from ha, show wb = .bool _ from hb]; exact eq_bool K
    case str.str => obtain ⟨_, t, rfl⟩ := ha; obtain ⟨_, u, rfl⟩ := hb; exact eq_str (by rw [mkS_beq]; exact K)
    case ref.ref n n2 =>
      simp only [Option.bind_eq_bind, Option.bind_eq_some_iff] at h
      obtain ⟨⟨n', vs⟩, h1, ⟨n3, us⟩, h2, h3⟩ := h
      obtain ⟨hn, hσ⟩ := getList_some h1
      cases hn
      obtain ⟨hn, hσ2⟩ := getList_some h2
      cases hn
      split at h3 <;> cases h3
      rename_i hh
      dsimp only at hh hσ2 hσ K k
      have hu : us = [] := List.isEmpty_iff.mp hh
      subst hu
      obtain ⟨a, ws, k1, rfl, e, g, z, hL0⟩ := I.st.listAt hσ ha
      obtain ⟨a2, ws2, k2, rfl, e2, g2, z2, hL2⟩ := I.st.listAt hσ2 hb
      have hsz : ws.size = vs.length := by rw [z.length]; simp
      have hsz2 : ws2.size = 0 := by have := z2.length; simp at this; simpa using this.symm
      have hU : A.units < cLine := by have := R.uni; unfold cLine; omega
      cases hv : vs.isEmpty with
      | true =>
        rw [hv] at K
        have h0 : ws.size = 0 := by rw [hsz, List.isEmpty_iff.mp hv]; rfl
        refine PySem.P.eq_list (n := k1) (n2 := k2) (e := fun _ => true) g g2 (by rw [h0, hsz2]) (fun j h1 _ => by omega) hU ?_
        rw [h0]; exact K
      | false =>
        rw [hv] at K
        refine PySem.P.eq_list_lengths (n := k1) (n2 := k2) g g2 ?_ hU K
        rw [hsz, hsz2]
        cases vs with
        | nil => simp at hv
        | cons x r => simp
  case ne =>
    cases a <;> cases b <;> simp only [cmpOp] at h <;> try cases h
    case int.int => obtain ⟨t, rfl⟩ := ha; obtain ⟨u, rfl⟩ := hb; exact ne_int K
    case bool.bool => rw [show wa = .bool _ from ha, show wb = .bool _ from hb]; exact ne_bool K
    case str.str =>
      obtain ⟨_, t, rfl⟩ := ha; obtain ⟨_, u, rfl⟩ := hb
      refine ne_str ?_
      unfold bne; rw [mkS_beq]; exact K
  case lt => cases a <;> cases b <;> simp only [cmpOp] at h <;> (try cases h); obtain ⟨t, rfl⟩ := ha; obtain ⟨u, rfl⟩ := hb; exact lt_int K
  case le => cases a <;> cases b <;> simp only [cmpOp] at h <;> (try cases h); obtain ⟨t, rfl⟩ := ha; obtain ⟨u, rfl⟩ := hb; exact le_int K
  case gt => cases a <;> cases b <;> simp only [cmpOp] at h <;> (try cases h); obtain ⟨t, rfl⟩ := ha; obtain ⟨u, rfl⟩ := hb; exact gt_int K
  case ge => cases a <;> cases b <;> simp only [cmpOp] at h <;> (try cases h); obtain ⟨t, rfl⟩ := ha; obtain ⟨u, rfl⟩ := hb; exact ge_int K
  case isin =>
    simp only [cmpOp, isIn] at h
    split at h
    · cases h
      obtain ⟨_, t, rfl⟩ := ha; obtain ⟨_, u, rfl⟩ := hb
      exact in_str (by rw [show mkS [_] = ⟨#[_]⟩ from rfl, StrLaws.found_one, one_in]; exact K)
    · simp only [Option.bind_eq_bind, Option.bind_eq_some_iff, Option.some.injEq] at h
      obtain ⟨vs, h1, l, h2, rfl⟩ := h
      obtain ⟨_, t, rfl⟩ := ha
      rcases seqAt_some h1 with hs | hs
      · obtain ⟨a, ws, k1, rfl, e, g, z, hL0⟩ := I.st.listAt hs hb
        refine in_list_strs (vs := ws.toList) (by simpa using isListOf g) (strs_are z h2) ?_
        rw [any_mkS]; exact K
      · obtain ⟨a, ws, k1, rfl, e, g, z, hL0⟩ := I.st.tupAt hs hb
        refine in_tuple_strs (isTupOf g) (strs_are z h2) ?_
        rw [any_mkS]; exact K
    · cases h
  case notin =>
    simp only [cmpOp, notIn] at h
    split at h
    · cases h
      obtain ⟨_, t, rfl⟩ := ha; obtain ⟨_, u, rfl⟩ := hb
      refine notIn_str ?_
      rw [show mkS [_] = ⟨#[_]⟩ from rfl, StrLaws.found_one, one_in]; exact K
    · split at h <;> try cases h
      rename_i vs hσ
      obtain ⟨l, h2, rfl⟩ := Option.map_eq_some_iff.mp h
      obtain ⟨_, t, rfl⟩ := ha
      obtain ⟨a, ws, k1, rfl, e, g, z, hL0⟩ := I.st.tupAt hσ hb
      refine notin_tuple_strs (isTupOf g) (strs_are z h2) ?_
      rw [any_mkS]; exact K
    · cases h
theorem SE_cmp {o : COp} {a b : E} (h1 : SE cx cf d a) (h2 : SE cx cf d b) : SE cx cf d (.cmp o a b) := by
  intro pe f hc P ℓ ρ σ s A v σ' he I R Q Ex k
  unfold chkE at hc
  split at hc
  case h_2 => cases hc
  simp only [Bool.and_eq_true, beq_iff_eq] at hc
  obtain ⟨⟨rfl, hc1⟩, hc2⟩ := hc
  simp only [evalE, Option.bind_eq_bind, Option.bind_eq_some_iff, Option.some.injEq, Prod.mk.injEq] at he
  obtain ⟨⟨v1, σ1⟩, he1, ⟨v2, σ2⟩, he2, r, he3, rfl, rfl⟩ := he
  refine wpAny_Compare1 (h1 _ f hc1 he1 I R fun s1 ρ1 w1 I1 r1 q1 => h2 _ f hc2 he2 I1 R fun s2 ρ2 w2 I2 r2 q2 => ?_) (notSet_marks hc2 _)
  exact cmpOp_sound I2 he3 (q1.mono r2) q2 R fun t => k _ ρ2 _ (I2.toks t) (r1.trans r2) rfl
theorem VR.isNone {ρ : Rho} {v : V} {w : Value} (h : VR ρ v w) : (w == Value.none) = (v == V.none) := by
  cases v with
  | none => rw [show w = .none from h]; rfl
  | bool b => rw [show w = .bool b from h]; rfl
  | int i => obtain ⟨t, rfl⟩ := h; rfl
  | str l => obtain ⟨_, t, rfl⟩ := h; rfl
  | ref n => obtain ⟨a, d, _, rfl⟩ := h; rfl
theorem SE_isNone {e : E} (h1 : SE cx cf d e) : SE cx cf d (.isNone e) := by
  intro pe f hc P ℓ ρ σ s A v σ' he I R Q Ex k
  unfold chkE at hc
  split at hc
  case h_2 => cases hc
  simp only [evalE, Option.bind_eq_bind, Option.bind_eq_some_iff, Option.some.injEq, Prod.mk.injEq] at he
  obtain ⟨⟨v1, σ1⟩, he1, rfl, rfl⟩ := he
  refine wpAny_Compare1 (h1 _ f hc he1 I R fun s1 ρ1 w1 I1 r1 q1 => wpAny_Constant_none (is_none ?_)) rfl
  rw [q1.isNone]; exact k _ ρ1 _ I1 r1 rfl
theorem SE_notNone {e : E} (h1 : SE cx cf d e) : SE cx cf d (.notNone e) := by
  intro pe f hc P ℓ ρ σ s A v σ' he I R Q Ex k
  unfold chkE at hc
  split at hc
  case h_2 => cases hc
  simp only [evalE, Option.bind_eq_bind, Option.bind_eq_some_iff, Option.some.injEq, Prod.mk.injEq] at he
  obtain ⟨⟨v1, σ1⟩, he1, rfl, rfl⟩ := he
  refine wpAny_Compare1 (h1 _ f hc he1 I R fun s1 ρ1 w1 I1 r1 q1 => wpAny_Constant_none (isNot_none ?_)) rfl
  rw [q1.isNone]; exact k _ ρ1 _ I1 r1 rfl
theorem SE_neg {e : E} (h1 : SE cx cf d e) : SE cx cf d (.neg e) := by
  intro pe f hc P ℓ ρ σ s A v σ' he I R Q Ex k
  unfold chkE at hc
  split at hc
  case h_2 => cases hc
  simp only [evalE, Option.bind_eq_bind, Option.bind_eq_some_iff, Option.some.injEq, Prod.mk.injEq] at he
  obtain ⟨⟨v1, σ1⟩, he1, i, he2, rfl, rfl⟩ := he
  dsimp only at he2; rw [asInt_some he2] at he1
  refine wpAny_UnaryOp (h1 _ f hc he1 I R fun s1 ρ1 w1 I1 r1 q1 => ?_)
  obtain ⟨t, rfl⟩ := q1
  exact neg_int (k _ ρ1 _ (I1.toks _) r1 ⟨_, rfl⟩)
theorem SE_lnot {e : E} (h1 : SE cx cf d e) : SE cx cf d (.lnot e) := by
  intro pe f hc P ℓ ρ σ s A v σ' he I R Q Ex k
  unfold chkE at hc
  split at hc
  case h_2 => cases hc
  simp only [evalE, Option.bind_eq_bind, Option.bind_eq_some_iff, Option.some.injEq, Prod.mk.injEq] at he
  obtain ⟨⟨v1, σ1⟩, he1, b, he2, rfl, rfl⟩ := he
  refine wpAny_UnaryOp (h1 _ f hc he1 I R fun s1 ρ1 w1 I1 r1 q1 => not_value (wpAny_truth I1.st he2 q1 fun t => ?_))
  exact k _ ρ1 _ (I1.toks _) r1 rfl
theorem SE_bin {o : BOp} {a b : E} (h1 : SE cx cf d a) (h2 : SE cx cf d b) : SE cx cf d (.bin o a b) := by
  intro pe f hc P ℓ ρ σ s A v σ' he I R Q Ex k
  unfold chkE at hc
  split at hc
  case h_2 => cases hc
  simp only [Bool.and_eq_true, beq_iff_eq] at hc
  obtain ⟨⟨rfl, hc1⟩, hc2⟩ := hc
  simp only [evalE, Option.bind_eq_bind, Option.bind_eq_some_iff] at he
  obtain ⟨⟨v1, σ1⟩, he1, ⟨v2, σ2⟩, he2, he3⟩ := he
  refine wpAny_BinOp (h1 _ f hc1 he1 I R fun s1 ρ1 w1 I1 r1 q1 => h2 _ f hc2 he2 I1 R fun s2 ρ2 w2 I2 r2 q2 => ?_)
  exact binOp_sound I2 he3 (q1.mono r2) q2 fun s3 ρ3 w3 I3 r3 q3 => k s3 ρ3 w3 I3 (r1.trans (r2.trans r3)) q3
theorem SE_ite {c t e : E} (h1 : ST cx cf d c) (h2 : SE cx cf d t) (h3 : SE cx cf d e) : SE cx cf d (.ite c t e) := by
  intro pe f hc P ℓ ρ σ s A v σ' he I R Q Ex k
  unfold chkE at hc
  split at hc
  case h_2 => cases hc
  simp only [Bool.and_eq_true] at hc
  simp only [evalE, Option.bind_eq_bind, Option.bind_eq_some_iff] at he
  obtain ⟨⟨v1, σ1⟩, he1, b, he2, he3⟩ := he
  refine wpAny_IfExp (h1 _ f hc.1.1 he1 he2 I R fun s1 ρ1 I1 r1 => ?_)
  cases b with
  | true => exact h2 _ f hc.1.2 he3 I1 R fun s2 ρ2 w2 I2 r2 q2 => k s2 ρ2 w2 I2 (r1.trans r2) q2
  | false => exact h3 _ f hc.2 he3 I1 R fun s2 ρ2 w2 I2 r2 q2 => k s2 ρ2 w2 I2 (r1.trans r2) q2

/-! tests -/
def plainTest : Expr → Bool
  | .UnaryOp .Not _ _ => false
  | .BoolOp .. => false
  | .IfExp .. => false
  | .Compare .. => false
  | _ => true
theorem isTrue_arm {e : Expr} (h : plainTest e = true) (env : Env) (whole : Sem Value) : PySem.isTrue e env whole = (do let v ← whole; standAt e.pos; holding [v] (PySem.truthy v)) := by
  cases e <;> first | rfl | cases h | skip
  rename_i o x p
  cases o <;> first | rfl | cases h
/-- a plain test is its value's truth -/
theorem ST_plain {e : E} (h1 : SE cx cf d e) (hp : ∀ ns pe, chkE ns e pe = true → plainTest pe = true) : ST cx cf d e := by
  intro pe f hc P ℓ ρ σ s A v σ' b he hb I R Q Ex k
  exact isTrue_plain (h1 pe f hc he I R fun s1 ρ1 w1 I1 r1 q1 => wpAny_truth I1.st hb q1 fun t => k _ ρ1 (I1.toks t) r1) (isTrue_arm (hp _ _ hc) _ _)
theorem ST_lnot {e : E} (h1 : ST cx cf d e) : ST cx cf d (.lnot e) := by
  intro pe f hc P ℓ ρ σ s A v σ' b he hb I R Q Ex k
  unfold chkE at hc
  split at hc
  case h_2 => cases hc
  simp only [evalE, Option.bind_eq_bind, Option.bind_eq_some_iff, Option.some.injEq, Prod.mk.injEq] at he
  obtain ⟨⟨v1, σ1⟩, he1, b', he2, rfl, rfl⟩ := he
  cases hb
  exact wpAny_isTrue_Not (h1 _ f hc he1 he2 I R k)
theorem ST_ite {c t e : E} (h1 : ST cx cf d c) (h2 : ST cx cf d t) (h3 : ST cx cf d e) : ST cx cf d (.ite c t e) := by
  intro pe f hc P ℓ ρ σ s A v σ' b he hb I R Q Ex k
  unfold chkE at hc
  split at hc
  case h_2 => cases hc
  simp only [Bool.and_eq_true] at hc
  simp only [evalE, Option.bind_eq_bind, Option.bind_eq_some_iff] at he
  obtain ⟨⟨v1, σ1⟩, he1, b', he2, he3⟩ := he
  refine isTrue_IfExp (h1 _ f hc.1.1 he1 he2 I R fun s1 ρ1 I1 r1 => ?_)
  cases b' with
  | true => exact h2 _ f hc.1.2 he3 hb I1 R fun s2 ρ2 I2 r2 => k s2 ρ2 I2 (r1.trans r2)
  | false => exact h3 _ f hc.2 he3 hb I1 R fun s2 ρ2 I2 r2 => k s2 ρ2 I2 (r1.trans r2)
theorem ST_cmp {o : COp} {a b : E} (h1 : SE cx cf d a) (h2 : SE cx cf d b) : ST cx cf d (.cmp o a b) := by
  intro pe f hc P ℓ ρ σ s A v σ' b' he hb I R Q Ex k
  unfold chkE at hc
  split at hc
  case h_2 => cases hc
  simp only [Bool.and_eq_true, beq_iff_eq] at hc
  obtain ⟨⟨rfl, hc1⟩, hc2⟩ := hc
  simp only [evalE, Option.bind_eq_bind, Option.bind_eq_some_iff, Option.some.injEq, Prod.mk.injEq] at he
  obtain ⟨⟨v1, σ1⟩, he1, ⟨v2, σ2⟩, he2, r, he3, rfl, rfl⟩ := he
  cases hb
  refine wpAny_isTrue_Compare1 (h1 _ f hc1 he1 I R fun s1 ρ1 w1 I1 r1 q1 => h2 _ f hc2 he2 I1 R fun s2 ρ2 w2 I2 r2 q2 => ?_) (notSet_marks hc2 _)
  exact cmpOp_sound I2 he3 (q1.mono r2) q2 R fun t => wpAny_truthy_bool (k _ ρ2 (I2.toks t) (r1.trans r2))
theorem ST_isNone {e : E} (h1 : SE cx cf d e) : ST cx cf d (.isNone e) := by
  intro pe f hc P ℓ ρ σ s A v σ' b' he hb I R Q Ex k
  unfold chkE at hc
  split at hc
  case h_2 => cases hc
  simp only [evalE, Option.bind_eq_bind, Option.bind_eq_some_iff, Option.some.injEq, Prod.mk.injEq] at he
  obtain ⟨⟨v1, σ1⟩, he1, rfl, rfl⟩ := he
  cases hb
  refine wpAny_isTrue_Compare1 (h1 _ f hc he1 I R fun s1 ρ1 w1 I1 r1 q1 => wpAny_Constant_none (is_none (wpAny_truthy_bool ?_))) rfl
  rw [q1.isNone]; exact k _ ρ1 I1 r1
theorem ST_notNone {e : E} (h1 : SE cx cf d e) : ST cx cf d (.notNone e) := by
  intro pe f hc P ℓ ρ σ s A v σ' b' he hb I R Q Ex k
  unfold chkE at hc
  split at hc
  case h_2 => cases hc
  simp only [evalE, Option.bind_eq_bind, Option.bind_eq_some_iff, Option.some.injEq, Prod.mk.injEq] at he
  obtain ⟨⟨v1, σ1⟩, he1, rfl, rfl⟩ := he
  cases hb
  refine wpAny_isTrue_Compare1 (h1 _ f hc he1 I R fun s1 ρ1 w1 I1 r1 q1 => wpAny_Constant_none (isNot_none (wpAny_truthy_bool ?_))) rfl
  rw [q1.isNone]; exact k _ ρ1 I1 r1
theorem ST_dhas (T : CxTop cx) {e : E} {x : String} (h1 : SE cx cf d e) : ST cx cf d (.dhas x e) := by
  intro pe f hc P ℓ ρ σ s A v σ' b' he hb I R Q Ex k
  unfold chkE at hc
  split at hc
  case h_2 => cases hc
  simp only [Bool.and_eq_true, beq_iff_eq] at hc
  obtain ⟨hc1, rfl⟩ := hc
  simp only [evalE, Option.bind_eq_bind, Option.bind_eq_some_iff, Option.some.injEq, Prod.mk.injEq] at he
  obtain ⟨⟨v1, σ1⟩, he1, ⟨n, es⟩, he2, rfl, rfl⟩ := he
  obtain ⟨rfl, hσ⟩ := getDict_some he2
  cases hb
  refine wpAny_isTrue_Compare1 (Constant_str (h1 _ f hc1 he1 (I.toks _) R fun s1 ρ1 w1 I1 r1 q1 => ?_)) (notSet_marks hc1 _)
  exact in_dict T I1 hσ q1 fun t => wpAny_truthy_bool (k _ ρ1 (I1.toks _) r1)
theorem ST_dhasnt (T : CxTop cx) {e : E} {x : String} (h1 : SE cx cf d e) : ST cx cf d (.dhasnt x e) := by
  intro pe f hc P ℓ ρ σ s A v σ' b' he hb I R Q Ex k
  unfold chkE at hc
  split at hc
  case h_2 => cases hc
  simp only [Bool.and_eq_true, beq_iff_eq] at hc
  obtain ⟨hc1, rfl⟩ := hc
  simp only [evalE, Option.bind_eq_bind, Option.bind_eq_some_iff, Option.some.injEq, Prod.mk.injEq] at he
  obtain ⟨⟨v1, σ1⟩, he1, ⟨n, es⟩, he2, rfl, rfl⟩ := he
  obtain ⟨rfl, hσ⟩ := getDict_some he2
  cases hb
  refine wpAny_isTrue_Compare1 (Constant_str (h1 _ f hc1 he1 (I.toks _) R fun s1 ρ1 w1 I1 r1 q1 => ?_)) (notSet_marks hc1 _)
  exact notIn_dict T I1 hσ q1 fun t => wpAny_truthy_bool (k _ ρ1 (I1.toks _) r1)
end

/-! and, or -/
section
variable (cx : Cx) (cf : CallF) (d : Nat)
def qop (q : Bool) : BoolOp := if q then .And else .Or
def SB (e : E) : Prop := ∀ (q : Bool) (ps : List Expr) (f : Frm), chkL f.env.scope.names e ps = true → ∀ {P ℓ ρ σ s A v σ'}, evalB cf q e ℓ σ = some (v, σ') → FInv cx P f ℓ ρ σ s → Room A d →
  ∀ (pos : Pos) {Q : Value → Shared → Prop} {Ex : Value → Shared → Prop}, (∀ s' ρ' w, FInv cx P f ℓ ρ' σ' s' → ρ <+: ρ' → VR ρ' v w → Q w s') → wpAny (Md cx) A (boolOp pos (qop q) (evalEach ps f.env)) Q Ex s
def SBT (e : E) : Prop := ∀ (q : Bool) (ps : List Expr) (f : Frm), chkL f.env.scope.names e ps = true → ∀ {P ℓ ρ σ s A v σ' b}, evalB cf q e ℓ σ = some (v, σ') → truthy σ' v = some b → FInv cx P f ℓ ρ σ s → Room A d →
  ∀ {Q : Bool → Shared → Prop} {Ex : Value → Shared → Prop}, (∀ s' ρ', FInv cx P f ℓ ρ' σ' s' → ρ <+: ρ' → Q b s') → wpAny (Md cx) A (allTrue (qop q) ps f.env) Q Ex s
end
section
variable {cx : Cx} {cf : CallF} {d : Nat}
theorem chkL_nil {ns : Nms} {es : E} {ps : List Expr} (h : chkL ns es ps = true) : (ps = [] ∧ es = .nil) ∨ ∃ e es' p ps', es = .cons e es' ∧ ps = p :: ps' ∧ chkE ns e p = true ∧ chkL ns es' ps' = true := by
  unfold chkL at h
  split at h
  · exact .inl ⟨rfl, rfl⟩
  · rw [Bool.and_eq_true] at h; exact .inr ⟨_, _, _, _, rfl, rfl, h.1, h.2⟩
  · cases h
theorem SB_cons {e es : E} (h1 : SE cx cf d e) (h2 : SB cx cf d es) : SB cx cf d (.cons e es) := by
  intro q ps f hc P ℓ ρ σ s A v σ' he I R pos Q Ex k
  obtain ⟨_, h⟩ | ⟨e', es', p, ps', h, rfl, hc1, hc2⟩ := chkL_nil hc
  · cases h
  cases h
  simp only [evalB, Option.bind_eq_bind, Option.bind_eq_some_iff] at he
  obtain ⟨⟨v1, σ1⟩, he1, he2⟩ := he
  obtain ⟨rfl, rfl⟩ | ⟨e2, es2, p2, ps2, rfl, rfl, hc3, hc4⟩ := chkL_nil hc2
  · cases he2
    exact h1 _ f hc1 he1 I R k
  · dsimp only at he2
    simp only [Option.bind_eq_some_iff] at he2
    obtain ⟨b, hb, he3⟩ := he2
    show wpAny (Md cx) A (do
      let v ← eval p f.env
      standAt pos
      let t ← holding [v] (PySem.truthy v)
      match qop q, t with
      | .And, false | .Or, true => pure v
      | _, _ => boolOp pos (qop q) (evalEach (p2 :: ps2) f.env)) Q Ex s
    refine wpAny_bind (h1 _ f hc1 he1 I R fun s1 ρ1 w1 I1 r1 q1 => wpAny_bind (wpAny_standAt (wpAny_bind (wpAny_holding (wpAny_truth I1.st hb q1 fun t => ?_)))))
    by_cases hq : b = q
    · rw [if_pos hq] at he3
      subst hq
      have := h2 b (p2 :: ps2) f hc2 he3 (I1.toks t) R pos (Ex := Ex) fun s2 ρ2 w2 I2 r2 q2 => k s2 ρ2 w2 I2 (r1.trans r2) q2
      cases b <;> exact this
    · rw [if_neg hq] at he3
      cases he3
      have := k _ ρ1 w1 (I1.toks t) r1 q1
      cases b <;> cases q <;> first | exact absurd rfl hq | exact wpAny_pure this
theorem SBT_cons {e es : E} (h1 : ST cx cf d e) (h2 : SBT cx cf d es) : SBT cx cf d (.cons e es) := by
  intro q ps f hc P ℓ ρ σ s A v σ' b he hb I R Q Ex k
  obtain ⟨_, h⟩ | ⟨e', es', p, ps', h, rfl, hc1, hc2⟩ := chkL_nil hc
  · cases h
  cases h
  simp only [evalB, Option.bind_eq_bind, Option.bind_eq_some_iff] at he
  obtain ⟨⟨v1, σ1⟩, he1, he2⟩ := he
  show wpAny (Md cx) A (do match qop q, ← PySem.isTrue p f.env (eval p f.env) with | .And, false => pure false | .Or, true => pure true | _, _ => allTrue (qop q) ps' f.env) Q Ex s
  obtain ⟨rfl, rfl⟩ | ⟨e2, es2, p2, ps2, rfl, rfl, hc3, hc4⟩ := chkL_nil hc2
  · cases he2
    refine wpAny_bind (h1 _ f hc1 he1 hb I R fun s1 ρ1 I1 r1 => ?_)
    have := k s1 ρ1 I1 r1
    cases b <;> cases q <;> exact wpAny_pure this
  · dsimp only at he2
    simp only [Option.bind_eq_some_iff] at he2
    obtain ⟨b', hb', he3⟩ := he2
    refine wpAny_bind (h1 _ f hc1 he1 hb' I R fun s1 ρ1 I1 r1 => ?_)
    by_cases hq : b' = q
    · rw [if_pos hq] at he3
      subst hq
      have := h2 b' (p2 :: ps2) f hc2 he3 hb I1 R (Ex := Ex) fun s2 ρ2 I2 r2 => k s2 ρ2 I2 (r1.trans r2)
      cases b' <;> exact this
    · rw [if_neg hq] at he3
      cases he3
      have e : b = b' := by rw [hb] at hb'; exact Option.some.inj hb'
      subst e
      have := k _ ρ1 I1 r1
      cases b <;> cases q <;> first | exact absurd rfl hq | exact wpAny_pure this
theorem SE_ands {es : E} (h : SB cx cf d es) : SE cx cf d (.ands es) := by
  intro pe f hc P ℓ ρ σ s A v σ' he I R Q Ex k
  unfold chkE at hc
  split at hc
  case h_2 => cases hc
  simp only [evalE] at he
  exact h true _ f hc he I R _ k
theorem SE_ors {es : E} (h : SB cx cf d es) : SE cx cf d (.ors es) := by
  intro pe f hc P ℓ ρ σ s A v σ' he I R Q Ex k
  unfold chkE at hc
  split at hc
  case h_2 => cases hc
  simp only [evalE] at he
  exact h false _ f hc he I R _ k
theorem ST_ands {es : E} (h : SBT cx cf d es) : ST cx cf d (.ands es) := by
  intro pe f hc P ℓ ρ σ s A v σ' b he hb I R Q Ex k
  unfold chkE at hc
  split at hc
  case h_2 => cases hc
  simp only [evalE] at he
  exact wpAny_isTrue_BoolOp (h true _ f hc he hb I R k)
theorem ST_ors {es : E} (h : SBT cx cf d es) : ST cx cf d (.ors es) := by
  intro pe f hc P ℓ ρ σ s A v σ' b he hb I R Q Ex k
  unfold chkE at hc
  split at hc
  case h_2 => cases hc
  simp only [evalE] at he
  exact wpAny_isTrue_BoolOp (h false _ f hc he hb I R k)
end
end Mine
end

/-! Sound6 -/
section
open PySem PySem.W PySem.Calls PyProof.Rows
set_option linter.unusedVariables false
namespace Mine
section
variable {cx : Cx} {cf : CallF} {d : Nat} {P : Kept} {f : Frm} {ℓ : Loc} {ρ : Rho} {σ : St} {s : Shared}
/-! names of the top -/
theorem FInv.glob (T : CxTop cx) (I : FInv cx P f ℓ ρ σ s) {x : String} {v : Value} (hv : cx.glob x = some v) {id : Str} (ok : okName id x = true) (hg : isGlob f.env.scope.names x = true) {pos : Pos} {A Q Ex} (k : Q v s) :
    wpAny (Md cx) A (eval (.Name id pos) f.env) Q Ex s := by
  obtain ⟨rfl, h1, h2⟩ := okName_eq ok
  obtain ⟨mg, mb, ng, nb, h⟩ := T.globs
  have kb : ∀ b o, cx.base.get? b = some o → s.heap.get? b = some o := fun b o e => I.st.keep b o (I.st.base b o e)
  refine Name_function_global I.kind (by simpa [isGlob, Env.kindOf] using hg) ?_ h1
  rcases h x v hv with e | ⟨e1, e2⟩
  · exact loadGlobal_global (by rw [I.glo]; exact ng.keeps kb) e k
  · exact loadGlobal_builtin (by rw [I.glo]; exact ng.keeps kb) e1 (by rw [I.bui]; exact nb.keeps kb) e2 k
/-! arguments -/
theorem noStar {ns : Nms} {env : Env} {pos : Pos} : ∀ {ps : List Expr} {es : E}, chkL ns es ps = true → (backTo pos (starEach ps env)).any (·.1) = false
  | [], _, _ => rfl
  | p :: ps, es, h => by
    obtain ⟨h, _⟩ | ⟨e', es', p', ps', rfl, h, h1, h2⟩ := chkL_nil h
    · cases h
    cases h
    rw [starEach_cons h1]
    show (false || (backTo pos (starEach ps env)).any (·.1)) = false
    rw [noStar h2]; rfl
theorem noStar' {ns : Nms} {env : Env} {pos : Pos} : ∀ {ps : List Expr} {es : E}, chkL ns es ps = true → (backTo pos (starEach ps env)).all (!·.1) = true ∧ (backTo pos (starEach ps env)).length = ps.length
  | [], _, _ => ⟨rfl, rfl⟩
  | p :: ps, es, h => by
    obtain ⟨h, _⟩ | ⟨e', es', p', ps', rfl, h, h1, h2⟩ := chkL_nil h
    · cases h
    cases h
    rw [starEach_cons h1]
    obtain ⟨a, b⟩ := noStar' (env := env) (pos := pos) h2
    refine ⟨?_, ?_⟩
    · show (true && (backTo pos (starEach ps env)).all (!·.1)) = true
      rw [a]; rfl
    · show (backTo pos (starEach ps env)).length + 1 = _
      rw [b]; rfl
theorem evalArgs_sound {es : E} (h : SL cx cf d es) {ps : List Expr} (hc : chkL f.env.scope.names es ps = true) {vs : List V} {σ' : St} (he : evalL cf es ℓ σ = some (vs, σ')) (I : FInv cx P f ℓ ρ σ s) {A} (R : Room A d) (g : Value) (pos : Pos)
    {Q : Args → Shared → Prop} {Ex} (k : ∀ s' ρ' ws, FInv cx P f ℓ ρ' σ' s' → ρ <+: ρ' → VRs ρ' vs ws → Q ⟨ws, []⟩ s') : wpAny (Md cx) A (evalArgs g true (backTo pos (starEach ps f.env)) []) Q Ex s := by
  have h' := fun {Q Ex} => h ps f hc he I R pos (Q := Q) (Ex := Ex)
  obtain ⟨rfl, rfl⟩ | ⟨e', es', p, ps', rfl, rfl, hc1, hc2⟩ := chkL_nil hc
  · simp only [evalL, Option.some.injEq, Prod.mk.injEq] at he
    obtain ⟨rfl, rfl⟩ := he
    exact PySem.evalArgs_none (k s ρ [] I (List.prefix_refl _) .nil)
  · rw [starEach_cons hc1] at h' ⊢
    exact evalArgs_plain (h' fun s' ρ' ws I' r' q' _ => k s' ρ' ws I' r' q')
theorem callB (es : E) (h : SL cx cf d es) {ps : List Expr} (hc : chkL f.env.scope.names es ps = true) {vs : List V} {σ' : St} (he : evalL cf es ℓ σ = some (vs, σ')) (I : FInv cx P f ℓ ρ σ s) {A} (R : Room A d) {id : String} {first : List Value} {pos : Pos}
    {Q : Value → Shared → Prop} {Ex} (k : ∀ s' ρ' ws, FInv cx P f ℓ ρ' σ' s' → ρ <+: ρ' → VRs ρ' vs ws → wpAny (Md cx) A (call (.builtin id) (first ++ ws)) Q Ex s') :
    wpAny (Md cx) A (callWith pos (.builtin id) first (backTo pos (starEach ps f.env)) []) Q Ex s :=
  PySem.Calls.callWith_builtin (noStar hc) (evalArgs_sound h hc he I R _ _ k)
theorem callT (es : E) (h : SL cx cf d es) {ps : List Expr} (hc : chkL f.env.scope.names es ps = true) {vs : List V} {σ' : St} (he : evalL cf es ℓ σ = some (vs, σ')) (I : FInv cx P f ℓ ρ σ s) {A} (R : Room A d) {T : String} {pos : Pos}
    {Q : Value → Shared → Prop} {Ex} (k : ∀ s' ρ' ws, FInv cx P f ℓ ρ' σ' s' → ρ <+: ρ' → VRs ρ' vs ws → wpAny (Md cx) A (call (.type T) ws) Q Ex s') :
    wpAny (Md cx) A (callWith pos (.type T) [] (backTo pos (starEach ps f.env)) []) Q Ex s :=
  PySem.callWith_type (noStar hc) (evalArgs_sound h hc he I R _ _ k)
/-! the built-in functions -/
theorem VRs.one {ρ : Rho} {v : V} {ws : List Value} (h : VRs ρ [v] ws) : ∃ w, ws = [w] ∧ VR ρ v w := by
  cases h with | cons x y => cases y; exact ⟨_, rfl, x⟩
theorem VRs.two {ρ : Rho} {v u : V} {ws : List Value} (h : VRs ρ [v, u] ws) : ∃ w z, ws = [w, z] ∧ VR ρ v w ∧ VR ρ u z := by
  cases h with | cons x y => obtain ⟨z, rfl, hz⟩ := VRs.one y; exact ⟨_, _, rfl, x, hz⟩
theorem VRs.zero {ρ : Rho} {ws : List Value} (h : VRs ρ [] ws) : ws = [] := by cases h; rfl
theorem call_bool (I : HInv cx P ρ σ s) {v : V} {w : Value} {b : Bool} (h : truthy σ v = some b) (q : VR ρ v w) (hn : ∀ n, v ≠ .ref n) {A Q Ex} (k : ∀ t, Q (.bool b) { s with toks := t }) : wpAny (Md cx) A (call (.type "bool") [w]) Q Ex s := by
  cases v with
  | none => cases h; rw [show w = .none from q]; exact call_bool_none (k s.toks)
  | bool c => cases h; rw [show w = .bool _ from q]; exact call_bool_bool (k s.toks)
  | int i => cases h; obtain ⟨t, rfl⟩ := q; exact call_bool_int (k s.toks)
  | str l =>
    cases h
    obtain ⟨hl, t, rfl⟩ := q
    rw [LIM_small] at hl
    refine call_bool_str ?_ ?_
    · rw [mkS_length]; omega
    · rw [mkS_length]
      have : ((l.length : Int) != 0) = !l.isEmpty := by cases l <;> simp; omega
      rw [this]; exact k _
  | ref n => exact absurd rfl (hn n)
theorem max_wp (I : FInv cx P f ℓ ρ σ s) {a b : Int} {t u : Tok} {A Ex} (hh : A.handled = none) {Q : Value → Shared → Prop} (k : ∀ s' t, FInv cx P f ℓ ρ σ s' → Q (.int (if b > a then b else a) t) s') :
    wpAny (Md cx) A (call (.builtin "max") [.int a t, .int b u]) Q Ex s := by
  obtain ⟨m, F, N, V⟩ := via_all I
  refine max_two_N hh F N fun h' tk F' N' => ?_
  obtain ⟨k1, k2⟩ := V h' _ F' N' fun p hp => hp
  exact k { s with heap := h', toks := tk } _ (I.grow (s' := { s with heap := h', toks := tk }) k1 k2 I.st.bare rfl)
theorem min_wp (I : FInv cx P f ℓ ρ σ s) {a b : Int} {t u : Tok} {A Ex} (hh : A.handled = none) {Q : Value → Shared → Prop} (k : ∀ s' t, FInv cx P f ℓ ρ σ s' → Q (.int (if b < a then b else a) t) s') :
    wpAny (Md cx) A (call (.builtin "min") [.int a t, .int b u]) Q Ex s := by
  obtain ⟨m, F, N, V⟩ := via_all I
  refine min_two_N hh F N fun h' tk F' N' => ?_
  obtain ⟨k1, k2⟩ := V h' _ F' N' fun p hp => hp
  exact k { s with heap := h', toks := tk } _ (I.grow (s' := { s with heap := h', toks := tk }) k1 k2 I.st.bare rfl)
theorem SE_bcall (T : CxTop cx) {g : String} {es : E} (h : SL cx cf d es) : SE cx cf d (.bcall g es) := by
  intro pe f hc P ℓ ρ σ s A v σ' he I R Q Ex k
  unfold chkE at hc
  split at hc
  case h_2 => cases hc
  simp only [Bool.and_eq_true] at hc
  simp only [evalE, Option.bind_eq_bind, Option.bind_eq_some_iff] at he
  obtain ⟨⟨vs, σ1⟩, he1, he2⟩ := he
  obtain ⟨⟨⟨hn, hg⟩, hc1⟩, _⟩ := hc
  dsimp only at he2
  unfold builtinF at he2
  refine Call_ ?_
  split at he2
  · rename_i l _
    simp only [Option.some.injEq, Prod.mk.injEq] at he2
    obtain ⟨rfl, rfl⟩ := he2
    refine I.glob T T.bLen hn hg (callB _ h hc1 he1 I R fun s1 ρ1 ws I1 r1 q1 => ?_)
    obtain ⟨w, rfl, q⟩ := VRs.one q1
    obtain ⟨hl, t, rfl⟩ := q
    rw [LIM_small] at hl
    refine len_str (by rw [mkS_length]; omega) ?_
    rw [mkS_length]
    exact k _ ρ1 _ (I1.toks _) r1 ⟨_, rfl⟩
  · rename_i n _
    obtain ⟨ws, hs, e⟩ := Option.map_eq_some_iff.mp he2
    cases e
    refine I.glob T T.bLen hn hg (callB _ h hc1 he1 I R fun s1 ρ1 us I1 r1 q1 => ?_)
    obtain ⟨w, rfl, q⟩ := VRs.one q1
    rcases seqAt_some hs with hs | hs
    · obtain ⟨a, xs, k1, rfl, e, g, z, hL⟩ := I1.st.listAt hs q
      rw [LIM_small] at hL
      have hsz : xs.size = ws.length := by rw [z.length]; simp
      refine call_len_list (isListOf g) (by omega) ?_
      rw [hsz]; exact k _ ρ1 _ (I1.toks _) r1 ⟨_, rfl⟩
    · obtain ⟨a, xs, k1, rfl, e, g, z, hL⟩ := I1.st.tupAt hs q
      rw [LIM_small] at hL
      have hsz : xs.size = ws.length := by rw [z.length]; simp
      refine PyProof.Rows.len_tuple (isTupOf g) (by omega) ?_
      rw [hsz]; exact k _ ρ1 _ (I1.toks _) r1 ⟨_, rfl⟩
  · simp only [Option.some.injEq, Prod.mk.injEq] at he2
    obtain ⟨rfl, rfl⟩ := he2
    refine I.glob T T.bMax hn hg (callB _ h hc1 he1 I R fun s1 ρ1 ws I1 r1 q1 => ?_)
    obtain ⟨w, z, rfl, ⟨t, rfl⟩, ⟨u, rfl⟩⟩ := VRs.two q1
    exact max_wp I1 R.han fun s2 t I2 => k s2 ρ1 _ I2 r1 ⟨_, rfl⟩
  · simp only [Option.some.injEq, Prod.mk.injEq] at he2
    obtain ⟨rfl, rfl⟩ := he2
    refine I.glob T T.bMin hn hg (callB _ h hc1 he1 I R fun s1 ρ1 ws I1 r1 q1 => ?_)
    obtain ⟨w, z, rfl, ⟨t, rfl⟩, ⟨u, rfl⟩⟩ := VRs.two q1
    exact min_wp I1 R.han fun s2 t I2 => k s2 ρ1 _ I2 r1 ⟨_, rfl⟩
  · rename_i v _
    split at he2
    · cases he2
    · rename_i hr
      obtain ⟨b, hb, e⟩ := Option.map_eq_some_iff.mp he2
      cases e
      refine I.glob T T.bBool hn hg (callT _ h hc1 he1 I R fun s1 ρ1 ws I1 r1 q1 => ?_)
      obtain ⟨w, rfl, q⟩ := VRs.one q1
      exact call_bool I1.st hb q (fun n hn => hr (by rw [hn]; rfl)) fun t => k _ ρ1 _ (I1.toks _) r1 rfl
  · simp only [Option.some.injEq, Prod.mk.injEq] at he2
    obtain ⟨rfl, rfl⟩ := he2
    refine I.glob T T.bInt hn hg (callT _ h hc1 he1 I R fun s1 ρ1 ws I1 r1 q1 => ?_)
    obtain ⟨w, rfl, t, rfl⟩ := VRs.one q1
    exact call_int_int (k _ ρ1 _ I1 r1 ⟨_, rfl⟩)
  · cases he2
end
end Mine
end

/-! Sound7 -/
section
open PySem PySem.W PySem.Calls PyProof.Rows
set_option linter.unusedVariables false
namespace Mine
section
variable {cx : Cx} {cf : CallF} {d : Nat} {P : Kept} {f : Frm} {ℓ : Loc} {ρ : Rho} {σ : St} {s : Shared}
theorem attrBase_plain {o : Expr} (ho : notCall o = true) (a : Str) (env : Env) (whole : Sem Value) : attributeBase o a env whole = whole := by
  cases o <;> first | rfl | cases ho
theorem arm_method {o : Expr} (ho : notCall o = true) {name : Str} {apos pos : Pos} (hp : (apos.endLine == pos.line) = true) {args : List Expr} {env : Env}
    (h1 : (backTo pos (starEach args env)).all (!·.1) = true) (hl : args.length ≤ 20) :
    eval (.Call (.Attribute o name apos) args [] pos) env = (do
      let ov ← eval o env
      standAt apos.atName
      let (f, first) ← holding [ov] (getMethod ov name (do return (← importBound o env).getD true))
      callWith pos f first (backTo pos (starEach args env)) []) := by
  have hf : methodCallForm (args.length + 0) (backTo pos (starEach args env)) [] = true := by
    unfold methodCallForm
    rw [h1]
    simp; omega
  have e0 : eval (.Call (.Attribute o name apos) args [] pos) env = (do
      let ov ← attributeBase o name env (eval o env)
      standAt apos.atName
      methodCall o name apos pos env ov (args.length + 0) (backTo pos (starEach args env)) []) := rfl
  rw [e0, attrBase_plain ho]
  unfold methodCall
  rw [hf]
  have hq : methodCallPos true o env apos pos = pure pos := by
    unfold methodCallPos
    rw [hp]; rfl
  rw [hq]
  rfl
theorem method_wp {e es : E} {m : String} (h1 : SE cx cf d e) {p : Expr} {id : Str} {ap cp : Pos} {ps : List Expr} (hp : (ap.endLine == cp.line) = true) (hc : chkE f.env.scope.names e p = true) (hl : chkL f.env.scope.names es ps = true) (hn : notCall p = true) (hz : ps.length ≤ 20)
    {v : V} {σ' : St} (he : evalE cf e ℓ σ = some (v, σ')) (I : FInv cx P f ℓ ρ σ s) {A} (R : Room A d) {Q : Value → Shared → Prop} {Ex}
    (k : ∀ s' ρ' w, FInv cx P f ℓ ρ' σ' s' → ρ <+: ρ' → VR ρ' v w → ∀ pl, wpAny (Md cx) A (getMethod w id pl) (fun fx s₂ => wpAny (Md cx) A (callWith cp fx.1 fx.2 (backTo cp (starEach ps f.env)) []) Q Ex s₂) Ex s') :
    wpAny (Md cx) A (eval (.Call (.Attribute p id ap) ps [] cp) f.env) Q Ex s :=
  MethodCall_ (h1 _ f hc he I R fun s' ρ' w I' r' q' => k s' ρ' w I' r' q' _) (arm_method hn hp (noStar' hl).1 hz)
/-! the built-in methods -/
theorem str_method {l : List Nat} {w : Value} (q : VR ρ (.str l) w) {name : String} {id : String} (slot : Slot "str" (Str.ofString name) id) (hty : typeOf (.builtin id) = pure (.type "method_descriptor")) {A pl} {Q : Value × List Value → Shared → Prop} {Ex}
    (k : Q (.builtin id, [w]) s) : wpAny (Md cx) A (getMethod w (Str.ofString name) pl) Q Ex s := by
  obtain ⟨_, t, rfl⟩ := q
  with_reducible exact getMethod_builtin (typeIs_str _ _ _) F.plainAttrs_str slot hty (fun _ e => nomatch e) k
theorem list_method (I : HInv cx P ρ σ s) {n : Nat} {vs : List V} {w : Value} (h : σ[n]? = some (.list vs)) (q : VR ρ (.ref n) w) {name : String} {id : String} (slot : Slot "list" (Str.ofString name) id) (hty : typeOf (.builtin id) = pure (.type "method_descriptor")) {A pl} {Q : Value × List Value → Shared → Prop} {Ex}
    (k : Q (.builtin id, [w]) s) : wpAny (Md cx) A (getMethod w (Str.ofString name) pl) Q Ex s := by
  obtain ⟨a, ws, n', rfl, e, g, z, hL⟩ := I.listAt h q
  exact getMethod_builtin ⟨_, g, rfl⟩ F.plainAttrs_list slot hty (fun a e => by cases e; exact ⟨_, g, rfl⟩) k
theorem dict_method {a : Addr} {l : List DictEntry} {n : Nat} (g : s.heap.get? a = some (dictOf l n)) {name : String} {id : String} (slot : Slot "dict" (Str.ofString name) id) (hty : typeOf (.builtin id) = pure (.type "method_descriptor")) {A pl} {Q : Value × List Value → Shared → Prop} {Ex}
    (k : Q (.builtin id, [.ref a]) s) : wpAny (Md cx) A (getMethod (.ref a) (Str.ofString name) pl) Q Ex s :=
  getMethod_builtin ⟨_, g, rfl⟩ F.plainAttrs_dict slot hty (fun a e => by cases e; exact ⟨_, g, rfl⟩) k
theorem list_not_tup {h : Heap} {a : Addr} {ws : Array Value} {k : Nat} (g : h.get? a = some (W.listOf ws k)) : ∀ us m, h.get? a ≠ some (tupOf us m) := by
  intro us m q; rw [g] at q
  have := congrArg Obj.cls (Option.some.inj q)
  simp [tupOf] at this
/-- a list of the store turned -/
theorem FInv.setList (I : FInv cx P f ℓ ρ σ s) {n : Nat} (hn0 : n ≠ 0) {a : Addr} {vs vs' : List V} {ws ws' : Array Value} {k k' : Nat} (hσ : σ[n]? = some (.list vs)) (e : ρ[n]? = some (a, a)) (g : s.heap.get? a = some (W.listOf ws k))
    {h' : Heap} (hs : Heap.SameBut a s.heap h') (g' : h'.get? a = some (W.listOf ws' k')) (z : VRs ρ vs' ws'.toList) (hL : vs'.length ≤ LIM) (tk : Nat) :
    FInv cx P f ℓ ρ (σ.set n (.list vs')) { s with heap := h', toks := tk } := by
  have hin : inRho ρ a := ⟨n, a, a, e, .inl rfl⟩
  refine I.change (s' := { s with heap := h', toks := tk }) hn0 hσ e (.inl rfl) (list_not_tup g) (fun b o h1 _ q => (hs.2 b h1).trans q) (fun m n => n.sameBut hs fun q => I.lp.2.1 (q ▸ hin)) ⟨rfl, hL, ws', k', g', z⟩ rfl rfl
theorem strs_vals {ρ : Rho} : ∀ {vs : List V} {ws : List Value} {l : List (List Nat)}, VRs ρ vs ws → allStrs vs = some l → ∃ q : List (Str × Tok), ws = strValues q ∧ q.map (·.1) = l.map mkS
  | [], _, _, .nil, h => by cases h; exact ⟨[], rfl, rfl⟩
  | v :: vs, _, l, .cons x y, h => by
    cases v <;> simp only [allStrs] at h <;> try cases h
    rename_i c
    obtain ⟨l', h1, rfl⟩ := Option.map_eq_some_iff.mp h
    obtain ⟨_, t, rfl⟩ := x
    obtain ⟨q, e1, e2⟩ := strs_vals y h1
    exact ⟨(mkS c, t) :: q, by rw [e1]; rfl, by rw [List.map_cons, e2]; rfl⟩
theorem join_flat (l : List (List Nat)) : Txt.join (mkS []) (l.map mkS) = mkS l.flatten := by
  show Builtin.Str.glued _ _ = _
  unfold Builtin.Str.glued
  have : ∀ (l : List (List Nat)) (acc : Array Nat), ((l.map mkS).foldl (fun acc p => acc ++ (mkS []).cps ++ p.cps) acc) = (acc.toList ++ l.flatten).toArray := by
    intro l
    induction l with
    | nil => intro acc; simp
    | cons a r ih => intro acc; rw [List.map_cons, List.foldl_cons, ih]; simp [mkS]
  cases l with
  | nil => rfl
  | cons a r =>
    rw [List.map_cons, List.drop_one, List.tail_cons, this]
    simp [mkS]
theorem joinOk (l : List (List Nat)) (h : l.flatten.length ≤ LIM) : JoinOk (mkS []) (l.map mkS) = true := by
  unfold JoinOk Builtin.Str.tooLong
  have : ∀ (l : List (List Nat)) (acc : Nat), (l.map mkS).toArray.foldl (· + ·.length + (mkS []).length) acc = acc + l.flatten.length := by
    intro l
    induction l with
    | nil => intro acc; simp
    | cons a r ih =>
      intro acc
      have := ih (acc + (mkS a).length + (mkS []).length)
      simp only [List.foldl_toArray] at this ⊢
      rw [List.map_cons, List.foldl_cons, this]
      simp [mkS_length]; omega
  rw [this]
  rw [LIM_small] at h
  have h2 : sizeLine = 16777216 := rfl
  rw [decide_eq_false (by omega)]; rfl
/-- a dict keyed by tuples -/
def TGet (cx : Cx) : Prop := ∀ {h : Heap} {gens drawn toks os} {a b : Addr} {es : List (TKey × Int)} {l : List DictEntry} {n m : Nat} {q : TKey} {t u : Tok} {z : Int} {tz : Tok} {A : Around} {dd : Nat} {Q : Value → Shared → Prop} {Ex : Value → Shared → Prop}, Room A dd →
  h.get? a = some (dictOf l n) → All2 (TEntR cx h) es l → (es.map (·.1)).Nodup → h.get? b = some (tupOf #[.str (mkS q.1) t, .int q.2.1 u, .bool q.2.2] m) → (a == sysModules) = false →
  (∀ t tk, Q (.int ((es.lookup q).getD z) t) ⟨h, gens, drawn, tk, os⟩) → wpAny (Md cx) A (call (.builtin "dict.get") [.ref a, .ref b, .int z tz]) Q Ex ⟨h, gens, drawn, toks, os⟩
theorem keyOf_some {σ : St} {v : V} {q : TKey} (h : keyOf σ v = some q) : ∃ n, v = .ref n ∧ σ[n]? = some (.tuple [.str q.1, .int q.2.1, .bool q.2.2]) := by
  cases v <;> simp only [keyOf] at h <;> try cases h
  split at h <;> cases h
  exact ⟨_, rfl, by assumption⟩
theorem HInv.keyAt (I : HInv cx P ρ σ s) {v : V} {w : Value} {q : TKey} (h : keyOf σ v = some q) (hv : VR ρ v w) :
    ∃ b m t u, w = .ref b ∧ s.heap.get? b = some (tupOf #[.str (mkS q.1) t, .int q.2.1 u, .bool q.2.2] m) := by
  obtain ⟨n, rfl, hσ⟩ := keyOf_some h
  obtain ⟨b, ws, m, rfl, e, g, z, _⟩ := I.tupAt hσ hv
  have : ∃ t u, ws = #[.str (mkS q.1) t, .int q.2.1 u, .bool q.2.2] := by
    obtain ⟨l⟩ := ws
    simp only at z
    cases z with
    | cons a1 z => cases z with
      | cons a2 z => cases z with
        | cons a3 z =>
          cases z
          obtain ⟨_, t, rfl⟩ := a1
          obtain ⟨u, rfl⟩ := a2
          have a3' : _ = Value.bool q.2.2 := a3
          subst a3'
          exact ⟨t, u, rfl⟩
  obtain ⟨t, u, rfl⟩ := this
  exact ⟨b, m, t, u, rfl, g⟩
theorem getT_some {σ : St} {a : Nat} {es : List (TKey × Int)} (h : getT σ a = some es) : σ[a]? = some (.tdict es) := by
  unfold getT at h
  split at h <;> cases h
  assumption
theorem HInv.tdAt (I : HInv cx P ρ σ s) {n : Nat} {w : Value} {es : List (TKey × Int)} (h : σ[n]? = some (.tdict es)) (q : VR ρ (.ref n) w) :
    ∃ a l k, w = .ref a ∧ ρ[n]? = some (a, a) ∧ s.heap.get? a = some (dictOf l k) ∧ All2 (TEntR cx s.heap) es l ∧ (es.map (·.1)).Nodup ∧ a ≠ sysModules := by
  obtain ⟨a, d, rfl, e, rfl, l, k, g, y⟩ := I.ref h q
  exact ⟨d, l, k, rfl, e, g, y⟩
theorem SE_bmeth (T : CxTop cx) (TG : TGet cx) {e es : E} {m : String} (h1 : SE cx cf d e) (h2 : SL cx cf d es) : SE cx cf d (.bmeth e m es) := by
  intro pe f hc P ℓ ρ σ s A v σ' he I R Q Ex k
  unfold chkE at hc
  split at hc
  case h_2 => cases hc
  simp only [Bool.and_eq_true, beq_iff_eq, decide_eq_true_eq] at hc
  obtain ⟨⟨⟨⟨⟨⟨hp, hc1⟩, rfl⟩, hm⟩, hc2⟩, hn⟩, hz⟩ := hc
  simp only [evalE, Option.bind_eq_bind, Option.bind_eq_some_iff] at he
  obtain ⟨⟨v1, σ1⟩, he1, he⟩ := he
  dsimp only at he
  split at he
  case isFalse => cases he
  rename_i hk
  simp only [Option.bind_eq_some_iff] at he
  obtain ⟨⟨vs, σ2⟩, he2, he3⟩ := he
  dsimp only at he3
  refine method_wp (m := m) h1 (beq_iff_eq.mpr hp) hc1 hc2 hn hz he1 I R fun s1 ρ1 w1 I1 r1 q1 pl => ?_
  have args : ∀ {id : String} {pos}, (∀ s2 ρ2 ws, FInv cx P f ℓ ρ2 σ2 s2 → ρ1 <+: ρ2 → VRs ρ2 vs ws → wpAny (Md cx) A (call (.builtin id) (w1 :: ws)) Q Ex s2) →
      wpAny (Md cx) A (callWith pos (.builtin id) [w1] (backTo pos (starEach _ f.env)) []) Q Ex s1 := fun h => callB _ h2 hc2 he2 I1 R fun s2 ρ2 ws I2 r2 q2 => h s2 ρ2 ws I2 r2 q2
  unfold builtinM at he3
  split at he3
  · -- append
    rename_i n x _
    simp only [Option.bind_eq_bind, Option.bind_eq_some_iff] at he3
    obtain ⟨⟨n', us⟩, hl, he3⟩ := he3
    obtain ⟨hr, hσ⟩ := getList_some hl
    cases hr
    split at he3 <;> cases he3
    rename_i hlt
    dsimp only at hlt
    obtain ⟨hlt, hn0⟩ := hlt
    simp only [mOk, true_or, if_true, Option.isSome_iff_exists] at hk
    obtain ⟨⟨_, us0⟩, hk⟩ := hk
    obtain ⟨hr, hσ0⟩ := getList_some hk
    cases hr
    refine list_method I1.st hσ0 q1 F.slot_list_append F.type_list_append (args fun s2 ρ2 ws I2 r2 q2 => ?_)
    obtain ⟨w, rfl, qw⟩ := VRs.one q2
    obtain ⟨a, xs, k1, rfl, e, g, z, hL⟩ := I2.st.listAt hσ (q1.mono r2)
    have hsz : xs.size = us.length := by rw [z.length]; simp
    refine wpAny_list_append_plain (items := xs) ⟨k1, g⟩ (fun h' ⟨k2, g'⟩ hs => ?_) (by rw [hsz]; rw [LIM_small] at hlt; have : sizeLine = 16777216 := rfl; omega)
    refine k _ ρ2 _ (I2.setList hn0 hσ e g hs g' ?_ (by simp; exact hlt) s2.toks) (r1.trans r2) rfl
    simpa using z.append (.cons qw .nil)
  · -- pop
    rename_i n _
    simp only [Option.bind_eq_bind, Option.bind_eq_some_iff] at he3
    obtain ⟨⟨n', us⟩, hl, x, hx, he3⟩ := he3
    obtain ⟨hr, hσ⟩ := getList_some hl
    cases hr
    split at he3 <;> cases he3
    rename_i hn0
    dsimp only at hx
    simp only [mOk, true_or, or_true, if_true, Option.isSome_iff_exists] at hk
    obtain ⟨⟨_, us0⟩, hk⟩ := hk
    obtain ⟨hr, hσ0⟩ := getList_some hk
    cases hr
    refine list_method I1.st hσ0 q1 F.slot_list_pop F.type_list_pop (args fun s2 ρ2 ws I2 r2 q2 => ?_)
    cases VRs.zero q2
    obtain ⟨a, xs, k1, rfl, e, g, z, hL⟩ := I2.st.listAt hσ (q1.mono r2)
    have hsz : xs.size = us.length := by rw [z.length]; simp
    rw [List.getLast?_eq_getElem?] at hx
    obtain ⟨w, hw, qw⟩ := z.get hx
    have hpos : 0 < us.length := by
      rcases Nat.eq_zero_or_pos us.length with h0 | h0
      · rw [List.length_eq_zero_iff.mp h0] at hx; simp at hx
      · exact h0
    refine call_meets F.slot_list_pop ⟨_, g, rfl⟩ F.entry_list_pop (F.args_list_pop_1 _) (MeetsSeq.list_pop_last a xs k1 w (by rw [hsz, ← Array.getElem?_toList]; exact hw) (by rw [hsz]; exact Nat.le_trans hL (by decide))) ⟨g, ?_⟩
    have g' := PySem.IsL.update (h := s2.heap) (l := a) (items := xs) (n := k1) g (fun xs => xs.eraseIdxIfInBounds (us.length - 1))
    rw [hsz]
    refine k _ ρ2 _ (I2.setList hn0 hσ e g (Heap.SameBut.update _ _ _) g' ?_ (by simp; omega) s2.toks) (r1.trans r2) qw
    have : (xs.eraseIdxIfInBounds (us.length - 1)).toList = xs.toList.dropLast := by
      rw [Array.eraseIdxIfInBounds_eq]
      rw [dif_pos (by omega), Array.toList_eraseIdx, List.eraseIdx_eq_take_drop_succ, List.dropLast_eq_take]
      have e1 : xs.toList.length = us.length := by simpa using hsz
      rw [e1, List.drop_eq_nil_of_le (by omega), List.append_nil]
    rw [this, List.dropLast_eq_take, List.dropLast_eq_take, ← z.length]
    exact z.take _
  · -- clear
    rename_i n _
    simp only [Option.bind_eq_bind, Option.bind_eq_some_iff] at he3
    obtain ⟨⟨n', us⟩, hl, he3⟩ := he3
    obtain ⟨hr, hσ⟩ := getList_some hl
    cases hr
    split at he3 <;> cases he3
    rename_i hn0
    simp only [mOk, or_true, if_true, Option.isSome_iff_exists] at hk
    obtain ⟨⟨_, us0⟩, hk⟩ := hk
    obtain ⟨hr, hσ0⟩ := getList_some hk
    cases hr
    refine list_method I1.st hσ0 q1 F.slot_list_clear F.type_list_clear (args fun s2 ρ2 ws I2 r2 q2 => ?_)
    cases VRs.zero q2
    obtain ⟨a, xs, k1, rfl, e, g, z, hL⟩ := I2.st.listAt hσ (q1.mono r2)
    have hsz : xs.size = us.length := by rw [z.length]; simp
    refine call_meets F.slot_list_clear ⟨_, g, rfl⟩ F.entry_list_clear (F.args_list_clear_1 _) (AutoSeq1.list_clear_list_0 a xs k1 (by rw [hsz]; exact Nat.le_trans hL (by decide))) ⟨g, ?_⟩
    have g' := PySem.IsL.update (h := s2.heap) (l := a) (items := xs) (n := k1) g (fun _ => #[])
    exact k _ ρ2 _ (I2.setList hn0 hσ e g (Heap.SameBut.update _ _ _) g' (by simpa using .nil) (by simp) s2.toks) (r1.trans r2) rfl
  · -- get
    rename_i n kv dz _
    simp only [Option.bind_eq_bind, Option.bind_eq_some_iff, Option.some.injEq, Prod.mk.injEq] at he3
    obtain ⟨es', ht, q, hq, rfl, rfl⟩ := he3
    have hσ := getT_some ht
    simp only [mOk, if_true, String.reduceEq, or_self, if_false, Option.isSome_iff_exists] at hk
    obtain ⟨es0, hk⟩ := hk
    have hσ0 := getT_some hk
    obtain ⟨a0, l0, n0, rfl, e0, g0, y0, _⟩ := I1.st.tdAt hσ0 q1
    refine dict_method g0 F.slot_dict_get F.type_dict_get (args fun s2 ρ2 ws I2 r2 q2 => ?_)
    obtain ⟨w, z, rfl, qk, ⟨tz, rfl⟩⟩ := VRs.two q2
    obtain ⟨a, l, n1, ea, e, g, y, nd⟩ := I2.st.tdAt hσ (q1.mono r2)
    cases ea
    obtain ⟨b, m', t, u, rfl, gb⟩ := I2.st.keyAt hq qk
    exact TG R g y nd.1 gb (beq_eq_false_iff_ne.mpr nd.2) fun t tk => k _ ρ2 _ (I2.toks tk) (r1.trans r2) ⟨_, rfl⟩
  · -- join
    rename_i n _
    simp only [Option.bind_eq_bind, Option.bind_eq_some_iff] at he3
    obtain ⟨⟨n', us⟩, hl, l, hl2, he3⟩ := he3
    obtain ⟨hr, hσ⟩ := getList_some hl
    cases hr
    split at he3 <;> cases he3
    rename_i hlt
    dsimp only at hlt hl2
    refine str_method q1 F.slot_str_join F.type_str_join (args fun s2 ρ2 ws I2 r2 q2 => ?_)
    obtain ⟨w, rfl, qw⟩ := VRs.one q2
    obtain ⟨a, xs, k1, rfl, e, g, z, hL⟩ := I2.st.listAt hσ qw
    obtain ⟨_, t, rfl⟩ := q1
    obtain ⟨pr, e1, e2⟩ := strs_vals z hl2
    refine SC.join (l := pr) (by rw [← e1]; simpa using isListOf g) e2 (joinOk l hlt) fun t' tk => ?_
    rw [join_flat]
    exact k _ ρ2 _ (I2.toks tk) (r1.trans r2) ⟨hlt, _, rfl⟩
  · -- isalnum
    cases he3
    refine str_method q1 F.slot_str_isalnum F.type_str_isalnum (args fun s2 ρ2 ws I2 r2 q2 => ?_)
    cases VRs.zero q2
    obtain ⟨_, t, rfl⟩ := q1
    exact SC.isalnum (k _ ρ2 _ I2 (r1.trans r2) rfl)
  · cases he3
    refine str_method q1 F.slot_str_isspace F.type_str_isspace (args fun s2 ρ2 ws I2 r2 q2 => ?_)
    cases VRs.zero q2
    obtain ⟨_, t, rfl⟩ := q1
    exact SC.isspace (k _ ρ2 _ I2 (r1.trans r2) rfl)
  · cases he3
    refine str_method q1 F.slot_str_endswith F.type_str_endswith (args fun s2 ρ2 ws I2 r2 q2 => ?_)
    obtain ⟨w, rfl, qw⟩ := VRs.one q2
    obtain ⟨_, t, rfl⟩ := q1
    obtain ⟨_, u, rfl⟩ := qw
    exact SC.endswith (k _ ρ2 _ I2 (r1.trans r2) rfl)
  · cases he3
end
end Mine
end

/-! Sound8 -/
section
open PySem PySem.W PySem.Calls PyProof.Rows
set_option linter.unusedVariables false
namespace Mine
section
variable {cx : Cx} {cf : CallF} {d : Nat} {P : Kept} {f : Frm} {ℓ : Loc} {ρ : Rho} {σ : St} {s s' : Shared}
theorem All2.of_get {α β : Type} {R : α → β → Prop} : ∀ {as : List α} {bs : List β}, as.length = bs.length → (∀ (i : Nat) a b, as[i]? = some a → bs[i]? = some b → R a b) → All2 R as bs
  | [], [], _, _ => .nil
  | a :: as, b :: bs, hl, h => .cons (h 0 a b rfl rfl) (All2.of_get (by simpa using hl) fun i a b x y => h (i + 1) a b (by simpa using x) (by simpa using y))
  | [], _ :: _, hl, _ => by simp at hl
  | _ :: _, [], hl, _ => by simp at hl
/-! a place held through a walk -/
def Hold (P : Kept) (L : List (Addr × Obj)) : Kept := fun b o => P b o ∨ (b, o) ∈ L
structure Loose (cx : Cx) (P : Kept) (f : Frm) (ρ : Rho) (a : Addr) : Prop where
  np : ∀ o, ¬ P a o
  nr : ¬ inRho ρ a
  nt : a ≠ cx.tab
  nl : a ≠ f.env.locals
  nc : a ∉ f.oc
theorem FInv.loose_new (I : FInv cx P f ℓ ρ σ s) {a : Addr} (na : s.heap.get? a = none) : Loose cx P f ρ a :=
  have A := I.new_apart na
  ⟨fun o h => (by have := I.st.keep _ _ h; rw [na] at this; cases this), fun h => (by obtain ⟨o, e⟩ := I.st.lt h; rw [na] at e; cases e), A.2.2, A.1, A.2.1⟩
/-- places that stand apart from the store -/
def Stand (cx : Cx) (P : Kept) (f : Frm) (ρ : Rho) (h : Heap) (L : List (Addr × Obj)) : Prop := ∀ p ∈ L, Loose cx P f ρ p.1 ∧ h.get? p.1 = some p.2
theorem FInv.hold (I : FInv cx P f ℓ ρ σ s) {L : List (Addr × Obj)} (S : Stand cx P f ρ s.heap L) : FInv cx (Hold P L) f ℓ ρ σ s := by
  obtain ⟨m, hn, hm⟩ := I.names
  refine ⟨⟨?_, fun b o h => .inl (I.st.base b o h), I.st.len, I.st.rep, I.st.inj, ?_, I.st.bare, I.st.os, I.st.tab, ⟨?_, I.st.tabFree.2⟩, I.st.ro⟩, I.kind, I.glo, I.bui, I.above, ⟨m, hn, fun x v e => ?_⟩, ⟨?_, I.lp.2⟩, fun c hc => ?_, I.cinj⟩
  · rintro b o (h | h)
    · exact I.st.keep b o h
    · exact (S _ h).2
  · rintro b hb o (h | h)
    · exact I.st.free b hb o h
    · exact (S _ h).1.nr hb
  · rintro o (h | h)
    · exact I.st.tabFree.1 o h
    · exact (S _ h).1.nt rfl
  · have := hm x v e
    unfold NameIs at this ⊢
    split at this
    · exact this
    · obtain ⟨c, w, e1, e2, e3, e4⟩ := this; exact ⟨c, w, e1, e2, e3, e4.imp id fun ⟨o, h⟩ => ⟨o, .inl h⟩⟩
    · obtain ⟨c, w, e1, e2, e3, e4⟩ := this; exact ⟨c, w, e1, e2, e3, e4.imp id fun ⟨o, h⟩ => ⟨o, .inl h⟩⟩
    · exact this.elim
  · rintro o (h | h)
    · exact I.lp.1 o h
    · exact (S _ h).1.nl rfl
  · obtain ⟨h1, h2⟩ := I.cp c hc
    refine ⟨?_, h2⟩
    rintro o (h | h)
    · exact h1 o h
    · exact (S _ h).1.nc hc
theorem FInv.drop {L : List (Addr × Obj)} (I : FInv cx (Hold P L) f ℓ ρ σ s) (hb : ∀ b o, cx.base.get? b = some o → P b o) (np : ∀ p ∈ L, ∀ o, ¬ P p.1 o) (hc : ∀ p ∈ L, ∀ v, p.2.data ≠ .cell v) :
    FInv cx P f ℓ ρ σ s ∧ Stand cx P f ρ s.heap L := by
  have g : ∀ p ∈ L, s.heap.get? p.1 = some p.2 := fun p hp => I.st.keep _ _ (.inr hp)
  obtain ⟨m, hn, hm⟩ := I.names
  refine ⟨⟨⟨fun b o h => I.st.keep b o (.inl h), hb, I.st.len, I.st.rep, I.st.inj, fun b hb o h => I.st.free b hb o (.inl h), I.st.bare, I.st.os, I.st.tab, ⟨fun o h => I.st.tabFree.1 o (.inl h), I.st.tabFree.2⟩, I.st.ro⟩,
    I.kind, I.glo, I.bui, I.above, ⟨m, hn, fun x v e => ?_⟩, ⟨fun o h => I.lp.1 o (.inl h), I.lp.2⟩, fun c hc => ⟨fun o h => (I.cp c hc).1 o (.inl h), (I.cp c hc).2⟩, I.cinj⟩,
    fun p hp => ⟨⟨np p hp, fun h => I.st.free _ h p.2 (.inr hp), fun h => I.st.tabFree.1 p.2 (.inr (h ▸ hp)), fun h => I.lp.1 p.2 (.inr (h ▸ hp)), fun h => (I.cp _ h).1 p.2 (.inr hp)⟩, g p hp⟩⟩
  have down : ∀ {c w}, s.heap.IsCell c w → (c ∈ f.oc ∨ ∃ o, Hold P L c o) → (c ∈ f.oc ∨ ∃ o, P c o) := by
    rintro c w ⟨o', e1, e2⟩ (h | ⟨o, h | h⟩)
    · exact .inl h
    · exact .inr ⟨o, h⟩
    · have := g _ h; dsimp only at this; rw [this] at e1; cases e1; exact absurd e2 (hc _ h _)
  have := hm x v e
  unfold NameIs at this ⊢
  split at this
  · exact this
  · obtain ⟨c, w, e1, e2, e3, e4⟩ := this; exact ⟨c, w, e1, e2, e3, down e2 e4⟩
  · obtain ⟨c, w, e1, e2, e3, e4⟩ := this; exact ⟨c, w, e1, e2, e3, down e2 e4⟩
  · exact this.elim
theorem Stand.one {h : Heap} {a : Addr} {ob : Obj} (L : Loose cx P f ρ a) (g : h.get? a = some ob) : Stand cx P f ρ h [(a, ob)] := fun p hp => by
  rw [List.mem_singleton] at hp; subst hp; exact ⟨L, g⟩
/-- all stands but a loose place -/
theorem FInv.growAt (I : FInv cx P f ℓ ρ σ s) {a : Addr} (L : Loose cx P f ρ a) (ht : ∀ ws k, s.heap.get? a ≠ some (tupOf ws k)) (k : ∀ b o, b ≠ a → s.heap.get? b = some o → s'.heap.get? b = some o)
    (hb : AllBare s'.gens) (ho : s'.os = s.os) : FInv cx P f ℓ ρ σ s' := by
  obtain ⟨m, hn, hm⟩ := I.names
  have kc : ∀ c w, (c ∈ f.oc ∨ ∃ o, P c o) → s.heap.IsCell c w → s'.heap.IsCell c w := fun c w q ⟨o, e, g⟩ =>
    ⟨o, k _ _ (fun z => q.elim (fun q => L.nc (z ▸ q)) fun ⟨o, q⟩ => L.np o (z ▸ q)) e, g⟩
  have hX : Apart cx P ρ (fun b => b = a) s.heap := by rintro b rfl; exact ⟨L.np, L.nr, L.nt, ht⟩
  obtain ⟨o1, es1, ep1, h1, h2⟩ := hn
  exact ⟨I.st.grow hX (fun b o hx => k b o hx) hb ho, I.kind, I.glo, I.bui, I.above, ⟨m, ⟨o1, es1, ep1, k _ _ (Ne.symm L.nl) h1, h2⟩, fun x v e => (hm x v e).go (List.prefix_refl _) kc⟩, I.lp,
    fun c hc => let ⟨a, b, d, e, v, g⟩ := I.cp c hc; ⟨a, b, d, e, v, kc c v (.inl hc) g⟩, I.cinj⟩
/-- a place that stands is taken into the store -/
theorem FInv.adopt (I : FInv cx P f ℓ ρ σ s) {a e : Addr} (L : Loose cx P f ρ a) (L' : Loose cx P f ρ e) {o : O} (r : ORep cx (ρ ++ [(a, e)]) s.heap a e o) : FInv cx P f ℓ (ρ ++ [(a, e)]) (σ ++ [o]) s := by
  obtain ⟨m, hn, hm⟩ := I.names
  have pre : ρ <+: ρ ++ [(a, e)] := List.prefix_append _ _
  have last : ∀ {n : Nat} {a' d'}, (ρ ++ [(a, e)])[n]? = some (a', d') → ρ[n]? = some (a', d') ∧ n < ρ.length ∨ (n = ρ.length ∧ a' = a ∧ d' = e) := by
    intro n a' d' h
    by_cases hn : n < ρ.length
    · rw [List.getElem?_append_left hn] at h; exact .inl ⟨h, hn⟩
    · rw [List.getElem?_append_right (by omega)] at h
      cases hk : n - ρ.length with
      | zero => rw [hk] at h; simp at h; exact .inr ⟨by omega, h.1.symm, h.2.symm⟩
      | succ j => rw [hk] at h; simp at h
  have ne : ∀ {n : Nat} {a' d'}, ρ[n]? = some (a', d') → a' ≠ a ∧ a' ≠ e ∧ d' ≠ a ∧ d' ≠ e := by
    intro n a' d' h
    refine ⟨?_, ?_, ?_, ?_⟩ <;> rintro rfl
    · exact L.nr ⟨n, _, _, h, .inl rfl⟩
    · exact L'.nr ⟨n, _, _, h, .inl rfl⟩
    · exact L.nr ⟨n, _, _, h, .inr rfl⟩
    · exact L'.nr ⟨n, _, _, h, .inr rfl⟩
  have notIn : ∀ b, ¬ inRho ρ b → b ≠ a → b ≠ e → ¬ inRho (ρ ++ [(a, e)]) b := fun b h h1 h2 q => q.append.elim h fun q => q.elim h1 h2
  refine ⟨⟨I.st.keep, I.st.base, by simp [I.st.len], ?_, ?_, ?_, I.st.bare, I.st.os, I.st.tab, ⟨I.st.tabFree.1, notIn _ I.st.tabFree.2 (Ne.symm L.nt) (Ne.symm L'.nt)⟩, (let ⟨a0, d0, e0, g0⟩ := I.st.ro; ⟨a0, d0, by rw [List.getElem?_append_left (List.getElem?_eq_some_iff.mp e0).1]; exact e0, g0⟩)⟩,
    I.kind, I.glo, I.bui, I.above, ⟨m, hn, fun x v h => (hm x v h).go pre fun _ _ _ z => z⟩, ⟨I.lp.1, notIn _ I.lp.2.1 (Ne.symm L.nl) (Ne.symm L'.nl), I.lp.2.2⟩, fun c hc => ?_, I.cinj⟩
  · intro n o' a' d' h h2
    rcases last h2 with ⟨h3, hn⟩ | ⟨rfl, rfl, rfl⟩
    · rw [List.getElem?_append_left (by rw [← I.st.len]; exact hn)] at h
      exact (I.st.rep n o' a' d' h h3).mono cx pre
    · rw [I.st.len, List.getElem?_append_right (Nat.le_refl _)] at h
      simp at h; subst h; exact r
  · intro n k a1 d1 a2 d2 h1 h2 hne
    rcases last h1 with ⟨h3, _⟩ | ⟨rfl, rfl, rfl⟩
    · rcases last h2 with ⟨h4, _⟩ | ⟨rfl, rfl, rfl⟩
      · exact I.st.inj _ _ _ _ _ _ h3 h4 hne
      · exact ne h3
    · rcases last h2 with ⟨h4, _⟩ | ⟨rfl, rfl, rfl⟩
      · obtain ⟨x1, x2, x3, x4⟩ := ne h4
        exact ⟨x1.symm, x3.symm, x2.symm, x4.symm⟩
      · exact absurd rfl hne
  · intro b hb o' hp
    rcases hb.append with q | rfl | rfl
    · exact I.st.free b q o' hp
    · exact L.np o' hp
    · exact L'.np o' hp
  · obtain ⟨h1, h2, h3, h4, h5⟩ := I.cp c hc
    exact ⟨h1, notIn c h2 (fun q => L.nc (q ▸ hc)) (fun q => L'.nc (q ▸ hc)), h3, h4, h5⟩
theorem dict_not_tup {h : Heap} {a : Addr} {l : List DictEntry} {k : Nat} (g : h.get? a = some (dictOf l k)) : ∀ us m, h.get? a ≠ some (tupOf us m) := by
  intro us m q; rw [g] at q
  have := congrArg Obj.cls (Option.some.inj q)
  simp [tupOf] at this
/-! dicts with names for keys -/
def KV (cx : Cx) (ρ : Rho) (p : String × V) (q : Str × Value) : Prop := q.1 = Str.ofString p.1 ∧ VR ρ p.2 q.2
theorem ents_pairs : ∀ {es : List (String × V)} {l : List DictEntry}, All2 (EntR cx ρ) es l → ∃ kvs, Pairs (PySem.strKind cx.prog cx.w) l kvs ∧ All2 (KV cx ρ) es kvs
  | _, _, .nil => ⟨[], .nil, .nil⟩
  | _, e :: _, .cons h r => by
    obtain ⟨kvs, h1, h2⟩ := ents_pairs r
    obtain ⟨⟨t, e1⟩, e2, e3⟩ := h
    exact ⟨(_, e.val) :: kvs, .cons (by rw [e1]; exact strKind_is _ _ _ _) rfl h1, .cons ⟨rfl, e3⟩ h2⟩
theorem KV.nodup : ∀ {es : List (String × V)} {kvs : List (Str × Value)}, All2 (KV cx ρ) es kvs → (es.map (·.1)).Nodup → (kvs.map (·.1)).Nodup := by
  intro es kvs h nd
  have : kvs.map (·.1) = (es.map (·.1)).map Str.ofString := by
    induction h with
    | nil => rfl
    | cons h _ ih => rw [List.map_cons, List.map_cons, List.map_cons, ih (List.nodup_cons.mp nd).2, h.1]
  rw [this]
  exact List.Pairwise.map _ (fun a b hab h => hab (ofString_inj h)) nd
theorem pairs_ents : ∀ {l : List DictEntry} {es : List (String × V)} {kvs : List (Str × Value)}, Pairs (PySem.strKind cx.prog cx.w) l kvs → All2 (KV cx ρ) es kvs → (∀ e ∈ l, ∃ k, (PySem.strKind cx.prog cx.w).is k e.key = true ∧ e.hash = (PySem.strKind cx.prog cx.w).hash k) →
    All2 (EntR cx ρ) es l
  | _, _, _, .nil, .nil, _ => .nil
  | e :: _, _, _, .cons h1 h2 r, .cons q r', hk => by
    obtain ⟨k, k1, k2⟩ := hk e List.mem_cons_self
    refine .cons ?_ (pairs_ents r r' fun e he => hk e (List.mem_cons_of_mem _ he))
    have : k = _ := (PySem.strKind cx.prog cx.w).inj _ _ _ k1 h1
    subst this
    obtain ⟨t, ht⟩ := Value.isStrOf_shape k1
    rw [q.1] at ht k2
    exact ⟨⟨t, ht⟩, k2, h2 ▸ q.2⟩
theorem dictOf_is {h : Heap} {a : Addr} {es : List (String × V)} {l : List DictEntry} {n : Nat} (g : h.get? a = some (dictOf l n)) (y : All2 (EntR cx ρ) es l) (nd : (es.map (·.1)).Nodup) :
    ∃ kvs, h.DictOf (PySem.strKind cx.prog cx.w) a kvs ∧ All2 (KV cx ρ) es kvs := by
  obtain ⟨kvs, h1, h2⟩ := ents_pairs y
  obtain ⟨o, es', ep, e1, e2, e3, e4, _⟩ := mapOf_ents (cx := cx) g y
  rw [g] at e1; cases e1
  cases e3
  exact ⟨kvs, ⟨_, l.toArray, n, g, e2, rfl, e4, by simpa using h1, KV.nodup h2 nd⟩, h2⟩
theorem is_dictOf {h : Heap} {a : Addr} {es : List (String × V)} {kvs : List (Str × Value)} (D : h.DictOf (PySem.strKind cx.prog cx.w) a kvs) (y : All2 (KV cx ρ) es kvs) : ∃ l n, h.get? a = some (dictOf l n) ∧ l.length = es.length ∧ All2 (EntR cx ρ) es l := by
  obtain ⟨o, es', ep, e1, ⟨c1, c2, c3⟩, e3, e4, e5, e6⟩ := D
  refine ⟨es'.toList, ep, ?_, by rw [e5.length, y.length], pairs_ents e5 y fun e he => e4 e (by simpa using he)⟩
  rw [e1]
  obtain ⟨c, dd, da, sl⟩ := o
  dsimp only at c1 c2 c3 e3
  subst c1 c2 c3 e3
  rfl
theorem SE_dgetd (T : CxTop cx) {e dv : E} {x : String} (h1 : SE cx cf d e) (h2 : SE cx cf d dv) : SE cx cf d (.dgetd e x dv) := by
  intro pe f hc P ℓ ρ σ s A v σ' he I R Q Ex k
  unfold chkE at hc
  split at hc
  case h_2 => cases hc
  rename_i p id ap xs kk pp q cp
  simp only [Bool.and_eq_true, beq_iff_eq] at hc
  obtain ⟨⟨⟨⟨⟨hp, hc1⟩, rfl⟩, rfl⟩, hc2⟩, hn⟩ := hc
  simp only [evalE, Option.bind_eq_bind, Option.bind_eq_some_iff, Option.some.injEq, Prod.mk.injEq] at he
  obtain ⟨⟨v1, σ1⟩, he1, ⟨n0, es0⟩, he0, ⟨w, σ2⟩, he2, ⟨n, es⟩, he3, rfl, rfl⟩ := he
  obtain ⟨rfl, hσ0⟩ := getDict_some he0
  obtain ⟨hh, hσ⟩ := getDict_some he3
  cases hh
  have sq : starEach [q] f.env = (false, eval q f.env) :: starEach [] f.env := starEach_cons hc2
  have st : starEach [.Constant (.str (Str.ofString x)) kk pp, q] f.env = (false, eval (.Constant (.str (Str.ofString x)) kk pp) f.env) :: (false, eval q f.env) :: starEach [] f.env := by rw [← sq]; rfl
  refine MethodCall_ (h1 _ f hc1 he1 I R fun s1 ρ1 w1 I1 r1 q1 => ?_) (arm_method hn (beq_iff_eq.mpr hp) (by rw [st]; rfl) (by simp))
  obtain ⟨a, l, k1, rfl, e1, g, z, y, nd⟩ := I1.st.dictAt hσ0 q1
  refine dict_method g F.slot_dict_get F.type_dict_get (PySem.Calls.callWith_builtin (by rw [st]; rfl) ?_)
  have hev : ∀ {Q Ex}, (∀ s' ρ' ww t, FInv cx P f ℓ ρ' σ2 s' → ρ1 <+: ρ' → VR ρ' w ww → Q [.str (Str.ofString x) t, ww] s') → wpAny (Md cx) A (spliced (backTo cp (starEach [.Constant (.str (Str.ofString x)) kk pp, q] f.env))) Q Ex s1 := by
    intro Q Ex k
    refine wpAny_items_cons (Constant_str (wpAny_items_cons (h2 _ f hc2 he2 (I1.toks _) R fun s2 ρ2 ww I2 r2 q2 => wpAny_items_nil (k _ ρ2 ww _ I2 r2 q2)) sq)) rfl
  rw [st] at hev ⊢
  refine evalArgs_plain (hev fun s2 ρ2 ww t I2 r2 q2 => ?_)
  obtain ⟨a', l2, k2, ea, e2, g2, z2, y2, nd2⟩ := I2.st.dictAt hσ (q1.mono r2)
  cases ea
  have hm := mapOf_ents g2 y2
  refine call_meetsIn F.slot_dict_get hm.typeIs F.entry_dict_get (F.args_dict_get_3 _ _ _) (meets_dict_get_default (PySem.strKind cx.prog cx.w) a (strKind_is _ _ _ t) (beq_eq_false_iff_ne.mpr nd2.2) ww) ⟨_, hm, ?_⟩
  refine k _ ρ2 _ (I2.toks _) (r1.trans r2) ?_
  obtain ⟨f1, f2⟩ := findBy_ents y2 x
  cases hl : es.lookup x with
  | none => rw [f2 hl]; exact q2
  | some u => obtain ⟨uw, hu, qu⟩ := f1 u hl; rw [hu]; exact qu
theorem SE_tdict : SE cx cf d .tdict := by
  intro pe f hc P ℓ ρ σ s A v σ' he I R Q Ex k
  unfold chkE at hc
  split at hc
  case h_2 => cases hc
  simp only [evalE, Option.some.injEq, Prod.mk.injEq] at he
  obtain ⟨rfl, rfl⟩ := he
  exact wpAny_Dict_empty (k _ _ _ (I.push rfl fun ρ' h' r e => ⟨rfl, [], 0, e, .nil, List.nodup_nil, I.st.sizeNe⟩) (List.prefix_append _ _) (new_ref I.st.len))
end
section
variable (cx : Cx) (cf : CallF) (d : Nat)
def PairR (ρ : Rho) (p : String × V) (q : Value × Value) : Prop := (∃ t, q.1 = .str (Str.ofString p.1) t) ∧ VR ρ p.2 q.2
def SKV (e : E) : Prop := ∀ (ks : List (Option Expr)) (ps : List Expr) (f : Frm), chkKV f.env.scope.names e ks ps = true → ∀ {P ℓ ρ σ s A vs σ'}, evalKV cf e ℓ σ = some (vs, σ') → FInv cx P f ℓ ρ σ s → Room A d →
  ∀ (pos : Pos) {Q : List (Value × Value) → Shared → Prop} {Ex : Value → Shared → Prop}, (∀ s' ρ' ws, FInv cx P f ℓ ρ' σ' s' → ρ <+: ρ' → All2 (PairR ρ') vs ws → Q ws s') → wpAny (Md cx) A (evalPairs (pairTrees ks ps f.env pos)) Q Ex s
end
section
variable {cx : Cx} {cf : CallF} {d : Nat} {P : Kept} {f : Frm} {ℓ : Loc} {ρ : Rho} {σ : St} {s s' : Shared}
theorem SKV_nil : SKV cx cf d .nil := by
  intro ks ps f hc P ℓ ρ σ s A vs σ' he I R pos Q Ex k
  unfold chkKV at hc
  split at hc
  · simp only [evalKV, Option.some.injEq, Prod.mk.injEq] at he
    obtain ⟨rfl, rfl⟩ := he
    exact pairTrees_nil_walk (k s ρ [] I (List.prefix_refl _) .nil)
  · rename_i h; cases h
  · cases hc
theorem SKV_kv {x : String} {e es : E} (h1 : SE cx cf d e) (h2 : SKV cx cf d es) : SKV cx cf d (.kv x e es) := by
  intro ks ps f hc P ℓ ρ σ s A vs σ' he I R pos Q Ex k
  unfold chkKV at hc
  split at hc
  · rename_i h; cases h
  · rename_i h; cases h
    simp only [Bool.and_eq_true, beq_iff_eq] at hc
    obtain ⟨⟨rfl, hc1⟩, hc2⟩ := hc
    simp only [evalKV, Option.bind_eq_bind, Option.bind_eq_some_iff, Option.some.injEq, Prod.mk.injEq] at he
    obtain ⟨⟨v, σ1⟩, he1, ⟨ws, σ2⟩, he2, rfl, rfl⟩ := he
    refine pairTrees_cons_walk (Constant_str (h1 _ f hc1 he1 (I.toks _) R fun s1 ρ1 w I1 r1 q1 => ?_))
    refine h2 _ _ f hc2 he2 I1 R pos fun s2 ρ2 us I2 r2 q2 => ?_
    exact k s2 ρ2 _ I2 (r1.trans r2) (.cons ⟨⟨_, rfl⟩, q1.mono r2⟩ q2)
  · cases hc
theorem chkKV_shape {ns : Nms} {e : E} : ∀ {ks : List (Option Expr)} {ps : List Expr}, chkKV ns e ks ps = true → ks.all (·.isSome) = true ∧ ks.length = ps.length ∧ (notNil e = true → ks ≠ []) := by
  induction e with
  | kv k e es _ ih =>
    intro ks ps h
    unfold chkKV at h
    split at h
    · contradiction
    · rename_i hh; cases hh
      simp only [Bool.and_eq_true] at h
      obtain ⟨a, b, _⟩ := ih h.2
      exact ⟨by simpa using a, by simpa using b, fun _ => by simp⟩
    · cases h
  | nil =>
    intro ks ps h
    unfold chkKV at h
    split at h
    · exact ⟨rfl, rfl, fun h => by cases h⟩
    · contradiction
    · cases h
  | _ =>
    intro ks ps h
    unfold chkKV at h
    first | cases h | (split at h <;> first | contradiction | cases h)
theorem evalKV_names {e : E} : ∀ {σ σ' : St} {vs : List (String × V)}, evalKV cf e ℓ σ = some (vs, σ') → vs.map (·.1) = kvNames e := by
  induction e with
  | kv k e es _ ih =>
    intro σ σ' vs h
    simp only [evalKV, Option.bind_eq_bind, Option.bind_eq_some_iff, Option.some.injEq, Prod.mk.injEq] at h
    obtain ⟨⟨v, σ1⟩, he1, ⟨ws, σ2⟩, he2, rfl, rfl⟩ := h
    rw [List.map_cons, ih he2]; rfl
  | nil => intro σ σ' vs h; simp only [evalKV, Option.some.injEq, Prod.mk.injEq] at h; rw [← h.1]; rfl
  | _ => intro σ σ' vs h; simp [evalKV] at h
theorem chkKV_len {ns : Nms} {e : E} : ∀ {ks : List (Option Expr)} {ps : List Expr}, chkKV ns e ks ps = true → (kvNames e).length = ps.length := by
  induction e with
  | kv k e es _ ih =>
    intro ks ps h
    unfold chkKV at h
    split at h
    · contradiction
    · rename_i hh; cases hh
      simp only [Bool.and_eq_true] at h
      simp [kvNames, ih h.2]
    · cases h
  | nil =>
    intro ks ps h
    unfold chkKV at h
    split at h
    · rfl
    · contradiction
    · cases h
  | _ =>
    intro ks ps h
    unfold chkKV at h
    first | cases h | (split at h <;> first | contradiction | cases h)
theorem pairs_carry : ∀ {vs : List (String × V)} {ws : List (Value × Value)}, All2 (PairR ρ) vs ws → ∃ kvs, Carries (PySem.strKind cx.prog cx.w) ws kvs ∧ All2 (KV cx ρ) vs kvs
  | _, _, .nil => ⟨[], trivial, .nil⟩
  | _, (a, b) :: _, .cons h r => by
    obtain ⟨kvs, h1, h2⟩ := pairs_carry r
    obtain ⟨⟨t, e1⟩, e2⟩ := h
    exact ⟨(_, b) :: kvs, ⟨by dsimp only at e1; rw [e1]; exact strKind_is _ _ _ _, rfl, h1⟩, .cons ⟨rfl, e2⟩ h2⟩
theorem SE_dict {es : E} (h : SKV cx cf d es) : SE cx cf d (.dict es) := by
  intro pe f hc P ℓ ρ σ s A v σ' he I R Q Ex k
  unfold chkE at hc
  split at hc
  case h_2 => cases hc
  rename_i ks ps pos
  simp only [Bool.and_eq_true, decide_eq_true_eq] at hc
  obtain ⟨⟨⟨hc1, hc2⟩, hc3⟩, hc4⟩ := hc
  simp only [evalE, Option.bind_eq_bind, Option.bind_eq_some_iff, Option.some.injEq, Prod.mk.injEq] at he
  obtain ⟨⟨vs, σ1⟩, he1, rfl, rfl⟩ := he
  obtain ⟨a1, a2, a3⟩ := chkKV_shape hc1
  have I0 : FInv cx P f ℓ ρ σ { s with heap := s.heap.push { cls := .type "dict", data := .dict #[] } } := I.grow' (fun b o e => Heap.get?_push_of_some _ e) I.st.bare rfl
  have L0 := I.loose_new (fresh_none s.heap)
  have IH := I0.hold (Stand.one L0 (Heap.get?_push_size _ rfl))
  refine wpAny_Dict_walk (knd := PySem.strKind cx.prog cx.w) a1 a2 (a3 hc3) (by rw [a2]; exact hc2) (h ks ps f hc1 he1 IH R pos fun s1 ρ1 ws I1 r1 q1 => ?_)
  obtain ⟨I2, S2⟩ := I1.drop I.st.base (fun p hp => by rw [List.mem_singleton] at hp; subst hp; exact L0.np) (fun p hp v => by rw [List.mem_singleton] at hp; subst hp; simp)
  obtain ⟨L2, g2⟩ := S2 _ List.mem_cons_self
  dsimp only at L2 g2
  obtain ⟨kvs, c1, c2⟩ := pairs_carry (cx := cx) q1
  have nd : (vs.map (·.1)).Nodup := by rw [evalKV_names he1]; exact hc4
  refine ⟨kvs, c1, ⟨_, #[], 0, g2, ⟨rfl, rfl, rfl⟩, rfl, fun _ he => by simp at he, .nil, List.nodup_nil⟩, fun h' D S => ?_⟩
  rw [merged_nil_of_nodup _ (KV.nodup c2 nd)] at D
  have I3 : FInv cx P f ℓ ρ1 σ1 { s1 with heap := h', toks := s1.toks + ws.length } := I2.growAt L2 (dict_not_tup (l := []) g2) (fun b o hb e => (S.2 b hb).trans e) I2.st.bare rfl
  obtain ⟨l, n, g3, hl, y⟩ := is_dictOf D c2
  refine k _ _ _ (I3.adopt L2 L2 ⟨rfl, l, n, g3, ?_, y.mono fun _ _ => EntR.mono cx (List.prefix_append _ _), nd, I.st.sizeNe⟩) (r1.trans (List.prefix_append _ _)) (new_ref I3.st.len)
  have : vs.length = ps.length := by rw [← chkKV_len hc1, ← evalKV_names he1, List.length_map]
  omega
/-! list(range(n)) -/
theorem SE_listRng (T : CxTop cx) {e : E} (h1 : SE cx cf d e) : SE cx cf d (.listRng e) := by
  intro pe f hc P ℓ ρ σ s A v σ' he I R Q Ex k
  unfold chkE at hc
  split at hc
  case h_2 => cases hc
  rename_i id p1 id2 p2 p p3 p4
  simp only [Bool.and_eq_true] at hc
  obtain ⟨⟨⟨⟨a1, a2⟩, a3⟩, a4⟩, hc1⟩ := hc
  simp only [evalE, Option.bind_eq_bind, Option.bind_eq_some_iff] at he
  obtain ⟨⟨v1, σ1⟩, he1, n, hn, he2⟩ := he
  dsimp only at hn
  rw [asInt_some hn] at he1
  split at he2 <;> cases he2
  rename_i hh
  have hL := hh.2
  rw [LIM_small] at hL
  have sp : starEach [p] f.env = (false, eval p f.env) :: starEach [] f.env := starEach_cons hc1
  refine Call_ (I.glob T T.bList a1 a2 (PySem.callWith_type rfl (evalArgs_plain (wpAny_items_cons (Call_ (I.glob T T.bRange a3 a4 (PySem.callWith_type (by rw [sp]; rfl) ?_))) rfl))))
  have hev : ∀ {Q Ex}, (∀ s' ρ' ws, FInv cx P f ℓ ρ' σ1 s' → ρ <+: ρ' → VR ρ' (.int n) ws → Q [ws] s') → wpAny (Md cx) A (spliced (backTo p3 (starEach [p] f.env))) Q Ex s := by
    intro Q Ex k
    exact wpAny_items_cons (h1 _ f hc1 he1 I R fun s2 ρ2 ww I2 r2 q2 => wpAny_items_nil (k _ ρ2 ww I2 r2 q2)) sp
  rw [sp] at hev ⊢
  refine evalArgs_plain (hev fun s2 ρ2 ww I2 r2 q2 => ?_)
  obtain ⟨t, rfl⟩ := q2
  refine call_range_1 (wpAny_items_nil ?_)
  have I3 : FInv cx P f ℓ ρ2 σ1 { s2 with heap := s2.heap.push { cls := .type "range", data := .fields #[.int 0 s2.toks, .int n t, .int 1 (s2.toks + 1)] }, toks := s2.toks + 1 + 1 } :=
    I2.grow' (fun b o e => Heap.get?_push_of_some _ e) I2.st.bare rfl
  have hsz : Builtin.Range.rangeSize 0 n 1 = (n.toNat : Nat) := by rw [rangeSize_one]; split <;> omega
  refine call_list_range (s := { s2 with heap := s2.heap.push { cls := .type "range", data := .fields #[.int 0 s2.toks, .int n t, .int 1 (s2.toks + 1)] }, toks := s2.toks + 1 + 1 }) R.han (IsRange.new _ _ _ _ _ _ _) (small_one (by omega) (by omega) (by omega) (by omega)) hsz ?_ fun h' tk acc c' k1 k2 k3 => ?_
  · omega
  · refine k _ _ _ (I3.add (s' := { s2 with heap := h', toks := tk }) (a := (s2.heap.push { cls := .type "range", data := .fields #[.int 0 s2.toks, .int n t, .int 1 (s2.toks + 1)] }).objs.size) (d := (s2.heap.push { cls := .type "range", data := .fields #[.int 0 s2.toks, .int n t, .int 1 (s2.toks + 1)] }).objs.size) (fun b o _ e => k1 b o e) (fun m n => n.keeps k1) (fresh_none _) (fresh_none _)
      ⟨rfl, ?_, acc, c', k2, ?_⟩ I2.st.bare rfl) (r2.trans (List.prefix_append _ _)) (new_ref I2.st.len)
    · simp [LIM_small]; omega
    · refine All2.of_get (by simp [k3.1]) fun i a b ha hb => ?_
      rw [List.getElem?_map, Option.map_eq_some_iff] at ha
      obtain ⟨j, hj, rfl⟩ := ha
      have : j = i := by
        have h := (List.getElem?_eq_some_iff.mp hj)
        obtain ⟨h1, h2⟩ := h
        rw [List.getElem_range] at h2; exact h2.symm
      subst this
      obtain ⟨t, rfl⟩ := k3.2 j b (by rw [← Array.getElem?_toList]; exact hb)
      exact ⟨t, by simp⟩
end
end Mine
end

/-! Sound9 -/
section
open PySem PySem.W PySem.Calls PyProof.Rows
set_option linter.unusedVariables false
namespace Mine
section
variable {cx : Cx} {cf : CallF} {d : Nat} {P : Kept} {f : Frm} {ℓ : Loc} {ρ : Rho} {σ : St} {s s' : Shared}
theorem FInv.hp (I : FInv cx P f ℓ ρ σ s) : (f.env.scope.kind == .class || (f.env.scope.kind == .module && f.env.locals != f.env.globals)) = false := by rw [I.kind]; rfl
theorem Loc.set_same (ℓ : Loc) (x : String) (v : V) : ℓ.set x v x = some v := by simp [Loc.set]
theorem Loc.set_ne (ℓ : Loc) {x y : String} (v : V) (h : y ≠ x) : ℓ.set x v y = ℓ y := by simp [Loc.set, h]
/-- a name that this frame may store -/
def OwnAt (f : Frm) (x : String) : Prop := f.env.kindOf (Str.ofString x) = some .local ∨ (f.env.kindOf (Str.ofString x) = some .cell ∧ ∃ c, f.env.cells.lookup (Str.ofString x) = some c ∧ c ∈ f.oc)
structure Own (cx : Cx) (f : Frm) : Prop where
  own : ∀ n, f.env.kindOf n = some .cell → ∃ c, f.env.cells.lookup n = some c ∧ c ∈ f.oc
  code : f.env.scope.names.lookup (Str.ofString "maximum") = some .local → f.env.code = .ref cx.tcode
theorem isOwn_kind {x : String} (h : isOwn f.env.scope.names x = true) : f.env.kindOf (Str.ofString x) = some .local ∨ f.env.kindOf (Str.ofString x) = some .cell := by
  unfold isOwn at h
  rw [kindOf_lookup]
  split at h
  · exact .inl (by assumption)
  · exact .inr (by assumption)
  · cases h
theorem Own.at {x : String} (O : Own cx f) (h : isOwn f.env.scope.names x = true) : OwnAt f x := (isOwn_kind h).imp id fun k => ⟨k, O.own _ k⟩
theorem FInv.store (I : FInv cx P f ℓ ρ σ s) {x : String} {v : V} {w : Value} (ho : OwnAt f x) (q : VR ρ v w) {A Q Ex} (k : ∀ s', FInv cx P f (ℓ.set x v) ρ σ s' → Q () s') :
    wpAny (Md cx) A (storeName f.env (Str.ofString x) w) Q Ex s := by
  obtain ⟨m, hn, hm⟩ := I.names
  rcases ho with hk | ⟨hk, c, hc, hco⟩
  · refine wpAny_storeName_local hk hn (fun h' hn' hs => k _ ?_) I.hp
    have kc : ∀ c w, (c ∈ f.oc ∨ ∃ o, P c o) → s.heap.IsCell c w → h'.IsCell c w := fun c w q ⟨o, e, g⟩ =>
      ⟨o, (hs.2 c fun z => q.elim (fun q => (I.cp c q).2.2.2.1 z) fun ⟨o, q⟩ => I.lp.1 o (z ▸ q)).trans e, g⟩
    refine ⟨I.st.grow (s' := { s with heap := h', toks := s.toks + 1 }) I.apartL (fun b o hx e => (hs.2 b hx).trans e) I.st.bare rfl, I.kind, I.glo, I.bui, I.above, ⟨_, hn', fun y u e => ?_⟩, I.lp,
      fun c hc => let ⟨a, b, d, e, v, g⟩ := I.cp c hc; ⟨a, b, d, e, v, kc c v (.inl hc) g⟩, I.cinj⟩
    by_cases hxy : y = x
    · subst hxy
      rw [Loc.set_same] at e; cases e
      unfold NameIs; rw [hk]; exact ⟨w, by simp, q⟩
    · rw [Loc.set_ne _ _ hxy] at e
      have := (hm y u e).go (List.prefix_refl _) kc
      have hne : Str.ofString y ≠ Str.ofString x := fun z => hxy (ofString_inj z)
      unfold NameIs at this ⊢
      split at this
      · obtain ⟨w', h1, h2⟩ := this; exact ⟨w', by dsimp only; rw [if_neg hne]; exact h1, h2⟩
      · exact this
      · exact this
      · exact this.elim
  · obtain ⟨c1, c2, c3, c4, v0, c5⟩ := I.cp c hco
    refine wpAny_storeName_cell I.kind hk hc c5 (fun h' hv' hs => k _ ?_)
    have hX : Apart cx P ρ (fun b => b = c) s.heap := by rintro b rfl; exact ⟨c1, c2, c3, cell_not_tup c5⟩
    have kc : ∀ b w, b ≠ c → s.heap.IsCell b w → h'.IsCell b w := fun b w hb ⟨o, e, g⟩ => ⟨o, (hs.2 b hb).trans e, g⟩
    refine ⟨I.st.grow (s' := { s with heap := h' }) hX (fun b o hx e => (hs.2 b hx).trans e) I.st.bare rfl, I.kind, I.glo, I.bui, I.above, ⟨m, hn.sameBut hs (Ne.symm c4), fun y u e => ?_⟩, I.lp,
      fun b hb => let ⟨a, e, d, e', v, g⟩ := I.cp b hb; ⟨a, e, d, e', ?_⟩, I.cinj⟩
    · by_cases hxy : y = x
      · subst hxy
        rw [Loc.set_same] at e; cases e
        unfold NameIs; rw [hk]; exact ⟨c, w, hc, hv', q, .inl hco⟩
      · rw [Loc.set_ne _ _ hxy] at e
        have := hm y u e
        have hne : ∀ b, f.env.cells.lookup (Str.ofString y) = some b → b ≠ c := fun b hb z => hxy (ofString_inj (I.cinj.inj _ _ c (z ▸ hb) hc))
        unfold NameIs at this ⊢
        split at this
        · exact this
        · obtain ⟨b, w', h1, h2, h3, h4⟩ := this; exact ⟨b, w', h1, kc b _ (hne b h1) h2, h3, h4⟩
        · obtain ⟨b, w', h1, h2, h3, h4⟩ := this; exact ⟨b, w', h1, kc b _ (hne b h1) h2, h3, h4⟩
        · exact this.elim
    · by_cases hb' : b = c
      · subst hb'; exact ⟨_, hv'⟩
      · exact ⟨v, kc b v hb' g⟩
theorem FInv.assignName (I : FInv cx P f ℓ ρ σ s) {x : String} {id : Str} {pos : Pos} {v : V} {w : Value} (ok : okName id x = true) (ho : OwnAt f x) (q : VR ρ v w) {A Q Ex} (k : ∀ s', FInv cx P f (ℓ.set x v) ρ σ s' → Q () s') :
    wpAny (Md cx) A (assign (.Name id pos) f.env w) Q Ex s := by
  obtain ⟨rfl, _, _⟩ := okName_eq ok
  exact wpAny_assign_Name (I.store ho q k)
theorem chkTgt_one {ns : Nms} {x : String} {tg : Expr} (h : chkTgt ns (.one x) tg = true) : ∃ id pos, tg = .Name id pos ∧ okName id x = true ∧ isOwn ns x = true := by
  unfold chkTgt at h
  split at h
  · rename_i hh; cases hh; rw [Bool.and_eq_true] at h; exact ⟨_, _, rfl, h.1, h.2⟩
  · rename_i hh; cases hh
  · cases h
theorem chkTgt_many {ns : Nms} {xs : List String} {tg : Expr} (h : chkTgt ns (.many xs) tg = true) : ∃ x y i j pi pj q pos, xs = [x, y] ∧ x ≠ y ∧ tg = .Tuple [.Name i pi, .Name j pj] q pos ∧ okName i x = true ∧ isOwn ns x = true ∧ okName j y = true ∧ isOwn ns y = true := by
  unfold chkTgt at h
  split at h
  · rename_i hh; cases hh
  · rename_i hh; cases hh
    rename_i es q pos
    simp only [Bool.and_eq_true, beq_iff_eq, decide_eq_true_eq] at h
    obtain ⟨⟨h1, h2⟩, h3⟩ := h
    match xs, h2 with
    | [x, y], _ =>
      unfold chkNames at h1
      split at h1
      · rename_i hh; cases hh
      · rename_i hh; cases hh
        simp only [Bool.and_eq_true] at h1
        obtain ⟨⟨a1, a2⟩, h1⟩ := h1
        unfold chkNames at h1
        split at h1
        · rename_i hh; cases hh
        · rename_i hh; cases hh
          simp only [Bool.and_eq_true] at h1
          obtain ⟨⟨b1, b2⟩, h1⟩ := h1
          unfold chkNames at h1
          split at h1
          · refine ⟨x, y, _, _, _, _, q, pos, rfl, ?_, rfl, a1, a2, b1, b2⟩
            simp at h3; exact h3
          · rename_i hh; cases hh
          · cases h1
        · cases h1
      · cases h1
  · cases h
/-- two names from a tuple -/
theorem FInv.assignTwo (I : FInv cx P f ℓ ρ σ s) {x y : String} {i j : Str} {pi pj pos : Pos} {q} {t : Addr} {v u : V} {w z : Value} (a1 : okName i x = true) (a2 : OwnAt f x) (b1 : okName j y = true) (b2 : OwnAt f y)
    (ht : s.heap.IsTuple t #[w, z]) (qw : VR ρ v w) (qz : VR ρ u z) {A Q Ex} (hh : A.handled = none)
    (k : ∀ s', FInv cx P f ((ℓ.set x v).set y u) ρ σ s' → Q () s') : wpAny (Md cx) A (assign (.Tuple [.Name i pi, .Name j pj] q pos) f.env (.ref t)) Q Ex s := by
  refine wpAny_assign_Tuple hh ht rfl rfl fun h' hx => ?_
  have I1 : FInv cx P f ℓ ρ σ { s with heap := h' } := by
    have k1 : ∀ b o, s.heap.get? b = some o → h'.get? b = some o := fun b o e => hx b o (fun z => by subst z; rw [fresh_none] at e; cases e) e
    exact I.grow' k1 I.st.bare rfl
  show wpAny (Md cx) A (do holding [z] (assign (.Name i pi) f.env w); do holding [] (assign (.Name j pj) f.env z); pure ()) Q Ex _
  exact wpAny_bind (wpAny_holding (I1.assignName a1 a2 qw fun s1 I2 => wpAny_bind (wpAny_holding (I2.assignName b1 b2 qz fun s2 I3 => wpAny_pure (k s2 I3)))))
theorem bindMany_two {x y : String} {vs : List V} {ℓ' : Loc} (h : bindMany ℓ [x, y] vs = some ℓ') : ∃ a b, vs = [a, b] ∧ ℓ' = (ℓ.set x a).set y b := by
  unfold bindMany at h
  split at h
  · rename_i hl
    match vs, hl with
    | [a, b], _ => cases h; exact ⟨a, b, rfl, rfl⟩
  · cases h
def TgtOwn (f : Frm) : Tgt → Prop
  | .one x => OwnAt f x
  | .many xs => ∀ x ∈ xs, OwnAt f x
theorem Own.tgt (O : Own cx f) {t : Tgt} {tg : Expr} (hc : chkTgt f.env.scope.names t tg = true) : TgtOwn f t := by
  cases t with
  | one x => obtain ⟨id, pos, rfl, a, b⟩ := chkTgt_one hc; exact O.at b
  | many xs =>
    obtain ⟨x, y, i, j, pi, pj, qq, pos, rfl, hne, rfl, a1, a2, b1, b2⟩ := chkTgt_many hc
    intro z hz
    simp only [List.mem_cons, List.not_mem_nil, or_false] at hz
    rcases hz with rfl | rfl
    · exact O.at a2
    · exact O.at b2
/-- a target bound -/
theorem FInv.assignTgt (I : FInv cx P f ℓ ρ σ s) {t : Tgt} {tg : Expr} (hc : chkTgt f.env.scope.names t tg = true) (ow : TgtOwn f t) {v : V} {w : Value} (q : VR ρ v w) {ℓ' : Loc} (hb : bindTgt ℓ σ t v = some ℓ') {A Q Ex} (hh : A.handled = none)
    (k : ∀ s', FInv cx P f ℓ' ρ σ s' → Q () s') : wpAny (Md cx) A (assign tg f.env w) Q Ex s := by
  cases t with
  | one x =>
    obtain ⟨id, pos, rfl, a, b⟩ := chkTgt_one hc
    cases hb
    exact I.assignName a ow q k
  | many xs =>
    obtain ⟨x, y, i, j, pi, pj, qq, pos, rfl, hne, rfl, a1, a2, b1, b2⟩ := chkTgt_many hc
    simp only [bindTgt, Option.bind_eq_bind, Option.bind_eq_some_iff] at hb
    obtain ⟨vs, hv, hb⟩ := hb
    obtain ⟨n, rfl, hσ⟩ := getTuple_some hv
    obtain ⟨a, b, rfl, rfl⟩ := bindMany_two hb
    obtain ⟨ad, ws, kk, rfl, e, g, z, _⟩ := I.st.tupAt hσ q
    obtain ⟨w1, w2, e1, q1, q2⟩ := VRs.two z
    have : ws = #[w1, w2] := by rw [← Array.toList_inj, e1]
    subst this
    exact I.assignTwo a1 (ow _ (by simp)) b1 (ow _ (by simp)) ⟨_, g, rfl, kk, rfl⟩ q1 q2 hh k
end
end Mine
end

/-! Sound10 -/
section
open PySem PySem.W PySem.Calls PyProof.Rows
set_option linter.unusedVariables false
namespace Mine
section
variable {cx : Cx} {cf : CallF} {d : Nat} {P : Kept} {f : Frm} {ℓ : Loc} {ρ : Rho} {σ : St} {s s' : Shared}
/-- all stands but loose places -/
theorem FInv.growX (I : FInv cx P f ℓ ρ σ s) {X : Addr → Prop} (L : ∀ a, X a → Loose cx P f ρ a ∧ ∀ ws k, s.heap.get? a ≠ some (tupOf ws k)) (k : ∀ b o, ¬ X b → s.heap.get? b = some o → s'.heap.get? b = some o)
    (hb : AllBare s'.gens) (ho : s'.os = s.os) : FInv cx P f ℓ ρ σ s' := by
  obtain ⟨m, hn, hm⟩ := I.names
  have kc : ∀ c w, (c ∈ f.oc ∨ ∃ o, P c o) → s.heap.IsCell c w → s'.heap.IsCell c w := fun c w q ⟨o, e, g⟩ =>
    ⟨o, k _ _ (fun z => q.elim (fun q => (L c z).1.nc q) fun ⟨o, q⟩ => (L c z).1.np o q) e, g⟩
  have hX : Apart cx P ρ X s.heap := fun b hb => ⟨(L b hb).1.np, (L b hb).1.nr, (L b hb).1.nt, (L b hb).2⟩
  obtain ⟨o1, es1, ep1, h1, h2⟩ := hn
  exact ⟨I.st.grow hX (fun b o hx => k b o hx) hb ho, I.kind, I.glo, I.bui, I.above, ⟨m, ⟨o1, es1, ep1, k _ _ (fun z => (L _ z).1.nl rfl) h1, h2⟩, fun x v e => (hm x v e).go (List.prefix_refl _) kc⟩, I.lp,
    fun c hc => let ⟨a, b, d, e, v, g⟩ := I.cp c hc; ⟨a, b, d, e, v, kc c v (.inl hc) g⟩, I.cinj⟩
theorem Loose.mono {ρ' : Rho} {a : Addr} (L : Loose cx P f ρ a) (h : ¬ inRho ρ' a) : Loose cx P f ρ' a := ⟨L.np, h, L.nt, L.nl, L.nc⟩

/-! iterators -/
def listItObj (o : Obj) (l : Addr) (i : Nat) : Prop := o.cls = .type "list_iterator" ∧ o.data = .fields #[.ref l, .int (i : Nat) 0]
def rangeItObj (x left : Int) : Obj := { cls := .type "range_iterator", dict := none, data := .fields #[rawInt x, rawInt left, rawInt 1], slots := #[] }
def enumObj (e2 : Addr) (i : Int) (old : Value) : Obj := { cls := .type "enumerate", dict := none, data := .fields #[.none, .bool false, .ref e2, rawInt i, .none, old], slots := #[] }
def ItAt (ρ : Rho) (i : Nat) (it : Addr) : Src → List (Addr × Obj) → Prop
  | .list a, L => ∃ ad o, ρ[a]? = some (ad, ad) ∧ L = [(it, o)] ∧ listItObj o ad i
  | .rng lo hi, L => ∃ x left, x = lo + i ∧ left = (hi - lo).toNat - (i : Int) ∧ L = [(it, rangeItObj x left)]
  | .enum a, L => ∃ ad e2 o old, ρ[a]? = some (ad, ad) ∧ it ≠ e2 ∧ L = [(it, enumObj e2 i old), (e2, o)] ∧ listItObj o ad i
  | .zip _ _, _ => False
theorem ItAt.mono {ρ ρ' : Rho} (r : ρ <+: ρ') {i it src L} (h : ItAt ρ i it src L) : ItAt ρ' i it src L := by
  have up : ∀ {a : Nat} {p}, ρ[a]? = some p → ρ'[a]? = some p := fun e => by
    obtain ⟨q, rfl⟩ := r
    rw [List.getElem?_append_left (by simpa using (List.getElem?_eq_some_iff.mp e).1)]; exact e
  cases src with
  | list a => obtain ⟨ad, o, h1, h2⟩ := h; exact ⟨ad, o, up h1, h2⟩
  | rng lo hi => exact h
  | enum a => obtain ⟨ad, e2, o, old, h1, h2⟩ := h; exact ⟨ad, e2, o, old, up h1, h2⟩
  | zip a b => exact h
def PlainObj (o : Obj) : Prop := (∀ v, o.data ≠ .cell v) ∧ ∀ ws k, o ≠ tupOf ws k
theorem plain_fields {o : Obj} {xs : Array Value} (h : o.data = .fields xs) : PlainObj o := ⟨fun v q => (by rw [h] at q; cases q), fun ws k q => (by rw [q] at h; cases h)⟩
theorem not_tup_of {h : Heap} {a : Addr} {o : Obj} (g : h.get? a = some o) (p : PlainObj o) : ∀ us m, h.get? a ≠ some (tupOf us m) := fun us m q => p.2 us m (Option.some.inj (g.symm.trans q))
theorem ItAt.plain {ρ : Rho} {i it src L} (h : ItAt ρ i it src L) : ∀ p ∈ L, PlainObj p.2 := by
  cases src with
  | list a => obtain ⟨ad, o, h1, rfl, h3⟩ := h; intro p hp; rw [List.mem_singleton] at hp; subst hp; exact plain_fields h3.2
  | rng lo hi => obtain ⟨x, l, _, _, rfl⟩ := h; intro p hp; rw [List.mem_singleton] at hp; subst hp; exact plain_fields rfl
  | enum a =>
    obtain ⟨ad, e2, o, old, h1, h2, rfl, h3⟩ := h; intro p hp
    simp only [List.mem_cons, List.not_mem_nil, or_false] at hp
    rcases hp with rfl | rfl
    · exact plain_fields rfl
    · exact plain_fields h3.2
  | zip a b => exact h.elim
theorem FInv.unhold {L : List (Addr × Obj)} (I : FInv cx (Hold P L) f ℓ ρ σ s) (hb : ∀ b o, cx.base.get? b = some o → P b o) (np : ∀ p ∈ L, ∀ o, ¬ P p.1 o) (hp : ∀ p ∈ L, PlainObj p.2) : FInv cx P f ℓ ρ σ s ∧ Stand cx P f ρ s.heap L :=
  I.drop hb np fun p h => (hp p h).1
theorem rng_size {σ : St} {lo hi : Int} {n : Nat} (h : (Src.rng lo hi).size σ = some n) : n = (hi - lo).toNat := by simp only [Src.size, Option.some.injEq] at h; exact h.symm
theorem itemAt_some {σ : St} {a i : Nat} {v : V} (h : itemAt σ a i = some v) : ∃ vs, σ[a]? = some (.list vs) ∧ vs[i]? = some v := by
  unfold itemAt at h
  split at h
  · exact ⟨_, by assumption, h⟩
  · cases h
theorem lenAt_some {σ : St} {a n : Nat} (h : lenAt σ a = some n) : ∃ vs, σ[a]? = some (.list vs) ∧ vs.length = n := by
  unfold lenAt at h
  split at h
  · cases h; exact ⟨_, by assumption, rfl⟩
  · cases h
theorem HInv.listOf (I : HInv cx P ρ σ s) {a : Nat} {vs : List V} (h : σ[a]? = some (.list vs)) {ad : Addr} (e : ρ[a]? = some (ad, ad)) : ∃ ws k, s.heap.get? ad = some (W.listOf ws k) ∧ VRs ρ vs ws.toList ∧ vs.length ≤ LIM := by
  obtain ⟨_, hl, ws, k, g, z⟩ := I.rep a _ ad ad h e
  exact ⟨ws, k, g, z, hl⟩
/-- one turn: draw and bind -/
theorem src_turn (I : FInv cx P f ℓ ρ σ s) {src : Src} {t : Tgt} {tg : Expr} {i n : Nat} {L : List (Addr × Obj)} {it : Addr} (hc : chkTgt f.env.scope.names t tg = true) (ow : TgtOwn f t) (hI : ItAt ρ i it src L) (S : Stand cx P f ρ s.heap L)
    (hn : src.size σ = some n) (hi : i < n) {ℓ' : Loc} (hb : src.bind σ ℓ t i = some ℓ') {A : Around} (hh : A.handled = none) {QN : Shared → Prop} {Q : Unit → Shared → Prop} {E : Value → Shared → Prop}
    (k : ∀ s' L', FInv cx (Hold P L') f ℓ' ρ σ s' → ItAt ρ (i + 1) it src L' → (∀ p ∈ L', ∀ o, ¬ P p.1 o) → Q () s') :
    wpAny (Md cx) A (pyNext (.ref it)) (fun r s1 => match r with
      | none => QN s1
      | some v => wpAny (Md cx) A (letOwnedTupleGo tg (.ref it) v) (fun _ s1' => wpAny (Md cx) A (assign tg f.env v) Q E s1') E s1) E s := by
  cases src with
  | list a =>
    obtain ⟨ad, o, e, rfl, c1, c2⟩ := hI
    obtain ⟨LI, g⟩ := S _ List.mem_cons_self
    dsimp only at LI g
    simp only [Src.bind, Option.bind_eq_bind, Option.bind_eq_some_iff] at hb
    obtain ⟨v, hv, hb⟩ := hb
    obtain ⟨vs, hσ, hvi⟩ := itemAt_some hv
    cases t with
    | many xs => cases hb
    | one x =>
      obtain ⟨id, pos, rfl, ok, _⟩ := chkTgt_one hc
      cases hb
      obtain ⟨ws, kk, gl, z, hL⟩ := I.st.listOf hσ e
      obtain ⟨w, hw, qw⟩ := z.get hvi
      have hit : s.heap.IsListIter it ad i := ⟨o, g, c1, c2⟩
      refine wpAny_pyNext_list_item hit (isListOf gl) (by rw [← Array.getElem?_toList]; exact hw) fun h' hit' hs => ?_
      have I1 : FInv cx P f ℓ ρ σ { s with heap := h' } := I.growAt LI (not_tup_of g (plain_fields c2)) (fun b o hb e => (hs.2 b hb).trans e) I.st.bare rfl
      obtain ⟨o', g', c1', c2'⟩ := hit'
      refine wpAny_of_eq (a := ()) rfl ((I1.hold (Stand.one LI g')).assignName ok ow qw fun s2 I2 => ?_)
      exact k s2 _ I2 ⟨ad, o', e, rfl, c1', c2'⟩ fun p hp => by rw [List.mem_singleton] at hp; subst hp; exact LI.np
  | rng lo hi' =>
    obtain ⟨x0, left, rfl, rfl, rfl⟩ := hI
    obtain ⟨LI, g⟩ := S _ List.mem_cons_self
    dsimp only at LI g
    have hsz := rng_size hn
    cases t with
    | many xs => cases hb
    | one x =>
      obtain ⟨id, pos, rfl, ok, _⟩ := chkTgt_one hc
      simp only [Src.bind, Option.some.injEq] at hb
      subst hb
      refine wpAny_pyNext_range_item (step := 1) g (by omega) fun h' g' hs => ?_
      have I1 : FInv cx P f ℓ ρ σ { s with heap := h', toks := s.toks + 1 } := I.growAt LI (not_tup_of g (plain_fields rfl)) (fun b o hb e => (hs.2 b hb).trans e) I.st.bare rfl
      refine wpAny_of_eq (a := ()) rfl ((I1.hold (Stand.one LI g')).assignName (v := .int (lo + i)) ok ow ⟨_, rfl⟩ fun s2 I2 => ?_)
      exact k s2 _ I2 ⟨_, _, by push_cast; omega, by push_cast; omega, rfl⟩ fun p hp => by rw [List.mem_singleton] at hp; subst hp; exact LI.np
  | enum a =>
    obtain ⟨ad, e2, o, old, e, hne, rfl, c1, c2⟩ := hI
    obtain ⟨LI, g⟩ := S _ List.mem_cons_self
    obtain ⟨LI2, g2⟩ := S (e2, o) (by simp)
    dsimp only at LI g LI2 g2
    simp only [Src.bind, Option.bind_eq_bind, Option.bind_eq_some_iff] at hb
    obtain ⟨v, hv, hb⟩ := hb
    obtain ⟨vs, hσ, hvi⟩ := itemAt_some hv
    cases t with
    | one x => cases hb
    | many xs =>
      obtain ⟨x, y, i1, j1, pi, pj, qq, pos, rfl, hxy, rfl, a1, a2, b1, b2⟩ := chkTgt_many hc
      obtain ⟨va, vb, hvv, rfl⟩ := bindMany_two hb
      cases hvv
      obtain ⟨ws, kk, gl, z, hL⟩ := I.st.listOf hσ e
      obtain ⟨w, hw, qw⟩ := z.get hvi
      have hit : s.heap.IsListIter e2 ad i := ⟨o, g2, c1, c2⟩
      refine wpAny_pyNext_enum_item g hit (isListOf gl) (by rw [← Array.getElem?_toList]; exact hw) hne fun h' g' hit' ht hz hk => ?_
      obtain ⟨o', go', c1', c2'⟩ := hit'
      refine wpAny_letOwnedTupleGo_enum g' fun h2 g3 hs => ?_
      replace hs : Heap.SameBut it h' h2 := hs
      have lt1 : it < s.heap.objs.size := Heap.lt_size g
      have I1 : FInv cx P f ℓ ρ σ { s with heap := h2, toks := s.toks + 1 } := I.growX (X := fun b => b = it ∨ b = e2)
        (fun b hb => by
          rcases hb with rfl | rfl
          · exact ⟨LI, not_tup_of g (plain_fields rfl)⟩
          · exact ⟨LI2, not_tup_of g2 (plain_fields c2)⟩)
        (fun b o hb q => (hs.2 b fun z => hb (.inl z)).trans (hk b o (fun z => hb (.inl z)) (fun z => hb (.inr z)) q)) I.st.bare rfl
      have S1 : Stand cx P f ρ h2 [(it, enumObj e2 ((i + 1 : Nat) : Int) w), (e2, o')] := by
        intro p hp
        simp only [List.mem_cons, List.not_mem_nil, or_false] at hp
        rcases hp with rfl | rfl
        · exact ⟨LI, g3⟩
        · exact ⟨LI2, (hs.2 e2 (Ne.symm hne)).trans go'⟩
      have ht2 : h2.IsTuple s.heap.objs.size #[.int i s.toks, w] := ⟨_, (hs.2 _ (Nat.ne_of_gt lt1)).trans ht, rfl, _, rfl⟩
      refine (I1.hold S1).assignTwo (v := .int i) a1 (ow _ (by simp)) b1 (ow _ (by simp)) ht2 ⟨_, rfl⟩ qw hh fun s2 I2 => ?_
      exact k s2 _ I2 ⟨ad, e2, o', w, e, hne, rfl, c1', c2'⟩ fun p hp => (S1 p hp).1.np
  | zip a b => exact hI.elim
/-- the end of a source -/
theorem src_end (I : FInv cx P f ℓ ρ σ s) {src : Src} {n : Nat} {L : List (Addr × Obj)} {it : Addr} (hI : ItAt ρ n it src L) (S : Stand cx P f ρ s.heap L)
    (hn : src.size σ = some n) {A : Around} (hh : A.handled = none) {QN : Shared → Prop} {QS : Value → Shared → Prop} {E : Value → Shared → Prop}
    (k : ∀ s', FInv cx P f ℓ ρ σ s' → QN s') :
    wpAny (Md cx) A (pyNext (.ref it)) (fun r s1 => match r with
      | none => QN s1
      | some v => QS v s1) E s := by
  cases src with
  | list a =>
    obtain ⟨ad, o, e, rfl, c1, c2⟩ := hI
    obtain ⟨LI, g⟩ := S _ List.mem_cons_self
    dsimp only at LI g
    obtain ⟨vs, hσ, hl⟩ := lenAt_some hn
    obtain ⟨ws, kk, gl, z, hL⟩ := I.st.listOf hσ e
    have hsz : ws.size = n := by rw [← hl, z.length]; simp
    refine wpAny_pyNext_list_end hh ⟨o, g, c1, c2⟩ (isListOf gl) (by simp [hsz]) fun h' hx => k _ ?_
    exact I.growAt LI (not_tup_of g (plain_fields c2)) (fun b o hb e => hx b o hb e) I.st.bare rfl
  | rng lo hi' =>
    obtain ⟨x0, left, rfl, rfl, rfl⟩ := hI
    obtain ⟨LI, g⟩ := S _ List.mem_cons_self
    dsimp only at LI g
    have hsz := rng_size hn
    refine wpAny_pyNext_range_end (step := 1) hh g (by omega) fun h' hx => k _ ?_
    exact I.growAt LI (not_tup_of g (plain_fields rfl)) (fun b o hb e => hx b o hb e) I.st.bare rfl
  | enum a =>
    obtain ⟨ad, e2, o, old, e, hne, rfl, c1, c2⟩ := hI
    obtain ⟨LI, g⟩ := S _ List.mem_cons_self
    obtain ⟨LI2, g2⟩ := S (e2, o) (by simp)
    dsimp only at LI g LI2 g2
    obtain ⟨vs, hσ, hl⟩ := lenAt_some hn
    obtain ⟨ws, kk, gl, z, hL⟩ := I.st.listOf hσ e
    have hsz : ws.size = n := by rw [← hl, z.length]; simp
    refine wpAny_pyNext_enum_end hh g ⟨o, g2, c1, c2⟩ (isListOf gl) (by simp [hsz]) fun h' hx => k _ ?_
    exact I.growAt LI2 (not_tup_of g2 (plain_fields c2)) (fun b o hb e => hx b o hb e) I.st.bare rfl
  | zip a b => exact hI.elim
end
end Mine
end

/-! Sound11 -/
section
open PySem PySem.W PySem.Calls PyProof.Rows
set_option linter.unusedVariables false
namespace Mine
/-! sources -/
section
variable (cx : Cx) (cf : CallF) (d : Nat)
def SSrc (e : E) : Prop := ∀ (p : Expr) (f : Frm), chkSrc f.env.scope.names e p = true → ∀ {P ℓ ρ σ s A src σ' n}, evalSrc cf e ℓ σ = some (src, σ') → src.size σ' = some n → FInv cx P f ℓ ρ σ s → Room A d →
  ∀ {Q : Value → Shared → Prop} {Ex : Value → Shared → Prop}, (∀ s' ρ' it L, FInv cx P f ℓ ρ' σ' s' → ρ <+: ρ' → ItAt ρ' 0 it src L → Stand cx P f ρ' s'.heap L → Q (.ref it) s') →
    wpAny (Md cx) A (eval p f.env) (fun x s1 => wpAny (Md cx) A (pyIter x) Q Ex s1) Ex s
def SC (e : E) : Prop := ∀ (ifs : List Expr) (f : Frm), chkIf f.env.scope.names e ifs = true → ∀ {P ℓ ρ σ s A b σ'}, evalC cf e ℓ σ = some (b, σ') → FInv cx P f ℓ ρ σ s → Room A d →
  ∀ {Q : Bool → Shared → Prop} {Ex : Value → Shared → Prop}, (∀ s' ρ', FInv cx P f ℓ ρ' σ' s' → ρ <+: ρ' → Q b s') →
    wpAny (Md cx) A (forIn ifs true fun c r => if r = true then do let ok ← PySem.isTrue c f.env (eval c f.env); pure (ForInStep.yield ok) else pure (ForInStep.yield r)) Q Ex s
end
section
variable {cx : Cx} {cf : CallF} {d : Nat} {P : Kept} {f : Frm} {ℓ : Loc} {ρ : Rho} {σ : St} {s s' : Shared}
theorem chkSrc_one {ns : Nms} {a b : E} {p : Expr} (h : chkSrc ns (.rng a b true) p = true) :
    ∃ id p1 q pos, p = .Call (.Name id p1) [q] [] pos ∧ okName id "range" = true ∧ isGlob ns "range" = true ∧ a = .int 0 ∧ chkE ns b q = true := by
  replace h : rngChk ns true a (fun q => chkE ns a q) (fun q => chkE ns b q) p = true := h
  unfold rngChk at h
  split at h
  case h_1 =>
    simp only [Bool.and_eq_true] at h
    obtain ⟨⟨⟨c1, c2⟩, c3⟩, c4⟩ := h
    exact ⟨_, _, _, _, rfl, c1, c2, isZeroE_eq c3, c4⟩
  case h_2 => rename_i hh; cases hh
  case h_3 => cases h
theorem chkSrc_two {ns : Nms} {a b : E} {p : Expr} (h : chkSrc ns (.rng a b false) p = true) :
    ∃ id p1 q1 q2 pos, p = .Call (.Name id p1) [q1, q2] [] pos ∧ okName id "range" = true ∧ isGlob ns "range" = true ∧ chkE ns a q1 = true ∧ chkE ns b q2 = true := by
  replace h : rngChk ns false a (fun q => chkE ns a q) (fun q => chkE ns b q) p = true := h
  unfold rngChk at h
  split at h
  case h_1 => rename_i hh; cases hh
  case h_2 =>
    simp only [Bool.and_eq_true] at h
    obtain ⟨⟨⟨c1, c2⟩, c3⟩, c4⟩ := h
    exact ⟨_, _, _, _, _, rfl, c1, c2, c3, c4⟩
  case h_3 => cases h
theorem chkSrc_enum {ns : Nms} {a : E} {p : Expr} (h : chkSrc ns (.enumE a) p = true) :
    ∃ id p1 q pos, p = .Call (.Name id p1) [q] [] pos ∧ okName id "enumerate" = true ∧ isGlob ns "enumerate" = true ∧ chkE ns a q = true := by
  replace h : enumChk ns (fun q => chkE ns a q) p = true := h
  unfold enumChk at h
  split at h
  · simp only [Bool.and_eq_true] at h
    exact ⟨_, _, _, _, rfl, h.1.1, h.1.2, h.2⟩
  · cases h
theorem SSrc_list {e : E} (h : SE cx cf d e) (he : ∀ ℓ σ, evalSrc cf e ℓ σ = (do let (v, σ) ← evalE cf e ℓ σ; let x ← asRef v; some (.list x, σ))) (hc : ∀ ns p, chkSrc ns e p = chkE ns e p) : SSrc cx cf d e := by
  intro p f hcp P ℓ ρ σ s A src σ' n hev hn I R Q Ex k
  rw [hc] at hcp
  rw [he] at hev
  simp only [Option.bind_eq_bind, Option.bind_eq_some_iff, Option.some.injEq, Prod.mk.injEq] at hev
  obtain ⟨⟨v, σ1⟩, he1, x, hx, rfl, rfl⟩ := hev
  dsimp only at hx hn
  rw [asRef_some hx] at he1
  obtain ⟨vs, hσ, hl⟩ := lenAt_some hn
  refine h _ f hcp he1 I R fun s1 ρ1 w I1 r1 q1 => ?_
  obtain ⟨a, ws, kk, rfl, e1, g, z, hL⟩ := I1.st.listAt hσ q1
  refine wpAny_pyIter_list (isListOf g) ?_
  have I2 : FInv cx P f ℓ ρ1 σ1 { s1 with heap := s1.heap.push { cls := .type "list_iterator", data := .fields #[.ref a, .int 0 0] } } := I1.grow' (fun b o e => Heap.get?_push_of_some _ e) I1.st.bare rfl
  exact k _ ρ1 _ _ I2 r1 ⟨a, _, e1, rfl, rfl, rfl⟩ (Stand.one (I1.loose_new (fresh_none _)) (Heap.get?_push_size _ rfl))
theorem SSrc_rng (T : CxTop cx) {a b : E} {one : Bool} (h1 : SE cx cf d a) (h2 : SE cx cf d b) : SSrc cx cf d (.rng a b one) := by
  intro p f hcp P ℓ ρ σ s A src σ' n hev hn I R Q Ex k
  simp only [evalSrc, Option.bind_eq_bind, Option.bind_eq_some_iff] at hev
  obtain ⟨⟨v1, σ1⟩, he1, lo, hlo, ⟨v2, σ2⟩, he2, hi, hhi, hev⟩ := hev
  dsimp only at hlo he2 hhi hev
  split at hev
  case isFalse => cases hev
  rename_i hh
  simp only [Option.some.injEq, Prod.mk.injEq] at hev
  obtain ⟨rfl, rfl⟩ := hev
  rw [LIM_small] at hh
  rw [asInt_some hlo] at he1
  rw [asInt_some hhi] at he2
  have hsz : Builtin.Range.rangeSize lo hi 1 = ((hi - lo).toNat : Nat) := by rw [rangeSize_one]; split <;> omega
  have fin : ∀ {ρ1 s1 t u v}, FInv cx P f ℓ ρ1 σ2 s1 → ρ <+: ρ1 → wpAny (Md cx) A (pyIter (.ref s1.heap.objs.size)) Q Ex { s1 with heap := s1.heap.push { cls := .type "range", data := .fields #[.int lo t, .int hi u, .int 1 v] }, toks := s1.toks + 1 } ∧
      wpAny (Md cx) A (pyIter (.ref s1.heap.objs.size)) Q Ex { s1 with heap := s1.heap.push { cls := .type "range", data := .fields #[.int lo t, .int hi u, .int 1 v] }, toks := s1.toks + 1 + 1 } := by
    intro ρ1 s1 t u v I1 r1
    have go : ∀ tk, wpAny (Md cx) A (pyIter (.ref s1.heap.objs.size)) Q Ex { s1 with heap := s1.heap.push { cls := .type "range", data := .fields #[.int lo t, .int hi u, .int 1 v] }, toks := tk } := by
      intro tk
      have I2 : FInv cx P f ℓ ρ1 σ2 { s1 with heap := s1.heap.push { cls := .type "range", data := .fields #[.int lo t, .int hi u, .int 1 v] }, toks := tk } := I1.grow' (fun b o e => Heap.get?_push_of_some _ e) I1.st.bare rfl
      refine wpAny_pyIter_range (IsRange.new _ _ _ _ _ _ _) (small_one (by omega) (by omega) (by omega) (by omega)) ?_
      rw [hsz]
      have I3 := I2.grow' (s' := { s1 with heap := (s1.heap.push { cls := .type "range", data := .fields #[.int lo t, .int hi u, .int 1 v] }).push (rangeItObj lo ((hi - lo).toNat : Nat)), toks := tk }) (fun b o e => Heap.get?_push_of_some _ e) I1.st.bare rfl
      exact k _ ρ1 _ _ I3 r1 ⟨_, _, by simp, by simp, rfl⟩ (Stand.one (I2.loose_new (fresh_none _)) (Heap.get?_push_size _ rfl))
    exact ⟨go _, go _⟩
  cases one with
  | true =>
    obtain ⟨id, p1, q, pos, rfl, c1, c2, rfl, c4⟩ := chkSrc_one hcp
    simp only [evalE, Option.some.injEq, Prod.mk.injEq, V.int.injEq] at he1
    obtain ⟨rfl, rfl⟩ := he1
    have sp : starEach [q] f.env = (false, eval q f.env) :: starEach [] f.env := starEach_cons c4
    refine Call_ (I.glob T T.bRange c1 c2 (PySem.callWith_type (by rw [sp]; rfl) ?_))
    have hev : ∀ {Q Ex}, (∀ s' ρ' ws, FInv cx P f ℓ ρ' σ2 s' → ρ <+: ρ' → VR ρ' (.int hi) ws → Q [ws] s') → wpAny (Md cx) A (spliced (backTo pos (starEach [q] f.env))) Q Ex s := by
      intro Q Ex k
      exact wpAny_items_cons (h2 _ f c4 he2 I R fun s2 ρ2 ww I2 r2 q2 => wpAny_items_nil (k _ ρ2 ww I2 r2 q2)) sp
    rw [sp] at hev ⊢
    refine evalArgs_plain (hev fun s2 ρ2 ww I2 r2 q2 => ?_)
    obtain ⟨t, rfl⟩ := q2
    exact call_range_1 (fin I2 r2).2
  | false =>
    obtain ⟨id, p1, q1, q2, pos, rfl, c1, c2, c3, c4⟩ := chkSrc_two hcp
    have sp1 : starEach [q2] f.env = (false, eval q2 f.env) :: starEach [] f.env := starEach_cons c4
    have sp : starEach [q1, q2] f.env = (false, eval q1 f.env) :: starEach [q2] f.env := starEach_cons c3
    refine Call_ (I.glob T T.bRange c1 c2 (PySem.callWith_type (by rw [sp, sp1]; rfl) ?_))
    have hev : ∀ {Q Ex}, (∀ s' ρ' t u, FInv cx P f ℓ ρ' σ2 s' → ρ <+: ρ' → Q [.int lo t, .int hi u] s') → wpAny (Md cx) A (spliced (backTo pos (starEach [q1, q2] f.env))) Q Ex s := by
      intro Q Ex k
      refine wpAny_items_cons (h1 _ f c3 he1 I R fun s1 ρ1 w1 I1 r1 p1 => wpAny_items_cons (h2 _ f c4 he2 I1 R fun s2 ρ2 ww I2 r2 p2 => wpAny_items_nil ?_) sp1) sp
      obtain ⟨t, rfl⟩ := p1
      obtain ⟨u, rfl⟩ := p2
      exact k _ ρ2 t u I2 (r1.trans r2)
    rw [sp] at hev ⊢
    refine evalArgs_plain (hev fun s2 ρ2 t u I2 r2 => ?_)
    exact call_range_2 (fin I2 r2).1
theorem SSrc_enum (T : CxTop cx) {a : E} (h1 : SE cx cf d a) : SSrc cx cf d (.enumE a) := by
  intro p f hcp P ℓ ρ σ s A src σ' n hev hn I R Q Ex k
  simp only [evalSrc, Option.bind_eq_bind, Option.bind_eq_some_iff, Option.some.injEq, Prod.mk.injEq] at hev
  obtain ⟨⟨v1, σ1⟩, he1, x, hx, rfl, rfl⟩ := hev
  dsimp only at hx hn
  rw [asRef_some hx] at he1
  obtain ⟨vs, hσ, hl⟩ := lenAt_some hn
  obtain ⟨id, p1, q, pos, rfl, c1, c2, c3⟩ := chkSrc_enum hcp
  have sp : starEach [q] f.env = (false, eval q f.env) :: starEach [] f.env := starEach_cons c3
  refine Call_ (I.glob T T.bEnum c1 c2 (PySem.callWith_type (by rw [sp]; rfl) ?_))
  have hev : ∀ {Q Ex}, (∀ s' ρ' ws, FInv cx P f ℓ ρ' σ1 s' → ρ <+: ρ' → VR ρ' (.ref x) ws → Q [ws] s') → wpAny (Md cx) A (spliced (backTo pos (starEach [q] f.env))) Q Ex s := by
    intro Q Ex k
    exact wpAny_items_cons (h1 _ f c3 he1 I R fun s2 ρ2 ww I2 r2 q2 => wpAny_items_nil (k _ ρ2 ww I2 r2 q2)) sp
  rw [sp] at hev ⊢
  refine evalArgs_plain (hev fun s2 ρ2 ww I2 r2 q2 => ?_)
  obtain ⟨ad, ws, kk, rfl, e1, g, z, hL⟩ := I2.st.listAt hσ q2
  refine call_enumerate_list (isListOf g) fun h' e hit hz hk => wpAny_pyIter_enum e ?_
  obtain ⟨o, go, c1, c2⟩ := hit
  have I3 : FInv cx P f ℓ ρ2 σ1 { s2 with heap := h' } := I2.grow' hk I2.st.bare rfl
  have fr1 : s2.heap.get? (s2.heap.objs.size + 1) = none := by
    cases e : s2.heap.get? (s2.heap.objs.size + 1) with
    | none => rfl
    | some o => exact absurd (Heap.lt_size e) (Nat.not_lt.mpr (Nat.le_succ _))
  refine k _ ρ2 _ _ I3 r2 ⟨ad, s2.heap.objs.size, o, .none, e1, Nat.succ_ne_self _, rfl, c1, c2⟩ fun p hp => ?_
  simp only [List.mem_cons, List.not_mem_nil, or_false] at hp
  rcases hp with rfl | rfl
  · exact ⟨I2.loose_new fr1, e⟩
  · exact ⟨I2.loose_new (fresh_none _), go⟩
theorem SC_nil : SC cx cf d .nil := by
  intro ifs f hc P ℓ ρ σ s A b σ' he I R Q Ex k
  simp only [evalC, Option.some.injEq, Prod.mk.injEq] at he
  obtain ⟨rfl, rfl⟩ := he
  have hc' : ifChk true (fun q => chkE f.env.scope.names .nil q) ifs = true := hc
  unfold ifChk at hc'
  split at hc'
  · exact wpAny_tests_nil (k s ρ I (List.prefix_refl _))
  · unfold chkE at hc'; cases hc'
  · cases hc'
theorem SC_test {e : E} (h : ST cx cf d e) (he : ∀ ℓ σ, evalC cf e ℓ σ = (do let (v, σ) ← evalE cf e ℓ σ; let b ← truthy σ v; some (b, σ))) (hc : ∀ ns ifs, chkIf ns e ifs = true → ∃ p, ifs = [p] ∧ chkE ns e p = true) : SC cx cf d e := by
  intro ifs f hcp P ℓ ρ σ s A b σ' hev I R Q Ex k
  obtain ⟨p, rfl, hcp'⟩ := hc _ _ hcp
  rw [he] at hev
  simp only [Option.bind_eq_bind, Option.bind_eq_some_iff, Option.some.injEq, Prod.mk.injEq] at hev
  obtain ⟨⟨v, σ1⟩, he1, b', hb, rfl, rfl⟩ := hev
  exact wpAny_tests_one (h p f hcp' he1 hb I R k)
/-! a frame laid by -/
structure Frozen (f : Frm) (Z : List (Addr × Obj)) (h : Heap) : Prop where
  lo : ∃ o, (f.env.locals, o) ∈ Z
  oc : ∀ c ∈ f.oc, ∃ o, (c, o) ∈ Z
  stand : ∀ p ∈ Z, h.get? p.1 = some p.2
  only : ∀ p ∈ Z, p.1 = f.env.locals ∨ p.1 ∈ f.oc
theorem FInv.freeze (I : FInv cx P f ℓ ρ σ s) : ∃ Z, HInv cx (Hold P Z) ρ σ s ∧ Frozen f Z s.heap := by
  obtain ⟨m, ⟨ol, es, ep, hol, hn⟩, hm⟩ := I.names
  let Z : List (Addr × Obj) := (f.env.locals, ol) :: f.oc.filterMap fun c => (s.heap.get? c).map fun o => (c, o)
  have hZ : ∀ p ∈ Z, s.heap.get? p.1 = some p.2 ∧ (p.1 = f.env.locals ∨ p.1 ∈ f.oc) := by
    intro p hp
    rcases List.mem_cons.mp hp with rfl | hp
    · exact ⟨hol, .inl rfl⟩
    · obtain ⟨c, hc, e⟩ := List.mem_filterMap.mp hp
      obtain ⟨o, ho, rfl⟩ := Option.map_eq_some_iff.mp e
      exact ⟨ho, .inr hc⟩
  have ap := I.apart
  refine ⟨Z, ⟨?_, fun b o h => .inl (I.st.base b o h), I.st.len, I.st.rep, I.st.inj, ?_, I.st.bare, I.st.os, I.st.tab, ⟨?_, I.st.tabFree.2⟩, I.st.ro⟩, ⟨⟨ol, List.mem_cons_self⟩, fun c hc => ?_, fun p hp => (hZ p hp).1, fun p hp => (hZ p hp).2⟩⟩
  · rintro b o (h | h)
    · exact I.st.keep b o h
    · exact (hZ _ h).1
  · rintro b hb o (h | h)
    · exact I.st.free b hb o h
    · exact (ap b (hZ _ h).2).2.1 hb
  · rintro o (h | h)
    · exact I.st.tabFree.1 o h
    · exact (ap cx.tab (hZ _ h).2).2.2.1 rfl
  · obtain ⟨_, _, _, _, v, hv⟩ := I.cp c hc
    obtain ⟨o, ho, _⟩ := hv
    exact ⟨o, List.mem_cons_of_mem _ (List.mem_filterMap.mpr ⟨c, hc, by rw [ho]; rfl⟩)⟩
theorem FInv.thaw (I : FInv cx P f ℓ ρ σ s) {Z : List (Addr × Obj)} (F : Frozen f Z s.heap) {ρ' : Rho} {σ' : St} (H : HInv cx (Hold P Z) ρ' σ' s') (r : ρ <+: ρ') : FInv cx P f ℓ ρ' σ' s' := by
  obtain ⟨m, ⟨ol, es, ep, hol, hn⟩, hm⟩ := I.names
  have kz : ∀ b, (b = f.env.locals ∨ b ∈ f.oc) → ∀ o, s.heap.get? b = some o → s'.heap.get? b = some o := by
    intro b hb o e
    have : ∃ o', (b, o') ∈ Z := by rcases hb with rfl | hb; exact F.lo; exact F.oc b hb
    obtain ⟨o', ho'⟩ := this
    have h1 := F.stand _ ho'
    dsimp only at h1
    rw [e] at h1; cases h1
    exact H.keep _ _ (.inr ho')
  have nz : ∀ b, (b = f.env.locals ∨ b ∈ f.oc) → ¬ inRho ρ' b := by
    intro b hb q
    have : ∃ o', (b, o') ∈ Z := by rcases hb with rfl | hb; exact F.lo; exact F.oc b hb
    obtain ⟨o', ho'⟩ := this
    exact H.free b q o' (.inr ho')
  have kc : ∀ c w, (c ∈ f.oc ∨ ∃ o, P c o) → s.heap.IsCell c w → s'.heap.IsCell c w := by
    rintro c w (q | ⟨o', q⟩) ⟨o, e, g⟩
    · exact ⟨o, kz c (.inr q) o e, g⟩
    · have h1 : o = o' := Option.some.inj (e.symm.trans (I.st.keep _ _ q))
      exact ⟨o', H.keep _ _ (.inl q), h1 ▸ g⟩
  exact ⟨⟨fun b o h => H.keep b o (.inl h), I.st.base, H.len, H.rep, H.inj, fun b hb o h => H.free b hb o (.inl h), H.bare, H.os, H.tab, ⟨fun o h => H.tabFree.1 o (.inl h), H.tabFree.2⟩, H.ro⟩, I.kind, I.glo, I.bui, I.above,
    ⟨m, ⟨ol, es, ep, kz _ (.inl rfl) _ hol, hn⟩, fun x v e => (hm x v e).go r kc⟩, ⟨I.lp.1, nz _ (.inl rfl), I.lp.2.2⟩, fun c hc => let ⟨a, b, dd, e, v, g⟩ := I.cp c hc; ⟨a, nz c (.inr hc), dd, e, v, kc c v (.inl hc) g⟩, I.cinj⟩
end
end Mine
end

/-! Sound12 -/
section
open PySem PySem.W PySem.Calls PyProof.Rows
set_option linter.unusedVariables false
namespace Mine
section
variable {cx : Cx} {cf : CallF} {d : Nat} {P : Kept} {f : Frm} {ℓ : Loc} {ρ : Rho} {σ : St} {s s' : Shared}
/-! what an inner scope takes along -/
def clOf (env : Env) : List (Str × NameKind) → List (Str × Addr) → List (Str × Addr)
  | [], cs => cs
  | (n, k) :: r, cs => clOf env r (if (k == NameKind.free) = true then (n, (env.cells.lookup n).getD 0) :: cs else cs)
theorem closure_go (env : Env) : ∀ (names : List (Str × NameKind)) (cs : List (Str × Addr)), (∀ y ∈ names, y.2 = .free → ∃ c, env.cells.lookup y.1 = some c) →
    (forIn names cs fun x (__s : List (Str × Addr)) => match x with
        | (name, kind) => if (kind == NameKind.free) = true then do
            let a ← cellOf env name
            pure (ForInStep.yield ((name, a) :: __s))
          else pure (ForInStep.yield __s) : Sem (List (Str × Addr))) = pure (clOf env names cs)
  | [], cs, _ => rfl
  | (n, k) :: r, cs, h => by
    rw [List.forIn_cons]
    by_cases hk : (k == NameKind.free) = true
    · obtain ⟨c, hc⟩ := h (n, k) List.mem_cons_self (by simpa using hk)
      simp only [hk, if_true, clOf]
      unfold cellOf
      dsimp only at hc
      rw [hc]
      simp only [pure_bind, Option.getD_some]
      exact closure_go env r _ fun y hy => h y (List.mem_cons_of_mem _ hy)
    · simp only [hk, clOf]
      rw [if_neg (by simp), pure_bind]
      exact closure_go env r _ fun y hy => h y (List.mem_cons_of_mem _ hy)
theorem closureFor_clOf {env : Env} {sc : Scope} (h : ∀ y ∈ sc.names, y.2 = .free → ∃ c, env.cells.lookup y.1 = some c) : closureFor sc env = pure (clOf env sc.names []) := by
  unfold closureFor
  have := closure_go env sc.names [] h
  exact (bind_pure _).trans this
theorem clOf_keep {env : Env} {n : Str} {c : Addr} (hc : env.cells.lookup n = some c) : ∀ (names : List (Str × NameKind)) (cs : List (Str × Addr)), cs.lookup n = some c → (clOf env names cs).lookup n = some c
  | [], cs, h => h
  | (m, k) :: r, cs, h => by
    unfold clOf
    refine clOf_keep hc r _ ?_
    split
    · rw [List.lookup_cons]
      by_cases hm : n == m
      · simp only [hm]
        have : n = m := by simpa using hm
        subst this; rw [hc]; rfl
      · simp only [hm]; exact h
    · exact h
theorem clOf_has {env : Env} {n : Str} {c : Addr} (hc : env.cells.lookup n = some c) : ∀ (names : List (Str × NameKind)) (cs : List (Str × Addr)), (n, NameKind.free) ∈ names → (clOf env names cs).lookup n = some c
  | [], cs, h => by cases h
  | (m, k) :: r, cs, h => by
    unfold clOf
    rcases List.mem_cons.mp h with e | h
    · cases e
      refine clOf_keep hc r _ ?_
      rw [if_pos (by rfl), List.lookup_cons]; simp [hc]
    · exact clOf_has hc r _ h
theorem clOf_from {env : Env} {n : Str} {c : Addr} : ∀ (names : List (Str × NameKind)) (cs : List (Str × Addr)), (∀ y ∈ names, y.2 = .free → ∃ c, env.cells.lookup y.1 = some c) → (∀ c, cs.lookup n = some c → env.cells.lookup n = some c) → (clOf env names cs).lookup n = some c → env.cells.lookup n = some c
  | [], cs, _, h, e => h c e
  | (m, k) :: r, cs, hf, h, e => by
    unfold clOf at e
    refine clOf_from r _ (fun y hy => hf y (List.mem_cons_of_mem _ hy)) ?_ e
    split
    · rename_i hk
      intro c' hc'
      rw [List.lookup_cons] at hc'
      by_cases hm : n == m
      · simp only [hm] at hc'
        have : n = m := by simpa using hm
        subst this
        obtain ⟨c0, h0⟩ := hf (n, k) List.mem_cons_self (by simpa using hk)
        dsimp only at h0
        rw [h0] at hc' ⊢; exact hc'
      · simp only [hm] at hc'; exact h c' hc'
    · exact h
/-- the names of an inner scope, as the frame sees them -/
structure InnerOK (ns : Nms) (sc : Scope) : Prop where
  kind : sc.kind = .function
  nocell : ∀ y ∈ sc.names, y.2 ≠ .cell
  loc : ∀ y ∈ sc.names, y.2 = .local → sc.names.lookup y.1 = some .local
  nodup : (sc.names.map (·.1)).Nodup
  fre : ∀ y ∈ sc.names, y.2 = .free → ns.lookup y.1 = some .cell ∨ ns.lookup y.1 = some .free
theorem inner_ok {ns : Nms} {sc : Scope} (h : compScope ns sc = true) : InnerOK ns sc := by
  simp only [compScope, Bool.and_eq_true, List.all_eq_true, Bool.or_eq_true, beq_iff_eq, bne_iff_ne, decide_eq_true_eq] at h
  obtain ⟨⟨⟨⟨⟨h1, h2⟩, h3⟩, h4⟩, h5⟩, h6⟩ := h
  refine ⟨h1, fun y hy q => ?_, fun y hy q => ?_, h5, fun y hy q => ?_⟩
  · have := h3 y hy; rw [q] at this; simp at this
  · rcases h4 y hy with h | h
    · exact absurd q h
    · exact h
  · rcases h6 y hy with (h | h) | h
    · exact absurd q h
    · exact .inl h
    · exact .inr h
theorem mem_of_lookup {β : Type} {n : Str} {b : β} : ∀ {l : List (Str × β)}, l.lookup n = some b → (n, b) ∈ l
  | [], h => by simp at h
  | (m, k) :: r, h => by
    rw [List.lookup_cons] at h
    by_cases hm : n == m
    · simp only [hm] at h
      have : n = m := by simpa using hm
      subst this; cases h; exact List.mem_cons_self
    · simp only [hm] at h; exact List.mem_cons_of_mem _ (mem_of_lookup h)
theorem relN_lookup {ns : Nms} {sc : Scope} {n : Str} {k : NameKind} (h : (relN ns sc).lookup n = some k) : ((k = .cell ∧ (n, NameKind.free) ∈ sc.names ∧ ns.lookup n = some .cell) ∨ (n, k) ∈ sc.names) := by
  have := mem_of_lookup h
  unfold relN at this
  obtain ⟨⟨m, k'⟩, hm, e⟩ := List.mem_map.mp this
  dsimp only at e
  split at e
  · rename_i hh
    cases e
    simp only [Bool.and_eq_true, beq_iff_eq] at hh
    exact .inl ⟨rfl, hh.1 ▸ hm, hh.2⟩
  · cases e; exact .inr hm
theorem relN_eq (I : FInv cx P f ℓ ρ σ s) (sc : Scope) : (relabel sc f.env).names = relN f.env.scope.names sc := by
  unfold relabel relN
  dsimp only
  refine List.map_congr_left fun ⟨n, k⟩ _ => ?_
  dsimp only
  rw [I.kind]
  have : (ScopeKind.function == ScopeKind.function) = true := rfl
  rw [this, Bool.and_true]; rfl
theorem HInv.loose (I : HInv cx P ρ σ s) {a : Addr} (na : s.heap.get? a = none) : (∀ o, ¬ P a o) ∧ ¬ inRho ρ a ∧ a ≠ cx.tab := by
  refine ⟨fun o h => ?_, fun h => ?_, ?_⟩
  · have := I.keep _ _ h; rw [na] at this; cases this
  · obtain ⟨o, e⟩ := I.lt h; rw [na] at e; cases e
  · rintro rfl
    obtain ⟨ps, e, _⟩ := I.tab
    rw [na] at e; cases e
def inner (f : Frm) (sc : Scope) (C : Addr) : Frm := ⟨compEnvC sc (clOf f.env sc.names []) C f.env, []⟩
theorem FInv.frees (I : FInv cx P f ℓ ρ σ s) {sc : Scope} (ok : InnerOK f.env.scope.names sc) : ∀ y ∈ sc.names, y.2 = .free → ∃ c, f.env.cells.lookup y.1 = some c := fun y hy q => I.cinj.has y.1 (by rw [show f.env.kindOf y.1 = f.env.scope.names.lookup y.1 from rfl]; exact ok.fre y hy q)
/-- the frame of a comprehension -/
theorem FInv.inner (I : FInv cx P f ℓ ρ σ s) {sc : Scope} (ok : InnerOK f.env.scope.names sc) {vis : List String} (hv : visOK (relN f.env.scope.names sc) vis = true) {Z : List (Addr × Obj)} (HZ : HInv cx (Hold P Z) ρ σ s) (Fz : Frozen f Z s.heap)
    {C : Addr} (hC : s.heap.get? C = none) (hb : cx.base.objs.size ≤ C) {m0 : Str → Option Value} (hn : s'.heap.Ns C m0) (kp : ∀ b o, s.heap.get? b = some o → s'.heap.get? b = some o) (hg : s'.gens = s.gens) (ho : s'.os = s.os) :
    FInv cx (Hold P Z) (inner f sc C) (ℓ.only vis) ρ σ s' := by
  have LC := HZ.loose hC
  obtain ⟨m, hN, hm⟩ := I.names
  have fr := I.frees ok
  have cl : ∀ {n c}, (clOf f.env sc.names []).lookup n = some c → f.env.cells.lookup n = some c := fun {n c} e => clOf_from (n := n) (c := c) sc.names [] fr (fun c h => by simp at h) e
  have ek : (Mine.inner f sc C).env.scope.names = relN f.env.scope.names sc := relN_eq I sc
  have has : ∀ n, (relN f.env.scope.names sc).lookup n = some .cell ∨ (relN f.env.scope.names sc).lookup n = some .free → (n, NameKind.free) ∈ sc.names := by
    rintro n (h | h)
    · rcases relN_lookup h with ⟨_, h, _⟩ | h
      · exact h
      · exact absurd rfl (ok.nocell _ h)
    · rcases relN_lookup h with ⟨h, _⟩ | h
      · cases h
      · exact h
  refine ⟨HZ.grow (X := fun _ => False) Apart.none (fun b o _ e => kp b o e) (hg ▸ HZ.bare) ho, ok.kind, I.glo, I.bui, hb, ⟨m0, hn, fun x v e => ?_⟩, LC, fun c hc => (by cases hc), ⟨fun x y c h1 h2 => I.cinj.inj x y c (cl h1) (cl h2), fun n h => ?_⟩⟩
  · unfold Loc.only at e
    split at e
    case isFalse => cases e
    rename_i hx
    unfold visOK at hv
    rw [List.all_eq_true] at hv
    have h1 := hv x (by simpa using hx)
    simp only [Bool.or_eq_true, beq_iff_eq] at h1
    have hf := has _ h1
    have hN := hm x v e
    have hc : CellIs P f ρ s.heap x v := by
      unfold NameIs at hN
      have := ok.fre _ hf rfl
      rw [kindOf_lookup] at hN
      dsimp only at this
      rcases this with h | h <;> rw [h] at hN <;> exact hN
    have hc' : CellIs (Hold P Z) (Mine.inner f sc C) ρ s'.heap x v := by
      obtain ⟨c, w, e1, ⟨o, g1, g2⟩, e3, e4⟩ := hc
      refine ⟨c, w, clOf_has e1 sc.names [] hf, ⟨o, kp _ _ g1, g2⟩, e3, .inr ?_⟩
      rcases e4 with h | ⟨o', h⟩
      · obtain ⟨o', h⟩ := Fz.oc c h; exact ⟨o', .inr h⟩
      · exact ⟨o', .inl h⟩
    unfold NameIs
    rw [kindOf_lookup, ek]
    rcases h1 with h | h <;> rw [h] <;> exact hc'
  · rw [show (Mine.inner f sc C).env.kindOf n = (Mine.inner f sc C).env.scope.names.lookup n from rfl, ek] at h
    have hf := has n h
    obtain ⟨c, hc⟩ := fr _ hf rfl
    exact ⟨c, clOf_has hc sc.names [] hf⟩
theorem FInv.weak {ℓ' : Loc} (I : FInv cx P f ℓ ρ σ s) (h : ∀ y v, ℓ' y = some v → ℓ y = some v) : FInv cx P f ℓ' ρ σ s :=
  let ⟨m, hn, hm⟩ := I.names
  ⟨I.st, I.kind, I.glo, I.bui, I.above, ⟨m, hn, fun x v e => hm x v (h x v e)⟩, I.lp, I.cp, I.cinj⟩
/-! a list that grows apart from the store -/
theorem append_apart {D : Addr} {ws : Array Value} {kk : Nat} (I : FInv cx (Hold P [(D, W.listOf ws kk)]) f ℓ ρ σ s) (hb : ∀ b o, cx.base.get? b = some o → P b o) (np : ∀ o, ¬ P D o) (hs : ws.size ≤ LIM) {w : Value} {A Q Ex}
    (k : ∀ s' kk', FInv cx (Hold P [(D, W.listOf (ws.push w) kk')]) f ℓ ρ σ s' → (∀ b o, b ≠ D → s.heap.get? b = some o → s'.heap.get? b = some o) → Q .none s') : wpAny (Md cx) A (call (.builtin "list.append") [.ref D, w]) Q Ex s := by
  obtain ⟨I1, S1⟩ := I.drop hb (fun p hp => by rw [List.mem_singleton] at hp; subst hp; exact np) (fun p hp v => by rw [List.mem_singleton] at hp; subst hp; simp)
  obtain ⟨LD, gD⟩ := S1 _ List.mem_cons_self
  dsimp only at LD gD
  refine wpAny_list_append_plain (items := ws) ⟨kk, gD⟩ (fun h' ⟨k2, g'⟩ hs' => ?_) (by rw [LIM_small] at hs; have : sizeLine = 16777216 := rfl; omega)
  have I2 : FInv cx P f ℓ ρ σ { s with heap := h' } := I1.growAt LD (list_not_tup gD) (fun b o hb e => (hs'.2 b hb).trans e) I1.st.bare rfl
  exact k _ k2 (I2.hold (Stand.one LD g')) fun b o hb e => (hs'.2 b hb).trans e
theorem compGo_len {src : Src} {t : Tgt} {n : Nat} {cond : Loc → St → Option (Bool × St)} {elt : Loc → St → Option (V × St)} : ∀ {rem i : Nat} {acc vs : List V} {σ σ' : St}, compGo src t ℓ n cond elt rem i acc σ = some (vs, σ') → acc.length ≤ vs.length
  | 0, i, acc, vs, σ, σ', h => by
    unfold compGo at h
    split at h <;> cases h
    exact Nat.le_refl _
  | rem + 1, i, acc, vs, σ, σ', h => by
    unfold compGo at h
    split at h
    case isFalse => cases h
    simp only [Option.bind_eq_bind, Option.bind_eq_some_iff] at h
    obtain ⟨ℓ', _, ⟨b, σ1⟩, _, h⟩ := h
    dsimp only at h
    split at h
    · simp only [Option.bind_eq_some_iff] at h
      obtain ⟨⟨v, σ2⟩, _, h⟩ := h
      have := compGo_len h
      simp at this; omega
    · exact compGo_len h
/-- the turn of a one-name target -/
theorem src_turn1 (I : FInv cx P f ℓ ρ σ s) {src : Src} {x : String} {tg : Expr} {i n : Nat} {L : List (Addr × Obj)} {it : Addr} (hc : chkTgt f.env.scope.names (.one x) tg = true) (ow : OwnAt f x) (hI : ItAt ρ i it src L) (S : Stand cx P f ρ s.heap L)
    (hn : src.size σ = some n) (hi : i < n) {ℓ' : Loc} (hb : src.bind σ ℓ (.one x) i = some ℓ') {A : Around} (hh : A.handled = none) {QN : Shared → Prop} {Q : Unit → Shared → Prop} {E : Value → Shared → Prop}
    (k : ∀ s' L' v, ℓ' = ℓ.set x v → FInv cx (Hold P L') f ℓ' ρ σ s' → ItAt ρ (i + 1) it src L' → (∀ p ∈ L', ∀ o, ¬ P p.1 o) → Q () s') :
    wpAny (Md cx) A (pyNext (.ref it)) (fun r s1 => match r with
      | none => QN s1
      | some v => wpAny (Md cx) A (assign tg f.env v) Q E s1) E s := by
  obtain ⟨id, pos, rfl, ok, _⟩ := chkTgt_one hc
  cases src with
  | list a =>
    obtain ⟨ad, o, e, rfl, c1, c2⟩ := hI
    obtain ⟨LI, g⟩ := S _ List.mem_cons_self
    dsimp only at LI g
    simp only [Src.bind, Option.bind_eq_bind, Option.bind_eq_some_iff] at hb
    obtain ⟨v, hv, hb⟩ := hb
    obtain ⟨vs, hσ, hvi⟩ := itemAt_some hv
    cases hb
    obtain ⟨ws, kk, gl, z, hL⟩ := I.st.listOf hσ e
    obtain ⟨w, hw, qw⟩ := z.get hvi
    have hit : s.heap.IsListIter it ad i := ⟨o, g, c1, c2⟩
    refine wpAny_pyNext_list_item hit (isListOf gl) (by rw [← Array.getElem?_toList]; exact hw) fun h' hit' hs => ?_
    have I1 : FInv cx P f ℓ ρ σ { s with heap := h' } := I.growAt LI (not_tup_of g (plain_fields c2)) (fun b o hb e => (hs.2 b hb).trans e) I.st.bare rfl
    obtain ⟨o', g', c1', c2'⟩ := hit'
    refine (I1.hold (Stand.one LI g')).assignName ok ow qw fun s2 I2 => ?_
    exact k s2 _ v rfl I2 ⟨ad, o', e, rfl, c1', c2'⟩ fun p hp => by rw [List.mem_singleton] at hp; subst hp; exact LI.np
  | rng lo hi' =>
    obtain ⟨x0, left, rfl, rfl, rfl⟩ := hI
    obtain ⟨LI, g⟩ := S _ List.mem_cons_self
    dsimp only at LI g
    have hsz := rng_size hn
    simp only [Src.bind, Option.some.injEq] at hb
    subst hb
    refine wpAny_pyNext_range_item (step := 1) g (by omega) fun h' g' hs => ?_
    have I1 : FInv cx P f ℓ ρ σ { s with heap := h', toks := s.toks + 1 } := I.growAt LI (not_tup_of g (plain_fields rfl)) (fun b o hb e => (hs.2 b hb).trans e) I.st.bare rfl
    refine (I1.hold (Stand.one LI g')).assignName (v := .int (lo + i)) ok ow ⟨_, rfl⟩ fun s2 I2 => ?_
    exact k s2 _ _ rfl I2 ⟨_, _, by push_cast; omega, by push_cast; omega, rfl⟩ fun p hp => by rw [List.mem_singleton] at hp; subst hp; exact LI.np
  | enum a =>
    simp only [Src.bind, Option.bind_eq_bind, Option.bind_eq_some_iff] at hb
    obtain ⟨v, hv, hb⟩ := hb
    cases hb
  | zip a b => exact hI.elim
theorem comp_loop {elt cond : E} (helt : SE cx cf d elt) (hcond : SC cx cf d cond) {x : String} {tg pe iter : Expr} {ifs : List Expr} {sc : Scope} {pos : Pos} (hb : ∀ b o, cx.base.get? b = some o → P b o)
    (ht : chkTgt f.env.scope.names (.one x) tg = true) (ow : OwnAt f x) (hce : chkE f.env.scope.names elt pe = true) (hcc : chkIf f.env.scope.names cond ifs = true) (hx : ℓ x = none) {src : Src} {n : Nat} {it D : Addr} (np : ∀ o, ¬ P D o)
    {acc vs : List V} {σ' : St} {ws : Array Value} {kk : Nat} {L : List (Addr × Obj)} (hgo : compGo src (.one x) ℓ n (fun ℓ σ => evalC cf cond ℓ σ) (fun ℓ σ => evalE cf elt ℓ σ) n 0 acc σ = some (vs, σ')) (hL : vs.length ≤ LIM)
    (I : FInv cx (Hold P [(D, W.listOf ws kk)]) f ℓ ρ σ s) (hI : ItAt ρ 0 it src L) (S : Stand cx (Hold P [(D, W.listOf ws kk)]) f ρ s.heap L) (z : VRs ρ acc ws.toList) {A : Around} (R : Room A d) {Rs : Result → Shared → Prop}
    (k : ∀ s' ρ' ws' kk', FInv cx (Hold P [(D, W.listOf ws' kk')]) f ℓ ρ' σ' s' → ρ <+: ρ' → VRs ρ' vs ws'.toList → Rs (.ok .next) s') :
    codeAny (Md cx) A (.compLoop (.ListComp pe [⟨tg, iter, ifs, 0⟩] sc pos) 0 (.ref it) (.ref D) f.env) Rs s := by
  have hlet : ∀ v, letOwnedTupleGo tg (.ref it) v = pure () := by
    obtain ⟨id, pos, rfl, _⟩ := chkTgt_one ht
    intro v; rfl
  refine codeAny_compLoop_tests (fun r s' => ∃ i acc σ ρ' ws kk L, i + r = n ∧ compGo src (.one x) ℓ n (fun ℓ σ => evalC cf cond ℓ σ) (fun ℓ σ => evalE cf elt ℓ σ) r i acc σ = some (vs, σ') ∧
    FInv cx (Hold P [(D, W.listOf ws kk)]) f ℓ ρ' σ s' ∧ ItAt ρ' i it src L ∧ Stand cx (Hold P [(D, W.listOf ws kk)]) f ρ' s'.heap L ∧ VRs ρ' acc ws.toList ∧ ρ <+: ρ') (fun r s hinv => ?_) n ⟨0, acc, σ, ρ, ws, kk, L, by omega, hgo, I, hI, S, z, List.prefix_refl _⟩ hlet
  obtain ⟨i, acc, σ, ρ1, ws, kk, L, hir, hgo, I, hI, S, z, rr⟩ := hinv
  have hlen := compGo_len hgo
  cases r with
  | zero =>
    unfold compGo at hgo
    split at hgo <;> cases hgo
    rename_i hn
    have : i = n := by omega
    subst this
    exact src_end I hI S hn R.han fun s' I' => k s' ρ1 ws kk I' rr z
  | succ r =>
    unfold compGo at hgo
    split at hgo
    case isFalse => cases hgo
    rename_i hn
    simp only [Option.bind_eq_bind, Option.bind_eq_some_iff] at hgo
    obtain ⟨ℓ', hb', ⟨b, σ1⟩, hcv, hgo⟩ := hgo
    dsimp only at hgo
    refine src_turn1 I ht ow hI S hn (by omega) hb' R.han fun s1 L1 v hℓ I1 hI1 np1 => ?_
    have back : ∀ {ρ' σ s'}, FInv cx (Hold (Hold P [(D, W.listOf ws kk)]) L1) f ℓ' ρ' σ s' → ρ1 <+: ρ' → FInv cx (Hold P [(D, W.listOf ws kk)]) f ℓ ρ' σ s' ∧ Stand cx (Hold P [(D, W.listOf ws kk)]) f ρ' s'.heap L1 := by
      intro ρ' σ s' I' r'
      obtain ⟨h1, h2⟩ := I'.unhold (fun b o h => .inl (hb b o h)) np1 (hI1.plain)
      refine ⟨h1.weak fun y u e => ?_, h2⟩
      rw [hℓ]
      by_cases hy : y = x
      · subst hy; rw [hx] at e; cases e
      · rw [Loc.set_ne _ _ hy]; exact e
    refine hcond ifs f hcc hcv I1 R fun s2 ρ2 I2 r2 => ?_
    cases b with
    | true =>
      simp only [if_true, Option.bind_eq_some_iff] at hgo
      obtain ⟨⟨u, σ2⟩, hev, hgo⟩ := hgo
      have hlen2 := compGo_len hgo
      simp only [List.length_append, List.length_cons, List.length_nil] at hlen2
      show wpAny (Md cx) A (eval pe f.env) _ _ s2
      refine helt pe f hce hev I2 R fun s3 ρ3 w I3 r3 q3 => ?_
      obtain ⟨I4, S4⟩ := back I3 (r2.trans r3)
      have hsz : ws.size = acc.length := by rw [z.length]; simp
      refine append_apart I4 hb np (by omega) fun s5 kk' I5 k5 => ?_
      refine ⟨r, Nat.lt_succ_self _, i + 1, _, σ2, ρ3, _, kk', L1, by omega, hgo, I5, hI1.mono (r2.trans r3), fun p hp => ?_, ?_, rr.trans (r2.trans r3)⟩
      · obtain ⟨LL, g⟩ := S4 p hp
        have hne : p.1 ≠ D := fun e => LL.np (W.listOf ws kk) (.inr (by rw [e]; exact List.mem_cons_self))
        refine ⟨⟨fun o h => ?_, LL.nr, LL.nt, LL.nl, LL.nc⟩, k5 _ _ hne g⟩
        rcases h with h | h
        · exact LL.np o (.inl h)
        · rw [List.mem_singleton] at h; exact hne (by injection h)
      · simpa using (VRs.mono (r2.trans r3) z).append (.cons q3 .nil)
    | false =>
      simp only [Bool.false_eq_true, if_false] at hgo
      obtain ⟨I4, S4⟩ := back I2 r2
      exact ⟨r, Nat.lt_succ_self _, i + 1, acc, σ1, ρ2, ws, kk, L1, by omega, hgo, I4, hI1.mono r2, S4, VRs.mono r2 z, rr.trans r2⟩
end
end Mine
end

/-! Sound13 -/
section
open PySem PySem.W PySem.Calls PyProof.Rows
set_option linter.unusedVariables false
namespace Mine
section
variable {cx : Cx} {cf : CallF} {d : Nat} {P : Kept} {f : Frm} {ℓ : Loc} {ρ : Rho} {σ : St} {s s' : Shared}
theorem chkSrc_notSet {ns : Nms} {it : E} {i : Expr} (h : chkSrc ns it i = true) (env : Env) (x : Value) : foldedSetIterable i env x = pure x := by
  cases i <;> first | rfl | skip
  exfalso
  cases it with
  | rng a b one => cases one <;> exact Bool.noConfusion (show false = true from h)
  | enumE a => exact Bool.noConfusion (show false = true from h)
  | zipE a b => exact Bool.noConfusion (show false = true from h)
  | _ =>
    replace h : chkE ns _ _ = true := h
    unfold chkE at h
    first | cases h | (split at h <;> first | contradiction | cases h)
theorem ItAt.self {ρ : Rho} {i it src L} (h : ItAt ρ i it src L) (S : ∀ p ∈ L, s.heap.get? p.1 = some p.2) {A : Around} {Q : Value → Shared → Prop} {E : Value → Shared → Prop} (k : Q (.ref it) s) : wpAny (Md cx) A (pyIter (.ref it)) Q E s := by
  cases src with
  | list a =>
    obtain ⟨ad, o, e, rfl, c1, c2⟩ := h
    have g := S _ List.mem_cons_self
    exact wpAny_pyIter_listiter (l := ad) (i := i) ⟨o, g, c1, c2⟩ k
  | rng lo hi =>
    obtain ⟨x0, left, rfl, rfl, rfl⟩ := h
    exact wpAny_pyIter_rangeiter (S _ List.mem_cons_self) k
  | enum a =>
    obtain ⟨ad, e2, o, old, e, hne, rfl, c1, c2⟩ := h
    exact wpAny_pyIter_enum (S _ List.mem_cons_self) k
  | zip a b => exact h.elim
theorem tgt_own_local {ns : Nms} {x : String} (hk : f.env.scope.names.lookup (Str.ofString x) = some .local) : OwnAt f x := .inl hk
theorem comp_core (T : CxTop cx) {vis : List String} {elt it cond : E} {t : Tgt} (hsrc : SSrc cx cf d it) (helt : SE cx cf d elt) (hcond : SC cx cf d cond) {pe i tg : Expr} {ifs : List Expr} {sc : Scope} {pos : Pos}
    (hc : chkE f.env.scope.names (.comp vis elt t it cond) (.ListComp pe [⟨tg, i, ifs, 0⟩] sc pos) = true) {v : V} {σ' : St} (he : evalE cf (.comp vis elt t it cond) ℓ σ = some (v, σ')) (I : FInv cx P f ℓ ρ σ s) {A : Around} (R : Room A d)
    {use : Option (Value → Sem Unit)} {Q : Value → Shared → Prop} {E : Value → Shared → Prop}
    (k : ∀ D C s' ρ' σ1 vs ws kk, FInv cx P f ℓ ρ' σ1 s' → ρ <+: ρ' → VRs ρ' vs ws.toList → vs.length ≤ LIM → v = .ref σ1.length → σ' = σ1 ++ [.list vs] → Loose cx P f ρ' D → s'.heap.get? D = some (W.listOf ws kk) →
      Loose cx P f ρ' C → D ≠ C → (∃ m, s'.heap.Ns C m) → compPost (Md cx) A E use Q (.ref D) C (.ok .next) s') :
    wpAny (Md cx) A (comprehension (.ListComp pe [⟨tg, i, ifs, 0⟩] sc pos) sc f.env (firstIterPos [⟨tg, i, ifs, 0⟩] pos) (newList []) (firstAsync [⟨tg, i, ifs, 0⟩]) (firstIter [⟨tg, i, ifs, 0⟩] f.env) use) Q E s := by
  unfold chkE at hc
  simp only [Bool.and_eq_true] at hc
  obtain ⟨⟨⟨⟨⟨⟨⟨hvis, h2⟩, h3⟩, h4⟩, h5⟩, h6⟩, h7⟩, h8⟩ := hc
  have ok := inner_ok h4
  cases t with
  | many xs => cases h2
  | one x =>
    have hloc : sc.names.lookup (Str.ofString x) = some .local := by simpa [tgtLocal] using h7
    simp only [evalE, Option.bind_eq_bind, Option.bind_eq_some_iff] at he
    obtain ⟨⟨src, σ1⟩, he1, n, hn, ⟨vs, σ2⟩, hgo, he2⟩ := he
    dsimp only at hn hgo he2
    split at he2 <;> cases he2
    rename_i hL
    have closed := closureFor_clOf (I.frees ok)
    refine wpAny_comprehension_free rfl (fun x => chkSrc_notSet h3 f.env x) closed ok.kind ok.loc (hsrc i f h3 he1 hn I R fun s2 ρ2 itA L I2 r2 hI S => ?_)
    -- the list
    refine wpAny_newObj_type ?_
    generalize hs3 : ({ s2 with heap := s2.heap.push { cls := .type "list", dict := none, data := .seq ([] : List Value).toArray } } : Shared) = s3
    have k3 : ∀ b o, s2.heap.get? b = some o → s3.heap.get? b = some o := by rw [← hs3]; exact fun b o e => Heap.get?_push_of_some _ e
    have I3 : FInv cx P f ℓ ρ2 σ1 s3 := I2.grow' k3 (by rw [← hs3]; exact I2.st.bare) (by rw [← hs3])
    have LD : Loose cx P f ρ2 s2.heap.objs.size := I2.loose_new (fresh_none _)
    have gD : s3.heap.get? s2.heap.objs.size = some (W.listOf #[] 0) := by rw [← hs3]; exact Heap.get?_push_size _ rfl
    have hsz : s3.heap.objs.size = s2.heap.objs.size + 1 := by rw [← hs3]; exact Heap.size_push _ _
    have S3 : Stand cx P f ρ2 s3.heap L := fun p hp => ⟨(S p hp).1, k3 _ _ (S p hp).2⟩
    have neD : ∀ p ∈ L, p.1 ≠ s2.heap.objs.size := fun p hp e => by have := (S p hp).2; rw [e, fresh_none] at this; cases this
    refine wpAny_newFunctionEnv ok.nocell (by intro y hy; simp at hy) (fun h1 hns hsb => ?_) ok.kind
    generalize hC : s3.heap.objs.size = C at hns hsb ⊢
    have nC : s3.heap.get? C = none := by rw [← hC]; exact fresh_none _
    have LC : Loose cx P f ρ2 C := I3.loose_new nC
    have hDC : s2.heap.objs.size ≠ C := by rw [← hC, hsz]; exact Nat.ne_of_lt (Nat.lt_succ_self _)
    have kp : ∀ b o, s3.heap.get? b = some o → h1.get? b = some o := fun b o e => (hsb.2 b fun z => by subst z; rw [nC] at e; cases e).trans (Heap.get?_push_of_some _ e)
    obtain ⟨Z, HZ, Fz⟩ := I3.freeze
    have habove : cx.base.objs.size ≤ C := by
      obtain ⟨m, ⟨o, _, _, ho, _⟩, _⟩ := I3.names
      have := Heap.lt_size ho
      rw [hC] at this
      exact Nat.le_trans I3.above (Nat.le_of_lt this)
    have I4 : FInv cx (Hold P Z) (Mine.inner f sc C) (ℓ.only vis) ρ2 σ1 { s3 with heap := h1, toks := s3.toks + ([] : List (Str × Value)).length } := I3.inner ok hvis HZ Fz nC habove hns kp rfl rfl
    have looseIn : ∀ {a}, Loose cx P f ρ2 a → a ≠ C → Loose cx (Hold P Z) (Mine.inner f sc C) ρ2 a := fun {a} L hne => by
      refine ⟨fun o h => ?_, L.nr, L.nt, hne, fun h => (by cases h)⟩
      rcases h with h | h
      · exact L.np o h
      · rcases Fz.only _ h with q | q
        · exact L.nl q
        · exact L.nc q
    have gD4 := kp _ _ gD
    have I5 := I4.hold (Stand.one (looseIn LD hDC) gD4)
    have S5 : Stand cx (Hold (Hold P Z) [(s2.heap.objs.size, W.listOf #[] 0)]) (Mine.inner f sc C) ρ2 h1 L := fun p hp => by
      have hne : p.1 ≠ C := fun e => by have := (S3 p hp).2; rw [e, nC] at this; cases this
      have L1 := looseIn (S3 p hp).1 hne
      refine ⟨⟨fun o h => ?_, L1.nr, L1.nt, L1.nl, L1.nc⟩, kp _ _ (S3 p hp).2⟩
      rcases h with h | h
      · exact L1.np o h
      · rw [List.mem_singleton] at h; exact neD p hp (by injection h)
    have ek : (Mine.inner f sc C).env.scope.names = relN f.env.scope.names sc := relN_eq I3 sc
    have hloc' : (Mine.inner f sc C).env.kindOf (Str.ofString x) = some .local := by
      show (relabel sc f.env).names.lookup _ = _
      exact lookup_relabel_local hloc
    have hx : (ℓ.only vis) x = none := by
      unfold Loc.only
      split
      · rename_i hm
        exfalso
        unfold visOK at hvis
        rw [List.all_eq_true] at hvis
        have h1 := hvis x (by simpa using hm)
        simp only [Bool.or_eq_true, beq_iff_eq] at h1
        rw [← ek] at h1
        have h2 : (Mine.inner f sc C).env.scope.names.lookup (Str.ofString x) = some .local := hloc'
        rw [h2] at h1
        rcases h1 with h1 | h1 <;> cases h1
      · rfl
    have npD : ∀ o, ¬ Hold P Z s2.heap.objs.size o := (looseIn LD hDC).np
    have loop : codeAny (Md cx) A (.compLoop (.ListComp pe [⟨tg, i, ifs, 0⟩] sc pos) 0 (.ref itA) (.ref s2.heap.objs.size) (Mine.inner f sc C).env) (compPost (Md cx) A E use Q (.ref s2.heap.objs.size) C) { s3 with heap := h1, toks := s3.toks + ([] : List (Str × Value)).length } := by
      refine comp_loop helt hcond I4.st.base (by rw [ek]; exact h6) (.inl hloc') (by rw [ek]; exact h5) (by rw [ek]; exact h8) hx npD hgo hL I5 hI S5 .nil R fun s' ρ' ws' kk' I' r' z' => ?_
      obtain ⟨I6, S6⟩ := I'.drop I4.st.base (fun p hp => by rw [List.mem_singleton] at hp; subst hp; exact npD) (fun p hp v => by rw [List.mem_singleton] at hp; subst hp; simp)
      obtain ⟨LD6, gD6⟩ := S6 _ List.mem_cons_self
      dsimp only at LD6 gD6
      have I7 : FInv cx P f ℓ ρ' σ2 s' := I3.thaw Fz I6.st r'
      have back : ∀ {a}, (∀ o, ¬ Hold P Z a o) → ¬ inRho ρ' a → a ≠ cx.tab → Loose cx P f ρ' a := fun {a} np nr nt => by
        refine ⟨fun o h => np o (.inl h), nr, nt, fun e => ?_, fun e => ?_⟩
        · obtain ⟨o, ho⟩ := Fz.lo; exact np o (.inr (e ▸ ho))
        · obtain ⟨o, ho⟩ := Fz.oc a e; exact np o (.inr ho)
      obtain ⟨m', hm', _⟩ := I6.names
      exact k _ C s' ρ' σ2 vs ws' kk' I7 (r2.trans r') z' hL rfl rfl (back LD6.np LD6.nr LD6.nt) gD6 (back I6.lp.1 I6.lp.2.1 I6.lp.2.2) hDC ⟨m', hm'⟩
    exact codeAny_compStart_list loop (hI.self (fun p hp => (S5 p hp).2) loop)
theorem SE_comp (T : CxTop cx) {vis : List String} {elt it cond : E} {t : Tgt} (hsrc : SSrc cx cf d it) (helt : SE cx cf d elt) (hcond : SC cx cf d cond) : SE cx cf d (.comp vis elt t it cond) := by
  intro pe f hc P ℓ ρ σ s A v σ' he I R Q Ex k
  have hc' := hc
  unfold chkE at hc
  split at hc
  case h_2 => cases hc
  rw [eval_ListComp]
  refine comp_core T hsrc helt hcond hc' he I R fun D C s' ρ' σ1 vs ws kk I1 r1 z hL hv hσ LD gD LC hDC ⟨m, hm⟩ => ?_
  subst hv hσ
  refine ⟨m, hm, fun h' hs => ?_⟩
  have I2 : FInv cx P f ℓ ρ' σ1 { s' with heap := h' } := I1.growAt LC (Ns_not_tup hm) (fun b o hb e => (hs.2 b hb).trans e) I1.st.bare rfl
  exact k _ _ _ (I2.adopt LD LD ⟨rfl, hL, ws, kk, (hs.2 D hDC).trans gD, VRs.mono (List.prefix_append _ _) z⟩) (r1.trans (List.prefix_append _ _)) (new_ref I2.st.len)
end
end Mine
end

/-! Sound14 -/
section
open PySem PySem.W PySem.Calls PyProof.Rows
set_option linter.unusedVariables false
namespace Mine
section
variable {cx : Cx} {cf : CallF} {d : Nat} {P : Kept} {f : Frm} {ℓ : Loc} {ρ : Rho} {σ : St} {s s' : Shared}
theorem slice_bounds (lo hi : Option Int) (n : Nat) : sliceBounds lo hi none n = (((lo.elim 0 (clipAt n) : Nat) : Int), ((hi.elim n (clipAt n) : Nat) : Int), 1) := by
  unfold sliceBounds
  cases lo <;> cases hi <;> simp [clipAt_cast]
theorem listItems_wp {A : Around} {E : Value → Shared → Prop} {l : Addr} {items : Array Value} {k : Nat} {Q : Array Value → Shared → Prop} (g : s.heap.get? l = some (W.listOf items k)) (h : Q items s) : wpAny (Md cx) A (Builtin.List.listItems (.ref l)) Q E s := by
  unfold Builtin.List.listItems
  exact wpAny_bind (wpAny_seqItems g rfl (wpAny_pure h))
theorem listAllItems_wp {A : Around} {E : Value → Shared → Prop} {l : Addr} {items : Array Value} {k : Nat} {msg : String} {Q : Array Value → Shared → Prop} (g : s.heap.get? l = some (W.listOf items k)) (h : Q items s) : wpAny (Md cx) A (Builtin.List.listAllItems (.ref l) msg) Q E s := by
  unfold Builtin.List.listAllItems
  refine wpAny_bind (wpAny_typeOf ⟨_, g, rfl⟩ ?_)
  rw [if_pos (by decide)]
  exact listItems_wp g h
theorem setItem_slice {A : Around} {E : Value → Shared → Prop} {l l2 sl : Addr} {items new : Array Value} {k k2 : Nat} {vl vu : Value} {lo hi : Option Int} {Q : Unit → Shared → Prop} (g : s.heap.get? l = some (W.listOf items k)) (g2 : s.heap.get? l2 = some (W.listOf new k2)) (hne : l ≠ l2)
    (hs : s.heap.IsSliceOf sl vl vu .none) (pl : IsPart vl lo) (pu : IsPart vu hi) (hle : lo.elim 0 (clipAt items.size) ≤ hi.elim items.size (clipAt items.size)) (hsz : items.size + new.size ≤ LIM)
    (h : ∀ h' kk, Heap.SameBut l s.heap h' → h'.get? l = some (W.listOf (items.extract 0 (lo.elim 0 (clipAt items.size)) ++ new ++ items.extract (hi.elim items.size (clipAt items.size)) items.size) kk) → Q () { s with heap := h' }) :
    wpAny (Md cx) A (setItem (.ref l) (.ref sl) (.ref l2)) Q E s := by
  rw [LIM_small] at hsz
  obtain ⟨os, hos, hcs, hds⟩ := id hs
  have hTs : s.TypeIs (.ref sl) "slice" := ⟨os, hos, hcs⟩
  have hT : s.TypeIs (.ref l) "list" := ⟨_, g, rfl⟩
  have hT2 : s.TypeIs (.ref l2) "list" := ⟨_, g2, rfl⟩
  unfold setItem
  try with_reducible refine wpAny_holding ?_
  first | refine wpAny_bind (wpAny_pure ?_) | skip
  refine wpAny_bind (wpAny_sequenceKey hT (by decide) ?_)
  refine wpAny_bind (wpAny_callSpecial?_slot (name := Str.ofString "__setitem__") hT slot_list_setitem
    (wpAny_call_entry slot_list_setitem hT entry_list_setitem ?_ (args_list_setitem _ _ _)))
  show wpAny _ _ (Builtin.List.listSubscript? (.ref sl) >>= _) _ _ s
  refine wpAny_bind ?_
  unfold Builtin.List.listSubscript?
  refine wpAny_bind (wpAny_specialOf hTs slice_no_index ?_)
  simp only [Option.isNone_none, if_true]
  refine wpAny_pure ?_
  show wpAny _ _ (typeOf (.ref sl) >>= _) _ _ s
  refine wpAny_bind (wpAny_typeOf hTs ?_)
  rw [if_neg (by decide)]
  rw [listSliceParts_eq]
  have hstep : ¬ ((rawPart none == rawInt 0) = true) := Bool.false_ne_true
  refine wpAny_bind (wpAny_bind (wpAny_field hos hds (x := .none) rfl (wpAny_bind (wpAny_listPart .none ?_))))
  rw [if_neg hstep]
  refine wpAny_bind (wpAny_field hos hds (x := vl) rfl (wpAny_bind (wpAny_listPart pl ?_)))
  refine wpAny_bind (wpAny_field hos hds (x := vu) rfl (wpAny_bind (wpAny_listPart pu (wpAny_pure ?_))))
  have hsame : Builtin.List.listSameRef (.ref l) (.ref l2) = false := by simp [Builtin.List.listSameRef, hne]
  simp only [hsame, Bool.false_eq_true, if_false]
  refine wpAny_bind (listAllItems_wp g2 ?_)
  refine wpAny_bind (listItems_wp g ?_)
  refine wpAny_bind (wpAny_of_eq (sliceIndices_raw lo hi none items.size (by simp)) ?_)
  rw [slice_bounds]
  dsimp only
  rw [if_pos (by rfl)]
  refine wpAny_bind (wpAny_rule ?_)
  have hlong : Builtin.List.listTooLong (items.size + new.size) = false := by unfold Builtin.List.listTooLong; rw [decide_eq_false]; have : sizeLine = 16777216 := rfl; omega
  rw [hlong]
  rw [if_neg (by simp)]
  generalize hlo : lo.elim 0 (clipAt items.size) = a at *
  generalize hhi : hi.elim items.size (clipAt items.size) = b at *
  have e1 : ((a : Nat) : Int).toNat = a := by simp
  have e2 : (max ((a : Nat) : Int) ((b : Nat) : Int)).toNat = b := by omega
  rw [e1, e2]
  refine wpAny_bind (m := Builtin.List.listUpdate (.ref l) _) ?_
  have u := PySem.IsL.update (h := s.heap) (l := l) (items := items) (n := k) g (fun xs => xs.extract 0 a ++ new ++ xs.extract b)
  refine wpAny_updateSeq (hz := ?_) (_hz' := ?_) g rfl (wpAny_bind (wpAny_letGo (wpAny_pure ⟨.none, rfl, wpAny_pure (h _ _ (Heap.SameBut.update _ _ _) u)⟩)))
  · have : sizeLine = 16777216 := rfl
    omega
  · have : sizeLine = 16777216 := rfl
    simp only [Array.size_append, Array.size_extract]
    omega
end
end Mine
end

/-! Sound15 -/
section
open PySem PySem.W PySem.Calls PyProof.Rows
set_option linter.unusedVariables false
namespace Mine
section
variable {cx : Cx} {cf : CallF} {d : Nat} {P : Kept} {f : Frm} {ℓ : Loc} {ρ : Rho} {σ : St} {s s' : Shared}
/-! an object's field set -/
theorem upd_of_mem {d : Addr} {o o' : Obj} : ∀ {l : List (Addr × Obj)}, (l.map (·.1)).Nodup → (d, o) ∈ l → ∃ l', Upd d o o' l l' ∧ (d, o') ∈ l' ∧ ∀ p ∈ l, p.1 ≠ d → p ∈ l'
  | [], _, h => by cases h
  | p :: r, nd, h => by
    rw [List.map_cons, List.nodup_cons] at nd
    by_cases hp : p.1 = d
    · have : p = (d, o) := by
        rcases List.mem_cons.mp h with e | h
        · exact e.symm
        · exact absurd (List.mem_map.mpr ⟨(d, o), h, hp.symm⟩) nd.1
      subst this
      refine ⟨(d, o') :: r, .head (fun q hq e => nd.1 (List.mem_map.mpr ⟨q, hq, e⟩)), List.mem_cons_self, fun q hq hne => ?_⟩
      rcases List.mem_cons.mp hq with rfl | hq
      · exact absurd rfl hne
      · exact List.mem_cons_of_mem _ hq
    · rcases List.mem_cons.mp h with e | h
      · exact absurd (by rw [← e]) hp
      · obtain ⟨l', u, m, k⟩ := upd_of_mem (o' := o') nd.2 h
        refine ⟨p :: l', .tail hp u, List.mem_cons_of_mem _ m, fun q hq hne => ?_⟩
        rcases List.mem_cons.mp hq with rfl | hq
        · exact List.mem_cons_self
        · exact List.mem_cons_of_mem _ (k q hq hne)
theorem allNews_nodup (base : Heap) (L : Addr) (h : Heap) : ((allNews base L h).map (·.1)).Nodup := by
  have : ∀ (l : List Addr), l.Nodup → ((l.filterMap fun a => if a = L then none else if (base.get? a).isSome then none else (h.get? a).map fun o => (a, o)).map (·.1)).Nodup := by
    intro l
    induction l with
    | nil => intro _; simp
    | cons a r ih =>
      intro nd
      rw [List.nodup_cons] at nd
      rw [List.filterMap_cons]
      split
      · exact ih nd.2
      · rename_i b hb
        rw [List.map_cons, List.nodup_cons]
        refine ⟨fun hm => ?_, ih nd.2⟩
        have e1 : b.1 = a := by
          split at hb
          · cases hb
          · split at hb
            · cases hb
            · obtain ⟨o, _, rfl⟩ := Option.map_eq_some_iff.mp hb; rfl
        obtain ⟨c, hc, hce⟩ := List.mem_map.mp hm
        obtain ⟨a', ha', hc'⟩ := List.mem_filterMap.mp hc
        have e2 : c.1 = a' := by
          split at hc'
          · cases hc'
          · split at hc'
            · cases hc'
            · obtain ⟨o, _, rfl⟩ := Option.map_eq_some_iff.mp hc'; rfl
        exact nd.1 (by rw [← e1, ← hce, e2]; exact ha')
  exact this _ List.nodup_range
theorem ents_put {x : String} {v : V} {w : Value} {t : Tok} (q : VR ρ v w) : ∀ {es : List (String × V)} {l : List DictEntry}, All2 (EntR cx ρ) es l → All2 (EntR cx ρ) (setField es x v) (putL (Str.ofString x) (PyData.keyHash cx.w.params (Str.ofString x)) (.str (Str.ofString x) t) w l)
  | _, _, .nil => .cons ⟨⟨t, rfl⟩, rfl, q⟩ .nil
  | (a, b) :: es, e :: l, .cons h r => by
    have hk := ent_isStr h x
    unfold setField putL
    rw [hk]
    by_cases hx : x = a
    · subst hx
      simp only [beq_self_eq_true, if_true]
      exact .cons ⟨h.1, h.2.1, q⟩ r
    · have h1 : (x == a) = false := beq_eq_false_iff_ne.mpr hx
      have h2 : (a == x) = false := beq_eq_false_iff_ne.mpr (Ne.symm hx)
      dsimp only at h1 ⊢
      rw [h1, h2]
      exact .cons h (ents_put q r)
theorem setField_len {es : List (String × V)} {l : List DictEntry} (h : All2 (EntR cx ρ) es l) : es.length = l.length := h.length
theorem putField_some {σ σ' : St} {a : Nat} {mk : List (String × V) → O} {fs : List (String × V)} {x : String} {v : V} (h : putField σ a mk fs x v = some σ') : (setField fs x v).length ≤ 1000 ∧ σ' = σ.set a (mk (setField fs x v)) ∧ a ≠ 0 := by
  unfold putField at h
  split at h <;> cases h
  rename_i hh
  exact ⟨hh.1, rfl, hh.2⟩
theorem setAttr_wp (T : CxTop cx) (I : FInv cx P f ℓ ρ σ s) {n : Nat} {w wv : Value} {c : String} {fs : List (String × V)} {x : String} {v : V} (h : σ[n]? = some (.inst c fs)) (q : VR ρ (.ref n) w) (qv : VR ρ v wv)
    (hx : attrNames.contains x = true) {σ' : St} (hp : putField σ n (.inst c) fs x v = some σ') {A Q Ex} (k : ∀ s', FInv cx P f ℓ ρ σ' s' → Q () s') : wpAny (Md cx) A (setAttr w (Str.ofString x) wv) Q Ex s := by
  obtain ⟨hlen, rfl, hn0⟩ := putField_some hp
  obtain ⟨a, dd, C, l, n', rfl, e, hc, g, g', z, y⟩ := I.st.instAt h q
  obtain ⟨m, F, N, _⟩ := via_all I
  obtain ⟨_, t2, _⟩ := T.attrs c C x hc hx
  obtain ⟨u1, u2, u3⟩ := T.sets c C x hc hx
  have hnb : ∀ o, ¬ P dd o := I.st.free dd ⟨n, a, dd, e, .inr rfl⟩
  have hL : dd ≠ f.env.locals := fun q => I.lp.2.1 (q ▸ ⟨n, a, dd, e, .inr rfl⟩)
  have hmem : (dd, dictOf l n') ∈ allNews cx.base f.env.locals s.heap := by
    rw [mem_allNews]
    refine ⟨g', hL, ?_⟩
    cases hb : cx.base.get? dd with
    | none => rfl
    | some o => exact absurd (I.st.base _ _ hb) (hnb o)
  have y' := ents_put (cx := cx) (x := x) (t := s.toks + 1) qv y
  obtain ⟨news', U, hm', keep⟩ := upd_of_mem (o' := dictOf (putL (Str.ofString x) (PyData.keyHash cx.w.params (Str.ofString x)) (.str (Str.ofString x) (s.toks + 1)) wv l) (putN (Str.ofString x) l n')) (allNews_nodup _ _ _) hmem
  have hl : (getL (Str.ofString x) l).isSome = true := by
    cases hh : fs.lookup x with
    | none => rw [getL_none y hh]; rfl
    | some u => obtain ⟨w', h1, _⟩ := getL_some y hh; rw [h1]; rfl
  refine set_dict F T.kin N ⟨g, rfl, rfl, g'⟩ rfl u1 u2 u3 t2 hl rfl U (by rw [← y'.length]; exact hlen) fun h' F' N' => k _ ?_
  refine I.change (s' := { s with heap := h', toks := s.toks + 2 }) hn0 h e (.inr rfl) (dict_not_tup g') (fun b o hb hbL hg => ?_) (fun m' hn => by rw [Ns_unique hn F.ns]; exact F'.ns) ⟨C, _, _, hc, ?_, (N' _ hm').1, by rw [← y'.length]; exact hlen, y'⟩ rfl rfl
  · cases hB : cx.base.get? b with
    | none => exact (N' (b, o) (keep (b, o) (mem_allNews.mpr ⟨hg, hbL, hB⟩) hb)).1
    | some o' =>
      have := F.keep b o' hB
      rw [hg] at this; cases this
      exact F'.keep b o hB
  · have hda : a ≠ dd := by
      intro q
      rw [q, g'] at g; cases g
    have hLa : a ≠ f.env.locals := fun q => I.lp.2.1 (q ▸ ⟨n, a, dd, e, .inl rfl⟩)
    cases hB : cx.base.get? a with
    | none => exact (N' (a, _) (keep (a, instObj C dd) (mem_allNews.mpr ⟨g, hLa, hB⟩) hda)).1
    | some o' =>
      have := F.keep a o' hB
      rw [g] at this; cases this
      exact F'.keep a _ hB
/-! a dict's entry set -/
def setK : List (Str × Value) → Str → Value → List (Str × Value)
  | [], k, v => [(k, v)]
  | (a, b) :: r, k, v => if a = k then (a, v) :: r else (a, b) :: setK r k v
theorem stored_setK : ∀ {kvs : List (Str × Value)} (k : Str) (v : Value), (kvs.map (·.1)).Nodup → stored kvs k v = setK kvs k v
  | [], k, v, _ => rfl
  | (a, b) :: r, k, v, nd => by
    rw [List.map_cons, List.nodup_cons] at nd
    have ih := stored_setK (kvs := r) k v nd.2
    show stored ((a, b) :: r) k v = if a = k then (a, v) :: r else (a, b) :: setK r k v
    unfold stored at ih ⊢
    by_cases h : a = k
    · subst h
      simp only [List.any_cons, decide_true, Bool.true_or, if_true, List.map_cons]
      rw [map_store_of_not_mem r a v nd.1]
    · simp only [List.any_cons, decide_eq_false h, Bool.false_or, List.map_cons, if_neg h, List.cons_append]
      by_cases h2 : (r.any fun kv => decide (kv.1 = k)) = true
      · rw [if_pos h2] at ih ⊢; rw [ih]
      · rw [if_neg h2] at ih ⊢; rw [ih]
theorem kv_set {x : String} {v : V} {w : Value} (q : VR ρ v w) : ∀ {es : List (String × V)} {kvs : List (Str × Value)}, All2 (KV cx ρ) es kvs → All2 (KV cx ρ) (setField es x v) (setK kvs (Str.ofString x) w)
  | _, _, .nil => .cons ⟨rfl, q⟩ .nil
  | (a, b) :: es, (c, e) :: l, .cons h r => by
    unfold setField setK
    have h1 : c = Str.ofString a := h.1
    by_cases hx : a = x
    · subst hx
      rw [if_pos h1, if_pos (by simp)]
      exact .cons ⟨h1, q⟩ r
    · rw [if_neg (fun z => hx (ofString_inj (h1.symm.trans z))), if_neg (by simpa using hx)]
      exact .cons h (kv_set q r)
theorem setField_keys {x : String} {v : V} : ∀ {es : List (String × V)}, (es.map (·.1)).Nodup → ((setField es x v).map (·.1)).Nodup ∧ ∀ y, y ∈ (setField es x v).map (·.1) → y = x ∨ y ∈ es.map (·.1)
  | [], _ => by simp [setField]
  | (a, b) :: r, nd => by
    rw [List.map_cons, List.nodup_cons] at nd
    obtain ⟨h1, h2⟩ := setField_keys (x := x) (v := v) nd.2
    unfold setField
    by_cases hx : a = x
    · subst hx
      simp only [beq_self_eq_true, if_true, List.map_cons, List.nodup_cons]
      exact ⟨nd, fun y hy => .inr hy⟩
    · have h3 : (a == x) = false := beq_eq_false_iff_ne.mpr hx
      simp only [h3, Bool.false_eq_true, if_false, List.map_cons, List.nodup_cons]
      refine ⟨⟨fun hm => ?_, h1⟩, fun y hy => ?_⟩
      · rcases h2 a hm with h | h
        · exact hx h
        · exact nd.1 h
      · rcases List.mem_cons.mp hy with rfl | hy
        · exact .inr List.mem_cons_self
        · exact (h2 y hy).imp id (List.mem_cons_of_mem _)
theorem setDict_wp (I : FInv cx P f ℓ ρ σ s) {n : Nat} {w wv : Value} {es : List (String × V)} {x : String} {v : V} {t : Tok} (h : σ[n]? = some (.dict es)) (q : VR ρ (.ref n) w) (qv : VR ρ v wv) {σ' : St} (hp : putField σ n .dict es x v = some σ') {A Q Ex}
    (k : ∀ s', FInv cx P f ℓ ρ σ' s' → Q () s') : wpAny (Md cx) A (setItem w (.str (Str.ofString x) t) wv) Q Ex s := by
  obtain ⟨hlen, rfl, hn0⟩ := putField_some hp
  obtain ⟨a, l, k1, rfl, e, g, z, y, nd⟩ := I.st.dictAt h q
  obtain ⟨kvs, D, y2⟩ := dictOf_is g y nd.1
  refine wpAny_setItem_pairs (strKind_is cx.prog cx.w (Str.ofString x) t) D (fun h' D' hs => k _ ?_) ?_
  · rw [stored_setK _ _ (KV.nodup y2 nd.1)] at D'
    obtain ⟨l', n', g', hl', y'⟩ := is_dictOf D' (kv_set qv y2)
    have hin : inRho ρ a := ⟨n, a, a, e, .inl rfl⟩
    exact I.change (s' := { s with heap := h', toks := s.toks + 1 }) hn0 h e (.inl rfl) (dict_not_tup g) (fun b o h1 _ q => (hs.2 b h1).trans q) (fun m n => n.sameBut hs fun q => I.lp.2.1 (q ▸ hin)) ⟨rfl, l', n', g', by rw [hl']; exact hlen, y', (setField_keys nd.1).1, nd.2⟩ rfl rfl
  · rw [← y2.length, y.length]; exact Nat.le_trans z (by decide)
/-- a dict keyed by tuples, set -/
def TSet (cx : Cx) : Prop := ∀ {s : Shared} {a b : Addr} {es : List (TKey × Int)} {l : List DictEntry} {n m : Nat} {q : TKey} {t u : Tok} {z : Int} {tz : Tok} {A : Around} {dd : Nat} {Q : Unit → Shared → Prop} {Ex : Value → Shared → Prop}, Room A dd →
  s.heap.get? a = some (dictOf l n) → All2 (TEntR cx s.heap) es l → (es.map (·.1)).Nodup → s.heap.get? b = some (tupOf #[.str (mkS q.1) t, .int q.2.1 u, .bool q.2.2] m) → (a == sysModules) = false → es.length ≤ LIM →
  (∀ h' l' n' tk, Heap.SameBut a s.heap h' → h'.get? a = some (dictOf l' n') → All2 (TEntR cx h') (putT es q z) l' → ((putT es q z).map (·.1)).Nodup → Q () { s with heap := h', toks := tk }) → wpAny (Md cx) A (setItem (.ref a) (.ref b) (.int z tz)) Q Ex s
theorem setItem_wp (T : CxTop cx) (TS : TSet cx) (I : FInv cx P f ℓ ρ σ s) {x j w : V} {wx wj ww : Value} {σ' : St} (h : setItemF σ x j w = some σ') (qx : VR ρ x wx) (qj : VR ρ j wj) (qw : VR ρ w ww) {A} (R : Room A d) {Q Ex}
    (k : ∀ s', FInv cx P f ℓ ρ σ' s' → Q () s') : wpAny (Md cx) A (setItem wx wj ww) Q Ex s := by
  unfold setItemF at h
  split at h
  · rename_i a j
    simp only [Option.bind_eq_bind, Option.bind_eq_some_iff] at h
    obtain ⟨⟨a', vs⟩, hl, h⟩ := h
    obtain ⟨hr, hσ⟩ := getList_some hl
    cases hr
    split at h <;> cases h
    rename_i hh
    dsimp only at hh hσ k
    obtain ⟨ad, ws, k1, rfl, e, g, z, hL⟩ := I.st.listAt hσ qx
    obtain ⟨t, rfl⟩ := qj
    have hsz : ws.size = vs.length := by rw [z.length]; simp
    rw [LIM_small] at hL
    refine ki_setAt g hh.1 (by omega) (by rw [hsz]; exact hh.2.1) (k _ ?_)
    have g' := PySem.IsL.update (h := s.heap) (l := ad) (items := ws) (n := k1) g (fun xs => xs.setIfInBounds j.toNat ww)
    refine I.setList hh.2.2 hσ e g (Heap.SameBut.update _ _ _) g' ?_ (by rw [List.length_set, LIM_small]; exact hL) s.toks
    rw [Array.toList_setIfInBounds]
    exact z.set _ qw
  · rename_i a kk
    simp only [Option.bind_eq_bind, Option.bind_eq_some_iff] at h
    obtain ⟨es, ht, q, hq, h⟩ := h
    split at h
    case h_2 => cases h
    rename_i z
    split at h <;> cases h
    rename_i hlen
    have hσ := getT_some ht
    obtain ⟨ad, l, k1, rfl, e, g, y, nd⟩ := I.st.tdAt hσ qx
    obtain ⟨b, m, t, u, rfl, gb⟩ := I.st.keyAt hq qj
    obtain ⟨tz, rfl⟩ := qw
    refine TS R g y nd.1 gb (beq_eq_false_iff_ne.mpr nd.2) ?_ fun h' l' n' tk hs g' y' nd' => k _ ?_
    · rw [LIM_small]; have := hlen.1; omega
    · have hin : inRho ρ ad := ⟨a, ad, ad, e, .inl rfl⟩
      exact I.change (s' := { s with heap := h', toks := tk }) hlen.2 hσ e (.inl rfl) (dict_not_tup g) (fun b o h1 _ q => (hs.2 b h1).trans q) (fun m n => n.sameBut hs fun q => I.lp.2.1 (q ▸ hin)) ⟨rfl, l', n', g', y', nd', nd.2⟩ rfl rfl
  · cases h
end
end Mine
end

/-! Sound16 -/
section
open PySem PySem.W PySem.Calls PyProof.Rows
set_option linter.unusedVariables false
namespace Mine
def FlR (ρ : Rho) : Fl → Flow → Prop
  | .next, w => w = .next
  | .brk, w => w = .brk
  | .cont, w => w = .cont
  | .ret v, w => ∃ u, w = .ret u ∧ VR ρ v u
theorem FlR.mono {ρ ρ' : Rho} (r : ρ <+: ρ') : ∀ {a b}, FlR ρ a b → FlR ρ' a b
  | .next, _, h => h
  | .brk, _, h => h
  | .cont, _, h => h
  | .ret v, _, ⟨u, e, q⟩ => ⟨u, e, q.mono r⟩
section
variable (cx : Cx) (cf : CallF) (d : Nat)
def SS (st : S) : Prop := ∀ (pe : Stmt) (f : Frm), chkS f.env.scope.names st pe = true → Own cx f → ∀ {P ℓ ρ σ s A fl ℓ' σ'}, execS cf st ℓ σ = some (fl, ℓ', σ') → FInv cx P f ℓ ρ σ s → RoomS A d →
  ∀ {Q : Flow → Shared → Prop} {Ex : Value → Shared → Prop}, (∀ s' ρ' w, FInv cx P f ℓ' ρ' σ' s' → ρ <+: ρ' → FlR ρ' fl w → Q w s') → wpAny (Md cx) A (exec pe f.env) Q Ex s
def SSs (st : S) : Prop := ∀ (ps : List Stmt) (f : Frm), chkSs f.env.scope.names st ps = true → Own cx f → ∀ {P ℓ ρ σ s A fl ℓ' σ'}, execS cf st ℓ σ = some (fl, ℓ', σ') → FInv cx P f ℓ ρ σ s → RoomS A d →
  ∀ {Q : Flow → Shared → Prop} {Ex : Value → Shared → Prop}, (∀ s' ρ' w, FInv cx P f ℓ' ρ' σ' s' → ρ <+: ρ' → FlR ρ' fl w → Q w s') → wpAny (Md cx) A (execs ps f.env) Q Ex s
/-- a comprehension assigned -/
def SU (e : E) : Prop := ∀ (pe : Expr) (f : Frm), chkE f.env.scope.names e pe = true → isComp pe = true → ∀ {P ℓ ρ σ s A v σ'}, evalE cf e ℓ σ = some (v, σ') → FInv cx P f ℓ ρ σ s → Room A d →
  ∀ (x : String) (id : Str) (pos' pos : Pos), okName id x = true → OwnAt f x → swapsWith pe (some (.Name id pos')) pos.line f.env = pure true →
  ∀ {Q : Flow → Shared → Prop} {Ex : Value → Shared → Prop}, (∀ s' ρ', FInv cx P f (ℓ.set x v) ρ' σ' s' → ρ <+: ρ' → Q .next s') → wpAny (Md cx) A (exec (.Assign [.Name id pos'] pe pos) f.env) Q Ex s
end
section
variable {cx : Cx} {cf : CallF} {d : Nat} {P : Kept} {f : Frm} {ℓ : Loc} {ρ : Rho} {σ : St} {s s' : Shared}
theorem noSwap {ns : Nms} {e : E} {p : Expr} (h : chkE ns e p = true) (hc : isComp p = false) (t : Option Expr) (line : Nat) (env : Env) : swapsWith p t line env = pure false := by
  cases p <;> first | rfl | cases hc | skip
  all_goals
    exfalso
    unfold chkE at h
    cases e <;> dsimp only at h <;> first | cases h | (split at h <;> first | cases h | contradiction)
theorem not_interactive (I : FInv cx P f ℓ ρ σ s) : interactive f.env = false := by unfold interactive; rw [I.kind]; rfl
theorem swaps_pure (p : Expr) (x : Str) (pos' : Pos) (line : Nat) (env : Env) : ∃ b, swapsWith p (some (.Name x pos')) line env = pure b := by
  cases p <;> exact ⟨_, rfl⟩
theorem SS_done : SSs cx cf d .done := by
  intro ps f hc O P ℓ ρ σ s A fl ℓ' σ' he I RS Q Ex k
  have R := RS.toRoom
  unfold chkSs at hc
  split at hc
  · simp only [execS, Option.some.injEq, Prod.mk.injEq] at he
    obtain ⟨rfl, rfl, rfl⟩ := he
    exact wpAny_execs_nil (k s ρ _ I (List.prefix_refl _) rfl)
  · contradiction
  · cases hc
theorem SS_seq {a b : S} (h1 : SS cx cf d a) (h2 : SSs cx cf d b) : SSs cx cf d (.seq a b) := by
  intro ps f hc O P ℓ ρ σ s A fl ℓ' σ' he I RS Q Ex k
  have R := RS.toRoom
  unfold chkSs at hc
  split at hc
  · contradiction
  · rename_i hh; cases hh
    simp only [Bool.and_eq_true] at hc
    simp only [execS, Option.bind_eq_bind, Option.bind_eq_some_iff] at he
    obtain ⟨⟨f1, ℓ1, σ1⟩, he1, he2⟩ := he
    refine wpAny_execs_cons (h1 _ f hc.1 O he1 I RS fun s1 ρ1 w I1 r1 q1 => ?_)
    cases f1 with
    | next =>
      have q1' : w = .next := q1
      subst q1'
      exact h2 _ f hc.2 O he2 I1 RS fun s2 ρ2 w2 I2 r2 q2 => k s2 ρ2 w2 I2 (r1.trans r2) q2
    | brk =>
      have q1' : w = .brk := q1
      subst q1'
      cases he2; exact k s1 ρ1 _ I1 r1 rfl
    | cont =>
      have q1' : w = .cont := q1
      subst q1'
      cases he2; exact k s1 ρ1 _ I1 r1 rfl
    | ret v =>
      obtain ⟨u, rfl, q⟩ := q1
      cases he2; exact k s1 ρ1 _ I1 r1 ⟨u, rfl, q⟩
  · cases hc
theorem SS_expr {e : E} (h : SE cx cf d e) : SS cx cf d (.expr e) := by
  intro pe f hc O P ℓ ρ σ s A fl ℓ' σ' he I RS Q Ex k
  have R := RS.toRoom
  unfold chkS at hc
  split at hc
  case h_2 => cases hc
  simp only [Bool.and_eq_true, Bool.not_eq_true'] at hc
  simp only [execS, Option.bind_eq_bind, Option.bind_eq_some_iff, Option.some.injEq, Prod.mk.injEq] at he
  obtain ⟨⟨v, σ1⟩, he1, rfl, rfl, rfl⟩ := he
  exact wpAny_Expr_any (h _ f hc.1 he1 I R fun s1 ρ1 w I1 r1 q1 => k s1 ρ1 _ I1 r1 rfl) (not_interactive I) (noSwap hc.1 hc.2 _ _ _)
theorem SS_ret {e : E} (h : SE cx cf d e) : SS cx cf d (.retS e) := by
  intro pe f hc O P ℓ ρ σ s A fl ℓ' σ' he I RS Q Ex k
  have R := RS.toRoom
  simp only [execS, Option.bind_eq_bind, Option.bind_eq_some_iff, Option.some.injEq, Prod.mk.injEq] at he
  obtain ⟨⟨v, σ1⟩, he1, rfl, rfl, rfl⟩ := he
  unfold chkS at hc
  split at hc
  · split at hc
    case h_2 => cases hc
    simp only [evalE, Option.some.injEq, Prod.mk.injEq] at he1
    obtain ⟨rfl, rfl⟩ := he1
    exact wpAny_Return_none (k s ρ _ I (List.prefix_refl _) ⟨_, rfl, rfl⟩)
  · exact wpAny_Return_some (h _ f hc he1 I R fun s1 ρ1 w I1 r1 q1 => k s1 ρ1 _ I1 r1 ⟨w, rfl, q1⟩)
  · cases hc
theorem SS_pass : SS cx cf d .passS := by
  intro pe f hc O P ℓ ρ σ s A fl ℓ' σ' he I RS Q Ex k
  have R := RS.toRoom
  unfold chkS at hc
  split at hc
  case h_2 => cases hc
  simp only [execS, Option.some.injEq, Prod.mk.injEq] at he
  obtain ⟨rfl, rfl, rfl⟩ := he
  exact wpAny_Pass (k s ρ _ I (List.prefix_refl _) rfl)
theorem SS_brk : SS cx cf d .brkS := by
  intro pe f hc O P ℓ ρ σ s A fl ℓ' σ' he I RS Q Ex k
  have R := RS.toRoom
  unfold chkS at hc
  split at hc
  case h_2 => cases hc
  simp only [execS, Option.some.injEq, Prod.mk.injEq] at he
  obtain ⟨rfl, rfl, rfl⟩ := he
  exact wpAny_Break (k s ρ _ I (List.prefix_refl _) rfl)
theorem SS_cont : SS cx cf d .contS := by
  intro pe f hc O P ℓ ρ σ s A fl ℓ' σ' he I RS Q Ex k
  have R := RS.toRoom
  unfold chkS at hc
  split at hc
  case h_2 => cases hc
  simp only [execS, Option.some.injEq, Prod.mk.injEq] at he
  obtain ⟨rfl, rfl, rfl⟩ := he
  exact wpAny_Continue (k s ρ _ I (List.prefix_refl _) rfl)
theorem SS_if {c : E} {t e : S} (h1 : ST cx cf d c) (h2 : SSs cx cf d t) (h3 : SSs cx cf d e) : SS cx cf d (.ifS c t e) := by
  intro pe f hc O P ℓ ρ σ s A fl ℓ' σ' he I RS Q Ex k
  have R := RS.toRoom
  unfold chkS at hc
  split at hc
  case h_2 => cases hc
  simp only [Bool.and_eq_true] at hc
  simp only [execS, Option.bind_eq_bind, Option.bind_eq_some_iff] at he
  obtain ⟨⟨v, σ1⟩, he1, b, hb, he2⟩ := he
  refine wpAny_If (h1 _ f hc.1.1 he1 hb I R fun s1 ρ1 I1 r1 => ?_)
  cases b with
  | true =>
    rw [if_pos rfl]
    exact h2 _ f hc.1.2 O he2 I1 RS fun s2 ρ2 w I2 r2 q2 => k s2 ρ2 w I2 (r1.trans r2) q2
  | false =>
    rw [if_neg (by simp)]
    exact h3 _ f hc.2 O he2 I1 RS fun s2 ρ2 w I2 r2 q2 => k s2 ρ2 w I2 (r1.trans r2) q2
theorem evalC_some {c : E} {ns : Nms} {p : Expr} (hc : chkE ns c p = true) {b : Bool} {σ' : St} (h : evalC cf c ℓ σ = some (b, σ')) : ∃ v, evalE cf c ℓ σ = some (v, σ') ∧ truthy σ' v = some b := by
  unfold evalC at h
  split at h
  · unfold chkE at hc; cases hc
  · simp only [Option.bind_eq_bind, Option.bind_eq_some_iff, Option.some.injEq, Prod.mk.injEq] at h
    obtain ⟨⟨v, σ1⟩, h1, b', h2, rfl, rfl⟩ := h
    exact ⟨v, h1, h2⟩
theorem SS_while {c : E} {b : S} (h1 : ST cx cf d c) (h2 : SSs cx cf d b) : SS cx cf d (.whileS c b) := by
  intro pe f hc O P ℓ ρ σ s A fl ℓ' σ' he I RS Q Ex k
  have R := RS.toRoom
  unfold chkS at hc
  split at hc
  case h_2 => cases hc
  simp only [Bool.and_eq_true] at hc
  simp only [execS] at he
  refine wpAny_While (codeAny_whileLoop (fun n s' => ∃ ℓ1 σ1 ρ1, whileGo (fun ℓ σ => evalC cf c ℓ σ) (fun ℓ σ => execS cf b ℓ σ) n ℓ1 σ1 = some (fl, ℓ', σ') ∧ FInv cx P f ℓ1 ρ1 σ1 s' ∧ ρ <+: ρ1) (fun n s hinv => ?_) WLIM ⟨ℓ, σ, ρ, he, I, List.prefix_refl _⟩)
  obtain ⟨ℓ1, σ1, ρ1, hgo, I1, r1⟩ := hinv
  cases n with
  | zero => unfold whileGo at hgo; cases hgo
  | succ n =>
    unfold whileGo at hgo
    simp only [Option.bind_eq_bind, Option.bind_eq_some_iff] at hgo
    obtain ⟨⟨t, σ2⟩, hcv, hgo⟩ := hgo
    obtain ⟨v, hv, ht⟩ := evalC_some hc.1 hcv
    refine h1 _ f hc.1 hv ht I1 R fun s2 ρ2 I2 r2 => ?_
    dsimp only at hgo
    cases t with
    | true =>
      rw [if_pos rfl] at hgo ⊢
      simp only [Option.bind_eq_some_iff] at hgo
      obtain ⟨⟨f3, ℓ3, σ3⟩, hb, hgo⟩ := hgo
      refine h2 _ f hc.2 O hb I2 RS fun s3 ρ3 w I3 r3 q3 => ?_
      cases f3 with
      | next =>
        have q3' : w = .next := q3
        subst q3'
        exact ⟨n, Nat.lt_succ_self _, ℓ3, σ3, ρ3, hgo, I3, r1.trans (r2.trans r3)⟩
      | cont =>
        have q3' : w = .cont := q3
        subst q3'
        exact ⟨n, Nat.lt_succ_self _, ℓ3, σ3, ρ3, hgo, I3, r1.trans (r2.trans r3)⟩
      | brk =>
        have q3' : w = .brk := q3
        subst q3'
        cases hgo
        exact k s3 ρ3 _ I3 (r1.trans (r2.trans r3)) rfl
      | ret u =>
        obtain ⟨uw, rfl, q⟩ := q3
        cases hgo
        exact k s3 ρ3 _ I3 (r1.trans (r2.trans r3)) ⟨uw, rfl, q⟩
    | false =>
      rw [if_neg (by simp)] at hgo ⊢
      cases hgo
      exact wpAny_execs_nil (k s2 ρ2 _ I2 (r1.trans r2) rfl)
theorem SS_for {t : Tgt} {it : E} {b : S} (h1 : SSrc cx cf d it) (h2 : SSs cx cf d b) : SS cx cf d (.forS t it b) := by
  intro pe f hc O P ℓ ρ σ s A fl ℓ' σ' he I RS Q Ex k
  have R := RS.toRoom
  unfold chkS at hc
  split at hc
  case h_2 => cases hc
  rename_i tg i bs pos
  simp only [Bool.and_eq_true] at hc
  obtain ⟨⟨hc1, hc2⟩, hc3⟩ := hc
  simp only [execS, Option.bind_eq_bind, Option.bind_eq_some_iff] at he
  obtain ⟨⟨src, σ1⟩, he1, n, hn, hgo⟩ := he
  dsimp only at hn hgo
  have hb : ∀ b o, cx.base.get? b = some o → P b o := I.st.base
  refine wpAny_For (h1 _ f hc1 he1 hn I R fun s1 ρ1 itA L I1 r1 hI S => ?_) (fun x => chkSrc_notSet hc1 f.env x)
  refine codeAny_forLoop_any (fun r s' => ∃ i ℓ2 σ2 ρ2 L, i + r = n ∧ forGo src t n (fun ℓ σ => execS cf b ℓ σ) r i ℓ2 σ2 = some (fl, ℓ', σ') ∧ FInv cx P f ℓ2 ρ2 σ2 s' ∧ ItAt ρ2 i itA src L ∧ Stand cx P f ρ2 s'.heap L ∧ ρ <+: ρ2) (fun r s hinv => ?_) n
    ⟨0, ℓ, σ1, ρ1, L, by omega, hgo, I1, hI, S, r1⟩
  obtain ⟨i', ℓ2, σ2, ρ2, L, hir, hgo, I2, hI, S, rr⟩ := hinv
  cases r with
  | zero =>
    unfold forGo at hgo
    split at hgo <;> cases hgo
    rename_i hn'
    have : i' = n := by omega
    subst this
    exact src_end I2 hI S hn' R.han fun s' I' => wpAny_execs_nil (k s' ρ2 _ I' rr rfl)
  | succ r =>
    unfold forGo at hgo
    split at hgo
    case isFalse => cases hgo
    rename_i hn'
    simp only [Option.bind_eq_bind, Option.bind_eq_some_iff] at hgo
    obtain ⟨ℓ3, hb', ⟨f3, ℓ4, σ4⟩, hbv, hgo⟩ := hgo
    dsimp only at hgo
    refine src_turn I2 hc2 (O.tgt hc2) hI S hn' (by omega) hb' R.han fun s3 L3 I3 hI3 np3 => ?_
    refine h2 _ f hc3 O hbv I3 RS fun s4 ρ4 w I4 r4 q4 => ?_
    obtain ⟨I5, S5⟩ := I4.unhold hb np3 hI3.plain
    cases f3 with
    | next =>
      have q4' : w = .next := q4
      subst q4'
      exact ⟨r, Nat.lt_succ_self _, i' + 1, ℓ4, σ4, ρ4, L3, by omega, hgo, I5, hI3.mono r4, S5, rr.trans r4⟩
    | cont =>
      have q4' : w = .cont := q4
      subst q4'
      exact ⟨r, Nat.lt_succ_self _, i' + 1, ℓ4, σ4, ρ4, L3, by omega, hgo, I5, hI3.mono r4, S5, rr.trans r4⟩
    | brk =>
      have q4' : w = .brk := q4
      subst q4'
      cases hgo
      exact k s4 ρ4 _ I5 (rr.trans r4) rfl
    | ret u =>
      obtain ⟨uw, rfl, q⟩ := q4
      cases hgo
      exact k s4 ρ4 _ I5 (rr.trans r4) ⟨uw, rfl, q⟩
end
end Mine
end

/-! Sound17 -/
section
open PySem PySem.W PySem.Calls PyProof.Rows
set_option linter.unusedVariables false
namespace Mine
section
variable {cx : Cx} {cf : CallF} {d : Nat} {P : Kept} {f : Frm} {ℓ : Loc} {ρ : Rho} {σ : St} {s s' : Shared}
theorem SU_comp (T : CxTop cx) {vis : List String} {elt it cond : E} {t : Tgt} (hsrc : SSrc cx cf d it) (helt : SE cx cf d elt) (hcond : SC cx cf d cond) : SU cx cf d (.comp vis elt t it cond) := by
  intro pe f hc hcomp P ℓ ρ σ s A v σ' he I R x id pos' pos ok ow hsw Q Ex k
  have hc' := hc
  unfold chkE at hc
  split at hc
  case h_2 => cases hc
  rename_i p tg i ifs sc cpos
  rw [exec_Assign_Name_used _ _ _ _ hsw]
  refine wpAny_bind (wpAny_standAt (wpAny_bind ?_))
  show wpAny _ A (do let _ ← comprehension (.ListComp p [⟨tg, i, ifs, 0⟩] sc cpos) sc f.env _ (newList []) false (eval i f.env) (some (assign (.Name id pos') f.env))) _ _ s
  refine wpAny_bind (wpAny_mono (comp_core T hsrc helt hcond hc' he I R (use := some (assign (.Name id pos') f.env)) (Q := fun _ s' => Q .next s') fun D C s' ρ' σ1 vs ws kk I1 r1 z hL hv hσ LD gD LC hDC ⟨m, hm⟩ => ?_) (fun _ s' hq => wpAny_pure (wpAny_pure hq)) fun _ _ e => e)
  subst hv hσ
  have I2 := I1.adopt LD LD (o := .list vs) ⟨rfl, hL, ws, kk, gD, VRs.mono (List.prefix_append _ _) z⟩
  have LC2 : Loose cx P f (ρ' ++ [(D, D)]) C := LC.mono fun q => q.append.elim LC.nr fun q => q.elim (fun e => hDC e.symm) (fun e => hDC e.symm)
  obtain ⟨oC, es, ep, gC, hd, hrest⟩ := hm
  have I3 := I2.hold (Stand.one LC2 gC)
  show wpAny (Md cx) A (assign (.Name id pos') f.env (.ref D)) _ _ _
  refine I3.assignName ok ow (new_ref I1.st.len) fun s2 I4 => ?_
  obtain ⟨I5, S5⟩ := I4.drop I.st.base (fun p hp => by rw [List.mem_singleton] at hp; subst hp; exact LC2.np) (fun p hp v => by rw [List.mem_singleton] at hp; subst hp; dsimp only; rw [hd]; simp)
  obtain ⟨LC5, gC5⟩ := S5 _ List.mem_cons_self
  dsimp only at LC5 gC5
  have hm5 : s2.heap.Ns C m := ⟨oC, es, ep, gC5, hd, hrest⟩
  refine ⟨m, hm5, fun h' hs => ?_⟩
  have I6 : FInv cx P f (ℓ.set x (.ref σ1.length)) (ρ' ++ [(D, D)]) (σ1 ++ [.list vs]) { s2 with heap := h' } := I5.growAt LC5 (Ns_not_tup hm5) (fun b o hb e => (hs.2 b hb).trans e) I5.st.bare rfl
  exact k _ _ I6 (r1.trans (List.prefix_append _ _))
theorem SU_no {e : E} (h : ∀ ns pe, chkE ns e pe = true → isComp pe = false) : SU cx cf d e := by
  intro pe f hc hcomp
  rw [h _ _ hc] at hcomp; cases hcomp
def swapOK : Expr → Bool
  | .Tuple vs _ _ => !vs.all (constantsAlone 8)
  | _ => true
theorem swapped_cases {i j : Str} {pi pj pos : Pos} {q} {p : Expr} {env : Env} (h : swapOK p = true) :
    swappedStores [.Tuple [.Name i pi, .Name j pj] q pos] p env = pure none ∨ swappedStores [.Tuple [.Name i pi, .Name j pj] q pos] p env = pure (some [i, j]) := by
  cases p with
  | Tuple vs a b =>
    have h' : vs.all (constantsAlone 8) = false := by simpa [swapOK] using h
    unfold swappedStores
    dsimp only
    split
    · exact .inl rfl
    · split
      · exact .inl rfl
      · split
        · exact .inl rfl
        · split
          · exact .inl rfl
          · rw [if_neg (by rw [h']; simp)]
            right
            rename_i hn _
            generalize hLL : List.filterMap _ _ = L at hn ⊢
            rw [List.filterMap_cons, List.filterMap_cons, List.filterMap_nil] at hLL
            dsimp only at hLL
            have : L = [i, j] := by
              by_cases c1 : (env.kindOf i == some NameKind.local && pi.line == (Option.map (fun x => (Expr.pos x).line) [Expr.Name i pi, Expr.Name j pj].head?).getD 0) = true
              · by_cases c2 : (env.kindOf j == some NameKind.local && pj.line == (Option.map (fun x => (Expr.pos x).line) [Expr.Name i pi, Expr.Name j pj].head?).getD 0) = true
                · rw [if_pos c1, if_pos c2] at hLL
                  exact hLL.symm
                · rw [if_pos c1, if_neg c2] at hLL
                  subst hLL; simp at hn
              · by_cases c2 : (env.kindOf j == some NameKind.local && pj.line == (Option.map (fun x => (Expr.pos x).line) [Expr.Name i pi, Expr.Name j pj].head?).getD 0) = true
                · rw [if_neg c1, if_pos c2] at hLL
                  subst hLL; simp at hn
                · rw [if_neg c1, if_neg c2] at hLL
                  subst hLL; simp at hn
            rw [this]
  | _ => exact .inl rfl
theorem SS_assign {t : Tgt} {e : E} (h1 : SE cx cf d e) (h2 : SU cx cf d e) : SS cx cf d (.assign t e) := by
  intro pe f hc O P ℓ ρ σ s A fl ℓ' σ' he I RS Q Ex k
  have R := RS.toRoom
  unfold chkS at hc
  split at hc
  case h_2 => cases hc
  rename_i tg p pos
  simp only [Bool.and_eq_true] at hc
  obtain ⟨⟨hc1, hc2⟩, hc3⟩ := hc
  simp only [execS, Option.bind_eq_bind, Option.bind_eq_some_iff, Option.some.injEq, Prod.mk.injEq] at he
  obtain ⟨⟨v, σ1⟩, he1, ℓ1, hb, rfl, rfl, rfl⟩ := he
  dsimp only at hb
  have ow := O.tgt hc1
  cases t with
  | one x =>
    obtain ⟨id, pos', rfl, ok, _⟩ := chkTgt_one hc1
    cases hb
    have plain : swapsWith p (some (.Name id pos')) pos.line f.env = pure false → wpAny (Md cx) A (exec (.Assign [.Name id pos'] p pos) f.env) Q Ex s := fun hs => by
      refine wpAny_Assign_Name (h1 _ f hc2 he1 I R fun s1 ρ1 w I1 r1 q1 => ?_) hs
      obtain ⟨rfl, _, _⟩ := okName_eq ok
      exact I1.store ow q1 fun s2 I2 => k s2 ρ1 _ I2 r1 rfl
    cases hcomp : isComp p with
    | false => exact plain (noSwap hc2 hcomp _ _ _)
    | true =>
      obtain ⟨b, hsw⟩ := swaps_pure p id pos' pos.line f.env
      cases b with
      | false => exact plain hsw
      | true => exact h2 p f hc2 hcomp he1 I R x id pos' pos ok ow hsw fun s2 ρ2 I2 r2 => k s2 ρ2 _ I2 r2 rfl
  | many xs =>
    obtain ⟨x, y, i, j, pi, pj, q, tpos, rfl, hxy, rfl, a1, _, b1, _⟩ := chkTgt_many hc1
    have hw : swappedStores [.Tuple [.Name i pi, .Name j pj] q tpos] p f.env = pure none := by
      cases p <;> first | rfl | cases hc3
    have hsw : swapsWithSole [.Tuple [.Name i pi, .Name j pj] q tpos] p pos.line f.env = pure false := by cases p <;> rfl
    exact Assign_Tuple (h1 _ f hc2 he1 I R fun s1 ρ1 w I1 r1 q1 => I1.assignTgt hc1 ow q1 hb R.han fun s2 I2 => k s2 ρ1 _ I2 r1 rfl) hsw hw
theorem SS_swap {t : Tgt} {e : E} (h1 : SE cx cf d e) : SS cx cf d (.swap t e) := by
  intro pe f hc O P ℓ ρ σ s A fl ℓ' σ' he I RS Q Ex k
  have R := RS.toRoom
  cases t with
  | one x => unfold chkS at hc; cases hc
  | many xs =>
    unfold chkS at hc
    split at hc
    case h_2 => cases hc
    rename_i ts kk q p pos
    simp only [Bool.and_eq_true] at hc
    obtain ⟨⟨hc1, hc2⟩, hc3⟩ := hc
    simp only [execS, Option.bind_eq_bind, Option.bind_eq_some_iff, Option.some.injEq, Prod.mk.injEq] at he
    obtain ⟨⟨v, σ1⟩, he1, ℓ1, hb, rfl, rfl, rfl⟩ := he
    dsimp only at hb
    have ow := O.tgt hc1
    have hc1' := hc1
    obtain ⟨x, y, i, j, pi, pj, qq, tpos, rfl, hxy, hts, a1, _, b1, _⟩ := chkTgt_many hc1
    cases hts
    have hsw : swapsWithSole [.Tuple [.Name i pi, .Name j pj] kk q] p pos.line f.env = pure false := by cases p <;> rfl
    have hcond : swapOK p = true := by
      cases p <;> first | rfl | exact hc3
    rcases swapped_cases (i := i) (j := j) (pi := pi) (pj := pj) (pos := q) (q := kk) (env := f.env) hcond with hw | hw
    · exact Assign_Tuple (h1 _ f hc2 he1 I R fun s1 ρ1 w I1 r1 q1 => I1.assignTgt hc1' ow q1 hb R.han fun s2 I2 => k s2 ρ1 _ I2 r1 rfl) hsw hw
    · refine Assign_Tuple_swapped (h1 _ f hc2 he1 I R fun s1 ρ1 w I1 r1 q1 => ?_) hsw hw
      simp only [bindTgt, Option.bind_eq_bind, Option.bind_eq_some_iff] at hb
      obtain ⟨vs, hv, hb⟩ := hb
      obtain ⟨n, rfl, hσ⟩ := getTuple_some hv
      obtain ⟨va, vb, rfl, rfl⟩ := bindMany_two hb
      obtain ⟨ad, ws, k1, rfl, e, g, z, _⟩ := I1.st.tupAt hσ q1
      obtain ⟨w1, w2, e1, p1, p2⟩ := VRs.two z
      have : ws = #[w1, w2] := by rw [← Array.toList_inj, e1]
      subst this
      change wpAny (Md cx) A (unpackItems (.ref ad) (#[w1, w2] : Array Value).size none) _ _ _
      refine unpackItems_tuple (items := #[w1, w2]) R.han ⟨_, g, rfl, k1, rfl⟩ fun h' hx => ?_
      have I2 : FInv cx P f ℓ ρ1 σ1 { s1 with heap := h' } := I1.grow' (fun b o e => hx b o (fun z => by subst z; rw [fresh_none] at e; cases e) e) I1.st.bare rfl
      obtain ⟨rfl, _, _⟩ := okName_eq a1
      obtain ⟨rfl, _, _⟩ := okName_eq b1
      show wpAny (Md cx) A (do holding [w1] (bindName f.env (Str.ofString y) w2); do holding [] (bindName f.env (Str.ofString x) w1); pure ()) _ Ex _
      refine wpAny_bind (wpAny_holding (bindName_ (I2.store (ow y (by simp)) p2 fun s2 I3 => wpAny_bind (wpAny_holding (bindName_ (I3.store (ow x (by simp)) p1 fun s3 I4 => wpAny_pure (k s3 ρ1 _ ?_ r1 rfl)))))))
      have : (ℓ.set x va).set y vb = (ℓ.set y vb).set x va := by
        funext n
        unfold Loc.set
        by_cases h1 : n = y
        · subst h1; rw [if_pos rfl, if_neg (Ne.symm hxy)]; simp
        · rw [if_neg h1]; simp only [if_neg h1]
      rw [this]; exact I4
end
end Mine
end

/-! Sound18 -/
section
open PySem PySem.W PySem.Calls PyProof.Rows
set_option linter.unusedVariables false
namespace Mine
section
variable {cx : Cx} {cf : CallF} {d : Nat} {P : Kept} {f : Frm} {ℓ : Loc} {ρ : Rho} {σ : St} {s s' : Shared}
theorem SS_setAttr (T : CxTop cx) {o v : E} {x : String} (h1 : SE cx cf d v) (h2 : SE cx cf d o) : SS cx cf d (.setAttr o x v) := by
  intro pe f hc O P ℓ ρ σ s A fl ℓ' σ' he I RS Q Ex k
  have R := RS.toRoom
  unfold chkS at hc
  split at hc
  case h_2 => cases hc
  simp only [Bool.and_eq_true, beq_iff_eq, Bool.not_eq_true'] at hc
  obtain ⟨⟨⟨⟨hc1, hc2⟩, rfl⟩, hc3⟩, hc4⟩ := hc
  simp only [execS, Option.bind_eq_bind, Option.bind_eq_some_iff, Option.some.injEq, Prod.mk.injEq] at he
  obtain ⟨⟨w, σ1⟩, he1, ⟨xv, σ2⟩, he2, ⟨n, c, fs⟩, hi, σ3, hp, rfl, rfl, rfl⟩ := he
  dsimp only at hi hp
  obtain ⟨rfl, hσ⟩ := getInst_some hi
  refine plainObj_wpAny_Assign_Attribute (h1 _ f hc1 he1 I R fun s1 ρ1 w1 I1 r1 q1 => h2 _ f hc2 he2 I1 R fun s2 ρ2 w2 I2 r2 q2 => ?_) (noSwap hc1 hc4 _ _ _)
  exact setAttr_wp T I2 hσ q2 (q1.mono r2) hc3 hp fun s3 I3 => k s3 ρ2 _ I3 (r1.trans r2) rfl
theorem SS_setSub (T : CxTop cx) (TS : TSet cx) {o i v : E} (h1 : SE cx cf d v) (h2 : SE cx cf d o) (h3 : SE cx cf d i) : SS cx cf d (.setSub o i v) := by
  intro pe f hc O P ℓ ρ σ s A fl ℓ' σ' he I RS Q Ex k
  have R := RS.toRoom
  unfold chkS at hc
  split at hc
  case h_2 => cases hc
  simp only [Bool.and_eq_true, Bool.not_eq_true'] at hc
  obtain ⟨⟨⟨⟨hc1, hc2⟩, hc3⟩, hc4⟩, hc5⟩ := hc
  simp only [execS, Option.bind_eq_bind, Option.bind_eq_some_iff, Option.some.injEq, Prod.mk.injEq] at he
  obtain ⟨⟨w, σ1⟩, he1, ⟨xv, σ2⟩, he2, ⟨j, σ3⟩, he3, σ4, hs, rfl, rfl, rfl⟩ := he
  dsimp only at hs
  refine wpAny_Assign_Subscript (h1 _ f hc1 he1 I R fun s1 ρ1 w1 I1 r1 q1 => h2 _ f hc2 he2 I1 R fun s2 ρ2 w2 I2 r2 q2 => h3 _ f hc3 he3 I2 R fun s3 ρ3 w3 I3 r3 q3 => ?_) (noSwap hc1 hc5 _ _ _)
  exact setItem_wp T TS I3 hs (q2.mono r3) q3 (q1.mono (r2.trans r3)) R fun s4 I4 => k s4 ρ3 _ I4 (r1.trans (r2.trans r3)) rfl
theorem SS_dset {o v : E} {x : String} (h1 : SE cx cf d v) (h2 : SE cx cf d o) : SS cx cf d (.dset o x v) := by
  intro pe f hc O P ℓ ρ σ s A fl ℓ' σ' he I RS Q Ex k
  have R := RS.toRoom
  unfold chkS at hc
  split at hc
  case h_2 => cases hc
  simp only [Bool.and_eq_true, beq_iff_eq, Bool.not_eq_true'] at hc
  obtain ⟨⟨⟨hc1, hc2⟩, rfl⟩, hc4⟩ := hc
  simp only [execS, Option.bind_eq_bind, Option.bind_eq_some_iff, Option.some.injEq, Prod.mk.injEq] at he
  obtain ⟨⟨w, σ1⟩, he1, ⟨xv, σ2⟩, he2, ⟨n, es⟩, hi, σ3, hp, rfl, rfl, rfl⟩ := he
  dsimp only at hi hp
  obtain ⟨rfl, hσ⟩ := getDict_some hi
  refine wpAny_Assign_Subscript (h1 _ f hc1 he1 I R fun s1 ρ1 w1 I1 r1 q1 => h2 _ f hc2 he2 I1 R fun s2 ρ2 w2 I2 r2 q2 => Constant_str ?_) (noSwap hc1 hc4 _ _ _)
  exact setDict_wp (I2.toks _) hσ q2 (q1.mono r2) hp fun s3 I3 => k s3 ρ2 _ I3 (r1.trans r2) rfl
/-- a part of a slice -/
theorem part_sound {x : E} {px : Option Expr} (hx : SE cx cf d x) (hcx : chkO f.env.scope.names x px = true) {v : V} {σ' : St} (hev : evalE cf x ℓ σ = some (v, σ')) (I : FInv cx P f ℓ ρ σ s) {A} (R : Room A d) {Q : Value → Shared → Prop} {Ex}
    (k : ∀ s' ρ' w, FInv cx P f ℓ ρ' σ' s' → ρ <+: ρ' → VR ρ' v w → Q w s') : wpAny (Md cx) A (evalPart px f.env) Q Ex s := by
  cases px with
  | none =>
    have hnil := isNilE_eq hcx
    subst hnil
    simp only [evalE, Option.some.injEq, Prod.mk.injEq] at hev
    obtain ⟨rfl, rfl⟩ := hev
    rw [evalPart_none]
    exact wpAny_pure (k s ρ _ I (List.prefix_refl _) rfl)
  | some px =>
    have hcx' : chkE f.env.scope.names x px = true := hcx
    rw [evalPart_some]
    exact hx px f hcx' hev I R k
theorem SS_setSlice {o lo hi v : E} (h1 : SE cx cf d v) (h2 : SE cx cf d o) (h3 : SE cx cf d lo) (h4 : SE cx cf d hi) : SS cx cf d (.setSlice o lo hi v) := by
  intro pe f hc O P ℓ ρ σ s A fl ℓ' σ' he I RS Q Ex k
  have R := RS.toRoom
  unfold chkS at hc
  split at hc
  case h_2 => cases hc
  simp only [Bool.and_eq_true, Bool.not_eq_true'] at hc
  obtain ⟨⟨⟨⟨hc1, hc2⟩, hc3⟩, hc4⟩, hc5⟩ := hc
  simp only [execS, Option.bind_eq_bind, Option.bind_eq_some_iff, Option.some.injEq, Prod.mk.injEq] at he
  obtain ⟨⟨w, σ1⟩, he1, ⟨xv, σ2⟩, he2, ⟨l, σ3⟩, he3, ⟨h, σ4⟩, he4, σ5, hs, rfl, rfl, rfl⟩ := he
  dsimp only at hs
  refine wpAny_Assign_Subscript (h1 _ f hc1 he1 I R fun s1 ρ1 w1 I1 r1 q1 => h2 _ f hc2 he2 I1 R fun s2 ρ2 w2 I2 r2 q2 => wpAny_Slice (part_sound h3 hc3 he3 I2 R fun s3 ρ3 w3 I3 r3 q3 => part_sound h4 hc4 he4 I3 R fun s4 ρ4 w4 I4 r4 q4 => ?_)) (noSwap hc1 hc5 _ _ _)
  rw [evalPart_none]
  refine wpAny_pure ?_
  unfold setSliceF at hs
  simp only [Option.bind_eq_bind, Option.bind_eq_some_iff] at hs
  obtain ⟨⟨a, vs⟩, hl1, ⟨b, ws⟩, hl2, la, hla, hb, hhb, hs⟩ := hs
  dsimp only at hla hhb hs
  obtain ⟨rfl, hσ1⟩ := getList_some hl1
  obtain ⟨rfl, hσ2⟩ := getList_some hl2
  split at hs <;> cases hs
  rename_i hh
  have I5 : FInv cx P f ℓ ρ4 σ4 { s4 with heap := s4.heap.push { cls := .type "slice", data := .fields #[w3, w4, .none] } } := I4.grow' (fun b o e => Heap.get?_push_of_some _ e) I4.st.bare rfl
  have hsl : (s4.heap.push { cls := .type "slice", data := .fields #[w3, w4, .none] }).get? s4.heap.objs.size = some { cls := .type "slice", data := .fields #[w3, w4, .none] } := Heap.get?_push_size _ rfl
  obtain ⟨o1, p1, rfl, _⟩ := bnd_part hla (q3.mono r4) (Nat.zero_le _)
  obtain ⟨o2, p2, rfl, _⟩ := bnd_part hhb q4 (Nat.le_refl _)
  obtain ⟨ad, xs, k1, rfl, e1, g1, z1, hL1⟩ := I5.st.listAt hσ1 (q2.mono (r3.trans r4))
  obtain ⟨bd, ys, k2, rfl, e2, g2, z2, hL2⟩ := I5.st.listAt hσ2 (q1.mono (r2.trans (r3.trans r4)))
  have hsz1 : xs.size = vs.length := by rw [z1.length]; simp
  have hsz2 : ys.size = ws.length := by rw [z2.length]; simp
  have hne : ad ≠ bd := (I5.st.inj a b ad ad bd bd e1 e2 hh.1).1
  refine setItem_slice g1 g2 hne ⟨_, hsl, rfl, rfl⟩ p1 p2 (by rw [hsz1]; exact hh.2.1) (by rw [hsz1, hsz2]; exact hh.2.2.1) fun h' kk hsb g' => ?_
  refine k _ ρ4 _ (I5.setList hh.2.2.2 hσ1 e1 g1 hsb g' ?_ ?_ s4.toks) (r1.trans (r2.trans (r3.trans r4))) rfl
  · rw [hsz1]
    simp only [Array.toList_append, Array.toList_extract]
    refine ((?_ : All2 _ _ _).append z2).append ?_
    · simpa using z1.take _
    · rw [List.extract_eq_take_drop]
      have : (List.drop (o2.elim vs.length (clipAt vs.length)) xs.toList).take (vs.length - o2.elim vs.length (clipAt vs.length)) = List.drop (o2.elim vs.length (clipAt vs.length)) xs.toList := by
        apply List.take_of_length_le
        rw [List.length_drop]
        have : xs.toList.length = vs.length := by rw [← hsz1]; simp
        omega
      rw [this]
      exact z1.drop _
  · have h3 := hh.2.2.1
    have h4 := hh.2.1
    simp only [List.length_append, List.length_take, List.length_drop]
    omega
theorem augOp_wp {o : BOp} {a b r : V} {wa wb : Value} (h : augOp o a b = some r) (qa : VR ρ a wa) (qb : VR ρ b wb) {A Q Ex} (k : ∀ t w, VR ρ r w → Q w { s with toks := t }) : wpAny (Md cx) A (inplaceOp (bop o) wa wb) Q Ex s := by
  unfold augOp at h
  split at h
  · cases h
    obtain ⟨t, rfl⟩ := qa
    obtain ⟨u, rfl⟩ := qb
    exact AutoIntOps.iadd_0 (k _ _ ⟨_, rfl⟩)
  · cases h
    obtain ⟨t, rfl⟩ := qa
    obtain ⟨u, rfl⟩ := qb
    exact AutoIntOps.isub_0 (k _ _ ⟨_, rfl⟩)
  · split at h <;> cases h
    rename_i hh
    obtain ⟨_, t, rfl⟩ := qa
    obtain ⟨_, u, rfl⟩ := qb
    refine PyProof.Rows.iadd_str (fun t' tk => ?_) (by rw [mkS_length, mkS_length]; exact Nat.le_trans hh (by decide))
    rw [mkS_append]
    exact k _ _ ⟨by simpa using hh, _, rfl⟩
  · cases h
theorem SS_aug {x : String} {o : BOp} {e : E} (h1 : SE cx cf d e) : SS cx cf d (.aug x o e) := by
  intro pe f hc O P ℓ ρ σ s A fl ℓ' σ' he I RS Q Ex k
  have R := RS.toRoom
  unfold chkS at hc
  split at hc
  case h_2 => cases hc
  simp only [Bool.and_eq_true, beq_iff_eq] at hc
  obtain ⟨⟨⟨hc1, hc2⟩, rfl⟩, hc4⟩ := hc
  simp only [execS, Option.bind_eq_bind, Option.bind_eq_some_iff, Option.some.injEq, Prod.mk.injEq] at he
  obtain ⟨a, ha, ⟨b, σ1⟩, he1, r, hr, rfl, rfl, rfl⟩ := he
  refine wpAny_AugAssign_Name (I.load ha hc1 fun w qw => h1 _ f hc4 he1 I R fun s1 ρ1 w1 I1 r1 q1 => augOp_wp hr (qw.mono r1) q1 fun t wr qr => ?_)
  obtain ⟨rfl, _, _⟩ := okName_eq hc1
  exact (I1.toks t).store (O.at hc2) qr fun s2 I2 => k s2 ρ1 _ I2 r1 rfl
theorem SS_augAttr (T : CxTop cx) {e v : E} {x : String} {o : BOp} (h1 : SE cx cf d e) (h2 : SE cx cf d v) : SS cx cf d (.augAttr e x o v) := by
  intro pe f hc O P ℓ ρ σ s A fl ℓ' σ' he I RS Q Ex k
  have R := RS.toRoom
  unfold chkS at hc
  split at hc
  case h_2 => cases hc
  simp only [Bool.and_eq_true, beq_iff_eq] at hc
  obtain ⟨⟨⟨⟨hc1, rfl⟩, hc2⟩, rfl⟩, hc3⟩ := hc
  simp only [execS, Option.bind_eq_bind, Option.bind_eq_some_iff, Option.some.injEq, Prod.mk.injEq] at he
  obtain ⟨⟨xv, σ1⟩, he1, ⟨n, c, fs⟩, hi, u, hu, ⟨w, σ2⟩, he2, r, hr, ⟨n', c', fs'⟩, hi', σ3, hp, rfl, rfl, rfl⟩ := he
  dsimp only at hi hu hr hi' hp
  obtain ⟨rfl, hσ⟩ := getInst_some hi
  obtain ⟨hh, hσ'⟩ := getInst_some hi'
  cases hh
  refine wpAny_AugAssign_AttributeAny (h1 _ f hc1 he1 I R fun s1 ρ1 w1 I1 r1 q1 => getAttr_inst T I1 hσ q1 hc2 hu fun wu qu => h2 _ f hc3 he2 (I1.toks _) R fun s2 ρ2 w2 I2 r2 q2 => augOp_wp hr (qu.mono r2) q2 fun t wr qr => ?_)
  exact setAttr_wp T (I2.toks t) hσ' (q1.mono r2) qr hc2 hp fun s3 I3 => k s3 ρ2 _ I3 (r1.trans r2) rfl
theorem notSlice_aug {r : Expr} (h : notSlice r = true) (ov iv new : Value) : augStore r ov iv new = (do
    holding [new, ov, iv] (setItem ov iv new)
    release [new, ov, iv] []
    pure Flow.next) := by
  cases r <;> first | rfl | cases h
theorem SS_augSub (T : CxTop cx) (TS : TSet cx) {e i v : E} {o : BOp} (h1 : SE cx cf d e) (h2 : SE cx cf d i) (h3 : SE cx cf d v) : SS cx cf d (.augSub e i o v) := by
  intro pe f hc O P ℓ ρ σ s A fl ℓ' σ' he I RS Q Ex k
  have R := RS.toRoom
  unfold chkS at hc
  split at hc
  case h_2 => cases hc
  simp only [Bool.and_eq_true, beq_iff_eq] at hc
  obtain ⟨⟨⟨⟨hc1, hc2⟩, hc3⟩, rfl⟩, hc4⟩ := hc
  simp only [execS, Option.bind_eq_bind, Option.bind_eq_some_iff] at he
  obtain ⟨⟨xv, σ1⟩, he1, ⟨j, σ2⟩, he2, a, ha, kz, hk, he⟩ := he
  dsimp only at ha hk he
  split at he
  case isFalse => cases he
  rename_i hb
  simp only [Option.bind_eq_some_iff, Option.some.injEq, Prod.mk.injEq] at he
  obtain ⟨u, hu, ⟨w, σ3⟩, he3, r, hr, σ4, hs, rfl, rfl, rfl⟩ := he
  dsimp only at hr hs
  have hxa := asRef_some ha
  have hjk := asInt_some hk
  subst hxa hjk
  obtain ⟨vs, hσ, hvi⟩ := itemAt_some hu
  have hb2 := hb.2
  rw [LIM_small] at hb2
  refine wpAny_AugAssign_SubscriptAny (h1 _ f hc1 he1 I R fun s1 ρ1 w1 I1 r1 q1 => h2 _ f hc2 he2 I1 R fun s2 ρ2 w2 I2 r2 q2 => ?_) (notSlice_aug hc3)
  obtain ⟨ad, ws, k1, rfl, e1, g, z, hL⟩ := I2.st.listAt hσ (q1.mono r2)
  obtain ⟨t, rfl⟩ := q2
  obtain ⟨wu, hwu, qu⟩ := z.get hvi
  refine wpAny_getItem_list (isListOf g) hb.1 (by omega) (by rw [← Array.getElem?_toList]; exact hwu) ?_
  refine h3 _ f hc4 he3 I2 R fun s3 ρ3 w3 I3 r3 q3 => augOp_wp hr (qu.mono r3) q3 fun t' wr qr => ?_
  exact setItem_wp T TS (I3.toks t') hs (q1.mono (r2.trans r3)) ⟨t, rfl⟩ qr R fun s4 I4 => k s4 ρ3 _ I4 (r1.trans (r2.trans r3)) rfl
end
end Mine
end

/-! Sound19 -/
section
open PySem PySem.W PySem.Calls PyProof.Rows
set_option linter.unusedVariables false
namespace Mine
structure RoomC (A : Around) (d : Nat) : Prop where
  han : A.handled = none
  dep : A.depth + 4 * d + 19 ≤ 900
  uni : A.units + 20 * d + 198 ≤ 9000
theorem Room.call {A : Around} {d : Nat} (R : Room A d) : RoomC A d := ⟨R.han, by have := R.dep; omega, by have := R.uni; omega⟩
theorem RoomC.deeper {A : Around} {d : Nat} (R : RoomC A (d + 1)) (env : Env) : RoomS (A.deeper env) d :=
  ⟨⟨R.han, by have := R.dep; show A.depth + 1 + 4 * d + 20 ≤ 900; omega, by have := R.uni; rw [Around.deeper_units]; omega⟩, by have := R.dep; show A.depth + 1 + 4 * d + 22 ≤ 900; omega, by have := R.uni; rw [Around.deeper_units]; omega⟩
/-- a function of the program lies at fa -/
structure FunOK (cx : Cx) (fa : Addr) (fn : Fn) (o : Obj) (fd : FuncData) (bd : List Stmt) : Prop where
  at_ : cx.base.get? fa = some o
  data : o.data = .func fd
  body : fd.body = .stmts bd
  chk : chkSs fd.scope.names fn.body bd = true
  clo : fd.closure = []
  glo : fd.globals = mainGlobals
  bui : fd.builtins = builtinsNs
  code : cx.base.CodeRec fd.code fd.qualname
  bind : ∀ (s : Shared) (ws : List Value), (∀ b o, cx.base.get? b = some o → s.heap.get? b = some o) → ws.length = fn.params.length → BindsTo s fd ⟨ws, []⟩ ((fn.params.map Str.ofString).zip ws)
  code2 : fd.scope.names.lookup (Str.ofString "maximum") = some .local → fd.code = .ref cx.tcode
  kind : fd.scope.kind = .function
  gen : fd.scope.isGenerator = false
  cor : fd.scope.isCoroutine = false
  own : ∀ x ∈ fn.params, isOwn fd.scope.names x = true
  nodup : fn.params.Nodup
  names : (fd.scope.names.map (·.1)).Nodup
  nofree : ∀ y ∈ fd.scope.names, y.2 ≠ .free
section
variable (cx : Cx) (cf : CallF) (d : Nat)
def CallOK : Prop := ∀ {g args σ v σ'}, cf g args σ = some (v, σ') → ∀ {fa}, cx.fa g = some fa → ∀ {P ρ s A ws}, HInv cx P ρ σ s → cx.base.objs.size ≤ s.heap.objs.size → VRs ρ args ws → RoomC A d →
  ∀ {R : Result → Shared → Prop}, (∀ s' ρ' w, HInv cx P ρ' σ' s' → ρ <+: ρ' → VR ρ' v w → R (.ok (.ret w)) s') → codeAny (Md cx) A (.call (.ref fa) ⟨ws, []⟩) R s
end
section
variable {cx : Cx} {cf : CallF} {d : Nat} {P : Kept} {f : Frm} {ℓ : Loc} {ρ : Rho} {σ : St} {s s' : Shared}
theorem cellsFrom_keep {n : Str} : ∀ (names : List (Str × NameKind)) (k : Nat) (acc : List (Str × Addr)), (acc.lookup n).isSome = true → ((cellsFrom k names acc).lookup n).isSome = true
  | [], _, _, h => h
  | (m, kd) :: r, k, acc, h => by
    unfold cellsFrom
    split
    · refine cellsFrom_keep r _ _ ?_
      rw [List.lookup_cons]
      split
      · rfl
      · exact h
    · exact cellsFrom_keep r _ _ h
theorem cellsFrom_has {n : Str} : ∀ (names : List (Str × NameKind)) (k : Nat) (acc : List (Str × Addr)), (n, NameKind.cell) ∈ names → ((cellsFrom k names acc).lookup n).isSome = true
  | [], _, _, h => by cases h
  | (m, kd) :: r, k, acc, h => by
    unfold cellsFrom
    rcases List.mem_cons.mp h with e | h
    · cases e
      rw [if_pos (by rfl)]
      refine cellsFrom_keep r _ _ ?_
      rw [List.lookup_cons]; simp
    · split
      · exact cellsFrom_has r _ _ h
      · exact cellsFrom_has r _ _ h
theorem bindL_not {kd : Str → Option NameKind} {n : Str} : ∀ {bs : List (Str × Value)} {m : Str → Option Value}, n ∉ bs.map (·.1) → bindL kd bs m n = m n
  | [], _, _ => rfl
  | (k, v) :: r, m, h => by
    rw [List.map_cons, List.mem_cons, not_or] at h
    unfold bindL
    rw [bindL_not h.2]
    split
    · dsimp only; rw [if_neg h.1]
    · rfl
theorem bindC_not {kd : Str → Option NameKind} {n : Str} : ∀ {bs : List (Str × Value)} {m : Str → Option Value}, n ∉ bs.map (·.1) → bindC kd bs m n = m n
  | [], _, _ => rfl
  | (k, v) :: r, m, h => by
    rw [List.map_cons, List.mem_cons, not_or] at h
    unfold bindC
    rw [bindC_not h.2]
    split
    · rfl
    · dsimp only; rw [if_neg h.1]
theorem bindL_at {kd : Str → Option NameKind} {n : Str} {w : Value} (hk : kd n = some .local) : ∀ {bs : List (Str × Value)} {m : Str → Option Value}, (bs.map (·.1)).Nodup → (n, w) ∈ bs → bindL kd bs m n = some w
  | (k, v) :: r, m, nd, h => by
    rw [List.map_cons, List.nodup_cons] at nd
    unfold bindL
    rcases List.mem_cons.mp h with e | h
    · cases e
      rw [bindL_not nd.1, if_pos hk]; simp
    · exact bindL_at hk nd.2 h
theorem bindC_at {kd : Str → Option NameKind} {n : Str} {w : Value} (hk : kd n ≠ some .local) : ∀ {bs : List (Str × Value)} {m : Str → Option Value}, (bs.map (·.1)).Nodup → (n, w) ∈ bs → bindC kd bs m n = some w
  | (k, v) :: r, m, nd, h => by
    rw [List.map_cons, List.nodup_cons] at nd
    unfold bindC
    rcases List.mem_cons.mp h with e | h
    · cases e
      rw [bindC_not nd.1, if_neg hk]; simp
    · exact bindC_at hk nd.2 h
theorem zip_at : ∀ {ps : List String} {args : List V} {ws : List Value} {x : String} {v : V}, VRs ρ args ws → (ps.zip args).lookup x = some v → ∃ w, (Str.ofString x, w) ∈ (ps.map Str.ofString).zip ws ∧ VR ρ v w ∧ x ∈ ps
  | [], _, _, x, v, _, h => by simp at h
  | p :: ps, _, _, x, v, .nil, h => by simp at h
  | p :: ps, _, _, x, v, .cons (b := w) q r, h => by
    rw [List.zip_cons_cons, lookup_cons_beq] at h
    split at h
    · rename_i e
      cases h
      have : x = p := by simpa using e
      subst this
      exact ⟨w, by simp, q, List.mem_cons_self⟩
    · obtain ⟨w', h1, h2, h3⟩ := zip_at r h
      exact ⟨w', by rw [List.map_cons, List.zip_cons_cons]; exact List.mem_cons_of_mem _ h1, h2, List.mem_cons_of_mem _ h3⟩
theorem zip_nodup {ps : List String} (h : ps.Nodup) {ws : List Value} : (((ps.map Str.ofString).zip ws).map (·.1)).Nodup := by
  have h1 : (ps.map Str.ofString).Nodup := List.Pairwise.map _ (fun a b hab e => hab (ofString_inj e)) h
  have : ∀ (l : List Str) (ws : List Value), ((l.zip ws).map (·.1)).Sublist l := by
    intro l
    induction l with
    | nil => intro ws; simp
    | cons a r ih =>
      intro ws
      cases ws with
      | nil => simp
      | cons w ws => rw [List.zip_cons_cons, List.map_cons]; exact (ih ws).cons_cons _
  exact h1.sublist (this _ _)
def callee (fd : FuncData) (L a : Addr) : Frm := ⟨callEnvC fd L a, (callEnvC fd L a).cells.filterMap fun p => (callEnvC fd L a).cells.lookup p.1⟩
theorem callee_inv {fa : Addr} {fn : Fn} {o : Obj} {fd : FuncData} {body : List Stmt} (FO : FunOK cx fa fn o fd body) (H : HInv cx P ρ σ s) (hz : cx.base.objs.size ≤ s.heap.objs.size) {args : List V} {ws : List Value} (z : VRs ρ args ws)
    (x : InCallC s (callEnvC fd s.heap.objs.size fa).locals (bindL (callEnvC fd s.heap.objs.size fa).kindOf ((fn.params.map Str.ofString).zip ws) fun _ => none) (callEnvC fd s.heap.objs.size fa).cells
      (bindC (callEnvC fd s.heap.objs.size fa).kindOf ((fn.params.map Str.ofString).zip ws) fun _ => none) s') :
    FInv cx P (callee fd s.heap.objs.size fa) (params fn.params args) ρ σ s' ∧ Own cx (callee fd s.heap.objs.size fa) := by
  obtain ⟨h', tk, rfl, kp⟩ := x.toInCall.done
  have nL : s.heap.get? s.heap.objs.size = none := fresh_none _
  have LL := H.loose nL
  have hcell : ∀ n c, (callEnvC fd s.heap.objs.size fa).cells.lookup n = some c → c ∈ (callee fd s.heap.objs.size fa).oc := fun n c hc =>
    List.mem_filterMap.mpr ⟨(n, c), PySem.mem_of_lookup hc, hc⟩
  have hoc : ∀ c ∈ (callee fd s.heap.objs.size fa).oc, ∃ n, (callEnvC fd s.heap.objs.size fa).cells.lookup n = some c := fun c hc => by
    obtain ⟨p, _, e⟩ := List.mem_filterMap.mp hc; exact ⟨p.1, e⟩
  have hk : ∀ n, (callEnvC fd s.heap.objs.size fa).kindOf n = fd.scope.names.lookup n := fun n => rfl
  have own : ∀ n, (callee fd s.heap.objs.size fa).env.kindOf n = some .cell → ∃ c, (callee fd s.heap.objs.size fa).env.cells.lookup n = some c ∧ c ∈ (callee fd s.heap.objs.size fa).oc := fun n hn => by
    have := cellsFrom_has fd.scope.names (s.heap.objs.size + 1) [] (Mine.mem_of_lookup (show fd.scope.names.lookup n = some .cell from hn))
    obtain ⟨c, hc⟩ := Option.isSome_iff_exists.mp this
    exact ⟨c, hc, hcell n c hc⟩
  refine ⟨⟨H.grow (X := fun _ => False) Apart.none (fun b o _ e => kp b o e) H.bare rfl, FO.kind, FO.glo, FO.bui, hz, ⟨_, x.toInCall.ns, fun y v e => ?_⟩, LL, fun c hc => ?_, ⟨fun a b c h1 h2 => ?_, fun n hn => ?_⟩⟩, own, fun h => FO.code2 h⟩
  · obtain ⟨w, h1, h2, h3⟩ := zip_at z (show (fn.params.zip args).lookup y = some v from e)
    have ho := isOwn_kind (f := callee fd s.heap.objs.size fa) (FO.own y h3)
    have nd := zip_nodup FO.nodup (ws := ws)
    unfold NameIs
    rcases ho with ho | ho
    · rw [ho]; exact ⟨w, bindL_at ho nd h1, h2⟩
    · rw [ho]
      obtain ⟨c, hc, hco⟩ := own _ ho
      have := x.cell _ c hc
      rw [bindC_at (by rw [show (callEnvC fd s.heap.objs.size fa).kindOf (Str.ofString y) = some .cell from ho]; simp) nd h1] at this
      exact ⟨c, w, hc, this, h2, .inl hco⟩
  · obtain ⟨n, hn⟩ := hoc c hc
    have hL := x.above n c (PySem.mem_of_lookup hn)
    have nc : s.heap.get? c = none := by
      cases e : s.heap.get? c with
      | none => rfl
      | some o => exact absurd (Heap.lt_size e) (Nat.not_lt.mpr (Nat.le_of_lt hL))
    obtain ⟨a1, a2, a3⟩ := H.loose nc
    exact ⟨a1, a2, a3, Nat.ne_of_gt hL, _, x.cell n c hn⟩
  · exact name_of_addr x.apart (PySem.mem_of_lookup h1) (PySem.mem_of_lookup h2)
  · rcases hn with hn | hn
    · obtain ⟨c, hc, _⟩ := own n hn; exact ⟨c, hc⟩
    · exact absurd rfl (FO.nofree _ (Mine.mem_of_lookup (show fd.scope.names.lookup n = some .free from hn)))
end
end Mine
end

/-! Sound20 -/
section
open PySem PySem.W PySem.Calls PyProof.Rows
set_option linter.unusedVariables false
namespace Mine
structure Funs (cx : Cx) (prog : String → Option Fn) : Prop where
  fn : ∀ g fn, prog g = some fn → ∃ fa o fd bd, cx.fa g = some fa ∧ FunOK cx fa fn o fd bd
  glob : ∀ g fa, cx.fa g = some fa → noDot g = true → cx.glob g = some (.ref fa)
  meth : ∀ c C m fa, cx.ca c = some C → umethNames.contains m = true → cx.fa (c ++ "." ++ m) = some fa → plainGet cx.K C (Str.ofString m) = true ∧ findIn cx.K (.ref C) (Str.ofString m) = some (some (.ref fa)) ∧ isFn cx.K (.ref fa) = true
  init : ∀ c fa, cx.fa (c ++ ".__init__") = some fa → ∃ C, cx.ca c = some C ∧ makesIn cx.K C = true ∧ findIn cx.K (.ref C) "__init__" = some (some (.ref fa)) ∧ isFn cx.K (.ref fa) = true ∧ keepIn cx.K (.ref C) = true ∧ cx.glob c = some (.ref C)
section
variable {cx : Cx} {cf : CallF} {d : Nat} {P : Kept} {f : Frm} {ℓ : Loc} {ρ : Rho} {σ : St} {s s' : Shared} {prog : String → Option Fn}
theorem FInv.keepBase (I : FInv cx P f ℓ ρ σ s) : ∀ b o, cx.base.get? b = some o → s.heap.get? b = some o := fun b o e => I.st.keep b o (I.st.base b o e)
theorem FInv.size (I : FInv cx P f ℓ ρ σ s) : cx.base.objs.size ≤ s.heap.objs.size := by
  obtain ⟨m, ⟨o, _, _, ho, _⟩, _⟩ := I.names
  exact Nat.le_trans I.above (Nat.le_of_lt (Heap.lt_size ho))
theorem callOK_zero : CallOK cx (callN prog 0) d := by
  intro g args σ v σ' h; cases h
/-- one more call -/
theorem callOK_succ (T : CxTop cx) (FS : Funs cx prog) (hs : ∀ g fn, prog g = some fn → SSs cx (callN prog d) d fn.body) : CallOK cx (callN prog (d + 1)) (d + 1) := by
  intro g args σ v σ' h fa hfa P ρ s A ws H hz z R Rs k
  simp only [callN, Option.bind_eq_bind, Option.bind_eq_some_iff] at h
  obtain ⟨fn, hfn, h⟩ := h
  split at h
  case isFalse => cases h
  rename_i hlen
  simp only [Option.bind_eq_some_iff] at h
  obtain ⟨⟨fl, ℓ', σ1⟩, he, h⟩ := h
  obtain ⟨fa', o, fd, bd, hfa', FO⟩ := FS.fn g fn hfn
  rw [hfa] at hfa'; cases hfa'
  have kb : ∀ b o, cx.base.get? b = some o → s.heap.get? b = some o := fun b o e => H.keep b o (H.base b o e)
  have hws : ws.length = fn.params.length := by rw [← z.length, hlen]
  have hd := R.dep
  refine codeAny_call_function (by show A.depth < 1000; omega) (kb _ _ FO.at_) FO.data FO.cor FO.gen FO.body (FO.code.keeps kb) (FO.bind s ws kb hws _ _ _ _ ?_)
  rw [FO.clo]
  refine wpAny_newFunctionEnv_cells FO.kind (fun x hx => ?_) fun env henv s' x => ?_
  · obtain ⟨n, hn, e⟩ : ∃ n ∈ fn.params, x.1 = Str.ofString n := by
      have := (List.of_mem_zip (show (x.1, x.2) ∈ (fn.params.map Str.ofString).zip ws from hx)).1
      obtain ⟨n, hn, e⟩ := List.mem_map.mp this
      exact ⟨n, hn, e.symm⟩
    have ho := isOwn_kind (f := callee fd s.heap.objs.size fa) (FO.own n hn)
    rw [e]
    rcases ho with ho | ho
    · exact .inl ho
    · exact .inr ⟨ho, cellsFrom_has _ _ _ (Mine.mem_of_lookup ho)⟩
  · have henv' : env = callEnvC fd s.heap.objs.size fa := henv
    subst henv'
    have lim : s'.heap.NoLimit := (T.lim.keeps kb).keeps x.toInCall.keep
    refine ⟨lim, codeAny_func ?_⟩
    obtain ⟨I, O⟩ := callee_inv FO H hz z x
    refine hs g fn hfn bd (callee fd s.heap.objs.size fa) FO.chk O he I (R.deeper _) fun s2 ρ2 w I2 r2 q2 => ?_
    cases fl with
    | next =>
      have q2' : w = .next := q2
      subst q2'
      cases h
      exact k s2 ρ2 _ I2.st r2 rfl
    | ret u =>
      obtain ⟨uw, rfl, q⟩ := q2
      cases h
      exact k s2 ρ2 _ I2.st r2 q
    | brk => cases h
    | cont => cases h
/-- a call from a frame -/
theorem FInv.call (I : FInv cx P f ℓ ρ σ s) (C : CallOK cx cf d) {g : String} {args : List V} {v : V} {σ' : St} (h : cf g args σ = some (v, σ')) {fa : Addr} (hfa : cx.fa g = some fa) {ws : List Value} (z : VRs ρ args ws) {A : Around} (R : RoomC A d) {Rs : Result → Shared → Prop}
    (k : ∀ s' ρ' w, FInv cx P f ℓ ρ' σ' s' → ρ <+: ρ' → VR ρ' v w → Rs (.ok (.ret w)) s') : codeAny (Md cx) A (.call (.ref fa) ⟨ws, []⟩) Rs s := by
  obtain ⟨Z, HZ, Fz⟩ := I.freeze
  exact C h hfa HZ I.size z R fun s' ρ' w H r q => k s' ρ' w (I.thaw Fz H r) r q
theorem callN_prog {g : String} {args : List V} {v : V} {σ σ' : St} (h : callN prog d g args σ = some (v, σ')) : ∃ fn, prog g = some fn := by
  cases d with
  | zero => cases h
  | succ d =>
    simp only [callN, Option.bind_eq_bind, Option.bind_eq_some_iff] at h
    obtain ⟨fn, hfn, _⟩ := h
    exact ⟨fn, hfn⟩
theorem SE_call (T : CxTop cx) (FS : Funs cx prog) (C : CallOK cx (callN prog d) d) {g : String} {es : E} (h : SL cx (callN prog d) d es) : SE cx (callN prog d) d (.call g es) := by
  intro pe f hc P ℓ ρ σ s A v σ' he I R Q Ex k
  unfold chkE at hc
  split at hc
  case h_2 => cases hc
  simp only [Bool.and_eq_true] at hc
  obtain ⟨⟨⟨⟨hd, hn⟩, hg⟩, hc1⟩, _⟩ := hc
  simp only [evalE, Option.bind_eq_bind, Option.bind_eq_some_iff] at he
  obtain ⟨⟨vs, σ1⟩, he1, he2⟩ := he
  obtain ⟨fn, hfn⟩ := callN_prog he2
  obtain ⟨fa, o, fd, bd, hfa, FO⟩ := FS.fn _ _ hfn
  refine Call_ (I.glob T (FS.glob _ _ hfa hd) hn hg (callWith_function (o := o) (fd := fd) (evalArgs_sound h hc1 he1 I R _ _ fun s1 ρ1 ws I1 r1 q1 => ⟨⟨I1.keepBase _ _ FO.at_, FO.data⟩, wpAny_call ?_⟩)))
  exact I1.call C he2 hfa q1 R.call fun s2 ρ2 w I2 r2 q2 => k s2 ρ2 w I2 (r1.trans r2) q2
theorem SE_umeth (T : CxTop cx) (FS : Funs cx prog) (C : CallOK cx (callN prog d) d) {e es : E} {m : String} (h1 : SE cx (callN prog d) d e) (h : SL cx (callN prog d) d es) : SE cx (callN prog d) d (.umeth e m es) := by
  intro pe f hc P ℓ ρ σ s A v σ' he I R Q Ex k
  unfold chkE at hc
  split at hc
  case h_2 => cases hc
  simp only [Bool.and_eq_true, beq_iff_eq, decide_eq_true_eq] at hc
  obtain ⟨⟨⟨⟨⟨⟨hp, hc1⟩, rfl⟩, hm⟩, hc2⟩, hn⟩, hz⟩ := hc
  simp only [evalE, Option.bind_eq_bind, Option.bind_eq_some_iff] at he
  obtain ⟨⟨v1, σ1⟩, he1, ⟨n, c, fs⟩, hi, he⟩ := he
  dsimp only at hi he
  split at he
  case isTrue => cases he
  rename_i hns
  simp only [Option.bind_eq_some_iff] at he
  obtain ⟨⟨vs, σ2⟩, he2, he3⟩ := he
  dsimp only at he3
  obtain ⟨rfl, hσ⟩ := getInst_some hi
  obtain ⟨fn, hfn⟩ := callN_prog he3
  obtain ⟨fa, o, fd, bd, hfa, FO⟩ := FS.fn _ _ hfn
  refine method_wp (m := m) h1 (beq_iff_eq.mpr hp) hc1 hc2 hn hz he1 I R fun s1 ρ1 w1 I1 r1 q1 pl => ?_
  obtain ⟨a, dd, Cc, l, k1, rfl, e1, hca, g, g', zz, y⟩ := I1.st.instAt hσ q1
  obtain ⟨m1, F, _⟩ := I1.fr
  obtain ⟨t1, t2, t3⟩ := FS.meth c Cc m fa hca hm hfa
  have hl : fs.lookup m = none := by
    cases hh : fs.lookup m with
    | none => rfl
    | some u => rw [hh] at hns; simp at hns
  refine method_inst F T.kin ⟨g, rfl, rfl, g'⟩ t1 t2 t3 (getL_none y hl) (callWith_function (o := o) (fd := fd) (evalArgs_sound h hc2 he2 I1 R _ _ fun s2 ρ2 ws I2 r2 q2 => ⟨⟨I2.keepBase _ _ FO.at_, FO.data⟩, wpAny_call ?_⟩))
  exact I2.call C he3 hfa (.cons (q1.mono r2) q2) R.call fun s3 ρ3 w I3 r3 q3 => k s3 ρ3 w I3 (r1.trans (r2.trans r3)) q3
theorem SE_new (T : CxTop cx) (FS : Funs cx prog) (C : CallOK cx (callN prog d) d) {c : String} {es : E} (h : SL cx (callN prog d) d es) : SE cx (callN prog d) d (.new c es) := by
  intro pe f hc P ℓ ρ σ s A v σ' he I R Q Ex k
  unfold chkE at hc
  split at hc
  case h_2 => cases hc
  simp only [Bool.and_eq_true] at hc
  obtain ⟨⟨⟨hn, hg⟩, hc1⟩, _⟩ := hc
  simp only [evalE, Option.bind_eq_bind, Option.bind_eq_some_iff] at he
  obtain ⟨⟨vs, σ1⟩, he1, ⟨r, σ2⟩, he2, he3⟩ := he
  dsimp only at he2 he3
  split at he3 <;> cases he3
  rename_i hr
  subst hr
  obtain ⟨fn, hfn⟩ := callN_prog he2
  obtain ⟨fa, o, fd, bd, hfa, FO⟩ := FS.fn _ _ hfn
  obtain ⟨Cc, hca, t1, t2, t3, t4, t5⟩ := FS.init c fa hfa
  refine Call_ (I.glob T t5 hn hg (callWith_of (P := fun h => cx.K.In h) (by rw [noStar hc1]; rfl) (keeps_K t4) (evalArgs_sound h hc1 he1 I R _ _ fun s1 ρ1 ws I1 r1 q1 => ⟨T.kin.keeps I1.keepBase, ?_⟩)))
  obtain ⟨m, F, N, V⟩ := via_all I1
  refine call_cls F T.kin N t1 t2 t3 fun x dx h' F' N' hlt hdx => ?_
  obtain ⟨k1, k2⟩ := V h' _ F' N' fun p hp => List.mem_cons_of_mem _ (List.mem_cons_of_mem _ hp)
  have I2 : FInv cx P f ℓ ρ1 σ1 { s1 with heap := h' } := I1.grow k1 k2 I1.st.bare rfl
  have gx := N' (x, instObj Cc dx) List.mem_cons_self
  have gd := N' (dx, dictOf [] 0) (List.mem_cons_of_mem _ List.mem_cons_self)
  have fresh : ∀ {a o}, (h'.get? a = some o ∧ a ≠ f.env.locals ∧ cx.base.get? a = none) → dx ≤ a → s1.heap.get? a = none := fun {a o} hh hle => by
    cases e : s1.heap.get? a with
    | none => rfl
    | some o' => exact absurd (hlt (a, o') (mem_allNews.mpr ⟨e, hh.2.1, hh.2.2⟩)) (Nat.not_lt.mpr hle)
  have Lx := I1.loose_new (fresh gx (Nat.le_of_lt hdx))
  have Ld := I1.loose_new (fresh gd (Nat.le_refl _))
  have I3 := I2.adopt Lx Ld (o := .inst c []) ⟨Cc, [], 0, hca, gx.1, gd.1, by simp, .nil⟩
  have Ru : RoomC (A.under (.builtin "type.__call__" ⟨.ref Cc :: ws, []⟩)) d := ⟨R.han, by have := R.dep; show A.depth + 1 + 4 * d + 19 ≤ 900; omega, by have := R.uni; show A.units + 1 + 20 * d + 198 ≤ 9000; omega⟩
  refine I3.call C he2 hfa (.cons (new_ref I1.st.len) (VRs.mono (List.prefix_append _ _) q1)) Ru fun s3 ρ3 w I4 r4 q4 => ?_
  have hw : w = .none := q4
  subst hw
  exact ⟨rfl, k s3 ρ3 _ I4 (r1.trans ((List.prefix_append _ _).trans r4)) (VR.mono r4 (new_ref I1.st.len))⟩
end
end Mine
end

/-! Sound21 -/
section
open PySem PySem.W PySem.Calls PyProof.Rows
set_option linter.unusedVariables false
namespace Mine
section
variable (cx : Cx) (cf : CallF) (d : Nat)
/-- all that is proved of an expression -/
structure Snd (e : E) : Prop where
  se : SE cx cf d e
  st : ST cx cf d e
  sl : SL cx cf d e
  skv : SKV cx cf d e
  sb : SB cx cf d e
  sbt : SBT cx cf d e
  src : SSrc cx cf d e
  sc : SC cx cf d e
  su : SU cx cf d e
end
section
variable {cx : Cx} {cf : CallF} {d : Nat} {P : Kept} {f : Frm} {ℓ : Loc} {ρ : Rho} {σ : St} {s s' : Shared} {prog : String → Option Fn}
theorem SL_vac {e : E} (h : ∀ ℓ σ, evalL cf e ℓ σ = none) : SL cx cf d e := by
  intro ps f hc P ℓ ρ σ s A vs σ' he; rw [h] at he; cases he
theorem SKV_vac {e : E} (h : ∀ ℓ σ, evalKV cf e ℓ σ = none) : SKV cx cf d e := by
  intro ks ps f hc P ℓ ρ σ s A vs σ' he; rw [h] at he; cases he
theorem SB_vac {e : E} (h : ∀ q ℓ σ, evalB cf q e ℓ σ = none) : SB cx cf d e := by
  intro q ps f hc P ℓ ρ σ s A v σ' he; rw [h] at he; cases he
theorem SBT_vac {e : E} (h : ∀ q ℓ σ, evalB cf q e ℓ σ = none) : SBT cx cf d e := by
  intro q ps f hc P ℓ ρ σ s A v σ' b he; rw [h] at he; cases he
theorem SE_vac {e : E} (h : ∀ ℓ σ, evalE cf e ℓ σ = none) : SE cx cf d e := by
  intro ps f hc P ℓ ρ σ s A vs σ' he; rw [h] at he; cases he
theorem ST_vac {e : E} (h : ∀ ℓ σ, evalE cf e ℓ σ = none) : ST cx cf d e := by
  intro ps f hc P ℓ ρ σ s A vs σ' b he; rw [h] at he; cases he
theorem SSrc_vac {e : E} (h : ∀ ℓ σ, evalSrc cf e ℓ σ = none) : SSrc cx cf d e := by
  intro ps f hc P ℓ ρ σ s A vs σ' n he; rw [h] at he; cases he
theorem SC_vac {e : E} (h : ∀ ℓ σ, evalC cf e ℓ σ = none) : SC cx cf d e := by
  intro ps f hc P ℓ ρ σ s A vs σ' he; rw [h] at he; cases he
/-- an expression that is no list, no source of its own -/
theorem Snd.mk' {e : E} (se : SE cx cf d e) (st : ST cx cf d e) (su : SU cx cf d e) (hL : ∀ ℓ σ, evalL cf e ℓ σ = none) (hK : ∀ ℓ σ, evalKV cf e ℓ σ = none) (hB : ∀ q ℓ σ, evalB cf q e ℓ σ = none)
    (hS : ∀ ℓ σ, evalSrc cf e ℓ σ = (do let (v, σ) ← evalE cf e ℓ σ; let x ← asRef v; some (.list x, σ))) (hcS : ∀ ns p, chkSrc ns e p = chkE ns e p)
    (hC : ∀ ℓ σ, evalC cf e ℓ σ = (do let (v, σ) ← evalE cf e ℓ σ; let b ← truthy σ v; some (b, σ))) (hcC : ∀ ns ifs, chkIf ns e ifs = true → ∃ p, ifs = [p] ∧ chkE ns e p = true) : Snd cx cf d e :=
  ⟨se, st, SL_vac hL, SKV_vac hK, SB_vac hB, SBT_vac hB, SSrc_list se hS hcS, SC_test st hC hcC, su⟩
theorem Snd_var {x : String}  : Snd cx cf d (.var x) := by
  refine Snd.mk' SE_var (ST_plain SE_var (by intro ns pe h; unfold chkE at h; first | cases h | (split at h <;> first | rfl | cases h))) (SU_no (by intro ns pe h; unfold chkE at h; first | cases h | (split at h <;> first | rfl | cases h))) ?_ ?_ ?_ ?_ ?_ ?_ ?_
  all_goals first
    | (intro ℓ σ; simp [evalL]; done)
    | (intro ℓ σ; simp [evalKV]; done)
    | (intro q ℓ σ; simp [evalB]; done)
    | (intro ℓ σ; unfold evalSrc; rfl)
    | (intro ns p; simp only [chkSrc]; done)
    | (intro ℓ σ; unfold evalC; rfl)
    | (intro ns ifs h
       match ifs, h with
       | [], h => exact Bool.noConfusion (show false = true from h)
       | [p], h => exact ⟨p, rfl, h⟩
       | _ :: _ :: _, h => exact Bool.noConfusion (show false = true from h))
theorem Snd_non   : Snd cx cf d (.non) := by
  refine Snd.mk' SE_non (ST_plain SE_non (by intro ns pe h; unfold chkE at h; first | cases h | (split at h <;> first | rfl | cases h))) (SU_no (by intro ns pe h; unfold chkE at h; first | cases h | (split at h <;> first | rfl | cases h))) ?_ ?_ ?_ ?_ ?_ ?_ ?_
  all_goals first
    | (intro ℓ σ; simp [evalL]; done)
    | (intro ℓ σ; simp [evalKV]; done)
    | (intro q ℓ σ; simp [evalB]; done)
    | (intro ℓ σ; unfold evalSrc; rfl)
    | (intro ns p; simp only [chkSrc]; done)
    | (intro ℓ σ; unfold evalC; rfl)
    | (intro ns ifs h
       match ifs, h with
       | [], h => exact Bool.noConfusion (show false = true from h)
       | [p], h => exact ⟨p, rfl, h⟩
       | _ :: _ :: _, h => exact Bool.noConfusion (show false = true from h))
theorem Snd_bool {b : Bool}  : Snd cx cf d (.bool b) := by
  refine Snd.mk' SE_bool (ST_plain SE_bool (by intro ns pe h; unfold chkE at h; first | cases h | (split at h <;> first | rfl | cases h))) (SU_no (by intro ns pe h; unfold chkE at h; first | cases h | (split at h <;> first | rfl | cases h))) ?_ ?_ ?_ ?_ ?_ ?_ ?_
  all_goals first
    | (intro ℓ σ; simp [evalL]; done)
    | (intro ℓ σ; simp [evalKV]; done)
    | (intro q ℓ σ; simp [evalB]; done)
    | (intro ℓ σ; unfold evalSrc; rfl)
    | (intro ns p; simp only [chkSrc]; done)
    | (intro ℓ σ; unfold evalC; rfl)
    | (intro ns ifs h
       match ifs, h with
       | [], h => exact Bool.noConfusion (show false = true from h)
       | [p], h => exact ⟨p, rfl, h⟩
       | _ :: _ :: _, h => exact Bool.noConfusion (show false = true from h))
theorem Snd_int {b : Int}  : Snd cx cf d (.int b) := by
  refine Snd.mk' SE_int (ST_plain SE_int (by intro ns pe h; unfold chkE at h; first | cases h | (split at h <;> first | rfl | cases h))) (SU_no (by intro ns pe h; unfold chkE at h; first | cases h | (split at h <;> first | rfl | cases h))) ?_ ?_ ?_ ?_ ?_ ?_ ?_
  all_goals first
    | (intro ℓ σ; simp [evalL]; done)
    | (intro ℓ σ; simp [evalKV]; done)
    | (intro q ℓ σ; simp [evalB]; done)
    | (intro ℓ σ; unfold evalSrc; rfl)
    | (intro ns p; simp only [chkSrc]; done)
    | (intro ℓ σ; unfold evalC; rfl)
    | (intro ns ifs h
       match ifs, h with
       | [], h => exact Bool.noConfusion (show false = true from h)
       | [p], h => exact ⟨p, rfl, h⟩
       | _ :: _ :: _, h => exact Bool.noConfusion (show false = true from h))
theorem Snd_str {b : List Nat}  : Snd cx cf d (.str b) := by
  refine Snd.mk' SE_str (ST_plain SE_str (by intro ns pe h; unfold chkE at h; first | cases h | (split at h <;> first | rfl | cases h))) (SU_no (by intro ns pe h; unfold chkE at h; first | cases h | (split at h <;> first | rfl | cases h))) ?_ ?_ ?_ ?_ ?_ ?_ ?_
  all_goals first
    | (intro ℓ σ; simp [evalL]; done)
    | (intro ℓ σ; simp [evalKV]; done)
    | (intro q ℓ σ; simp [evalB]; done)
    | (intro ℓ σ; unfold evalSrc; rfl)
    | (intro ns p; simp only [chkSrc]; done)
    | (intro ℓ σ; unfold evalC; rfl)
    | (intro ns ifs h
       match ifs, h with
       | [], h => exact Bool.noConfusion (show false = true from h)
       | [p], h => exact ⟨p, rfl, h⟩
       | _ :: _ :: _, h => exact Bool.noConfusion (show false = true from h))
theorem Snd_list {es : E} (h : Snd cx cf d es) : Snd cx cf d (.list es) := by
  refine Snd.mk' (SE_list h.sl) (ST_plain (SE_list h.sl) (by intro ns pe h; unfold chkE at h; first | cases h | (split at h <;> first | rfl | cases h))) (SU_no (by intro ns pe h; unfold chkE at h; first | cases h | (split at h <;> first | rfl | cases h))) ?_ ?_ ?_ ?_ ?_ ?_ ?_
  all_goals first
    | (intro ℓ σ; simp [evalL]; done)
    | (intro ℓ σ; simp [evalKV]; done)
    | (intro q ℓ σ; simp [evalB]; done)
    | (intro ℓ σ; unfold evalSrc; rfl)
    | (intro ns p; simp only [chkSrc]; done)
    | (intro ℓ σ; unfold evalC; rfl)
    | (intro ns ifs h
       match ifs, h with
       | [], h => exact Bool.noConfusion (show false = true from h)
       | [p], h => exact ⟨p, rfl, h⟩
       | _ :: _ :: _, h => exact Bool.noConfusion (show false = true from h))
theorem Snd_tuple {es : E} (h : Snd cx cf d es) : Snd cx cf d (.tuple es) := by
  refine Snd.mk' (SE_tuple h.sl) (ST_plain (SE_tuple h.sl) (by intro ns pe h; unfold chkE at h; first | cases h | (split at h <;> first | rfl | cases h))) (SU_no (by intro ns pe h; unfold chkE at h; first | cases h | (split at h <;> first | rfl | cases h))) ?_ ?_ ?_ ?_ ?_ ?_ ?_
  all_goals first
    | (intro ℓ σ; simp [evalL]; done)
    | (intro ℓ σ; simp [evalKV]; done)
    | (intro q ℓ σ; simp [evalB]; done)
    | (intro ℓ σ; unfold evalSrc; rfl)
    | (intro ns p; simp only [chkSrc]; done)
    | (intro ℓ σ; unfold evalC; rfl)
    | (intro ns ifs h
       match ifs, h with
       | [], h => exact Bool.noConfusion (show false = true from h)
       | [p], h => exact ⟨p, rfl, h⟩
       | _ :: _ :: _, h => exact Bool.noConfusion (show false = true from h))
theorem Snd_dict {es : E} (h : Snd cx cf d es) : Snd cx cf d (.dict es) := by
  refine Snd.mk' (SE_dict h.skv) (ST_plain (SE_dict h.skv) (by intro ns pe h; unfold chkE at h; first | cases h | (split at h <;> first | rfl | cases h))) (SU_no (by intro ns pe h; unfold chkE at h; first | cases h | (split at h <;> first | rfl | cases h))) ?_ ?_ ?_ ?_ ?_ ?_ ?_
  all_goals first
    | (intro ℓ σ; simp [evalL]; done)
    | (intro ℓ σ; simp [evalKV]; done)
    | (intro q ℓ σ; simp [evalB]; done)
    | (intro ℓ σ; unfold evalSrc; rfl)
    | (intro ns p; simp only [chkSrc]; done)
    | (intro ℓ σ; unfold evalC; rfl)
    | (intro ns ifs h
       match ifs, h with
       | [], h => exact Bool.noConfusion (show false = true from h)
       | [p], h => exact ⟨p, rfl, h⟩
       | _ :: _ :: _, h => exact Bool.noConfusion (show false = true from h))
theorem Snd_tdict   : Snd cx cf d (.tdict) := by
  refine Snd.mk' SE_tdict (ST_plain SE_tdict (by intro ns pe h; unfold chkE at h; first | cases h | (split at h <;> first | rfl | cases h))) (SU_no (by intro ns pe h; unfold chkE at h; first | cases h | (split at h <;> first | rfl | cases h))) ?_ ?_ ?_ ?_ ?_ ?_ ?_
  all_goals first
    | (intro ℓ σ; simp [evalL]; done)
    | (intro ℓ σ; simp [evalKV]; done)
    | (intro q ℓ σ; simp [evalB]; done)
    | (intro ℓ σ; unfold evalSrc; rfl)
    | (intro ns p; simp only [chkSrc]; done)
    | (intro ℓ σ; unfold evalC; rfl)
    | (intro ns ifs h
       match ifs, h with
       | [], h => exact Bool.noConfusion (show false = true from h)
       | [p], h => exact ⟨p, rfl, h⟩
       | _ :: _ :: _, h => exact Bool.noConfusion (show false = true from h))
theorem Snd_attr (T : CxTop cx) {e : E} {x : String} (h : Snd cx cf d e) : Snd cx cf d (.attr e x) := by
  refine Snd.mk' (SE_attr T h.se) (ST_plain (SE_attr T h.se) (by intro ns pe h; unfold chkE at h; first | cases h | (split at h <;> first | rfl | cases h))) (SU_no (by intro ns pe h; unfold chkE at h; first | cases h | (split at h <;> first | rfl | cases h))) ?_ ?_ ?_ ?_ ?_ ?_ ?_
  all_goals first
    | (intro ℓ σ; simp [evalL]; done)
    | (intro ℓ σ; simp [evalKV]; done)
    | (intro q ℓ σ; simp [evalB]; done)
    | (intro ℓ σ; unfold evalSrc; rfl)
    | (intro ns p; simp only [chkSrc]; done)
    | (intro ℓ σ; unfold evalC; rfl)
    | (intro ns ifs h
       match ifs, h with
       | [], h => exact Bool.noConfusion (show false = true from h)
       | [p], h => exact ⟨p, rfl, h⟩
       | _ :: _ :: _, h => exact Bool.noConfusion (show false = true from h))
theorem Snd_sub {e i : E} (h : Snd cx cf d e) (h2 : Snd cx cf d i) : Snd cx cf d (.sub e i) := by
  refine Snd.mk' (SE_sub h.se h2.se) (ST_plain (SE_sub h.se h2.se) (by intro ns pe h; unfold chkE at h; first | cases h | (split at h <;> first | rfl | cases h))) (SU_no (by intro ns pe h; unfold chkE at h; first | cases h | (split at h <;> first | rfl | cases h))) ?_ ?_ ?_ ?_ ?_ ?_ ?_
  all_goals first
    | (intro ℓ σ; simp [evalL]; done)
    | (intro ℓ σ; simp [evalKV]; done)
    | (intro q ℓ σ; simp [evalB]; done)
    | (intro ℓ σ; unfold evalSrc; rfl)
    | (intro ns p; simp only [chkSrc]; done)
    | (intro ℓ σ; unfold evalC; rfl)
    | (intro ns ifs h
       match ifs, h with
       | [], h => exact Bool.noConfusion (show false = true from h)
       | [p], h => exact ⟨p, rfl, h⟩
       | _ :: _ :: _, h => exact Bool.noConfusion (show false = true from h))
theorem Snd_slice {e l h : E} (h1 : Snd cx cf d e) (h2 : Snd cx cf d l) (h3 : Snd cx cf d h) : Snd cx cf d (.slice e l h) := by
  refine Snd.mk' (SE_slice h1.se h2.se h3.se) (ST_plain (SE_slice h1.se h2.se h3.se) (by intro ns pe h; unfold chkE at h; first | cases h | (split at h <;> first | rfl | cases h))) (SU_no (by intro ns pe h; unfold chkE at h; first | cases h | (split at h <;> first | rfl | cases h))) ?_ ?_ ?_ ?_ ?_ ?_ ?_
  all_goals first
    | (intro ℓ σ; simp [evalL]; done)
    | (intro ℓ σ; simp [evalKV]; done)
    | (intro q ℓ σ; simp [evalB]; done)
    | (intro ℓ σ; unfold evalSrc; rfl)
    | (intro ns p; simp only [chkSrc]; done)
    | (intro ℓ σ; unfold evalC; rfl)
    | (intro ns ifs h
       match ifs, h with
       | [], h => exact Bool.noConfusion (show false = true from h)
       | [p], h => exact ⟨p, rfl, h⟩
       | _ :: _ :: _, h => exact Bool.noConfusion (show false = true from h))
theorem Snd_dget {e : E} {x : String} (h : Snd cx cf d e) : Snd cx cf d (.dget e x) := by
  refine Snd.mk' (SE_dget h.se) (ST_plain (SE_dget h.se) (by intro ns pe h; unfold chkE at h; first | cases h | (split at h <;> first | rfl | cases h))) (SU_no (by intro ns pe h; unfold chkE at h; first | cases h | (split at h <;> first | rfl | cases h))) ?_ ?_ ?_ ?_ ?_ ?_ ?_
  all_goals first
    | (intro ℓ σ; simp [evalL]; done)
    | (intro ℓ σ; simp [evalKV]; done)
    | (intro q ℓ σ; simp [evalB]; done)
    | (intro ℓ σ; unfold evalSrc; rfl)
    | (intro ns p; simp only [chkSrc]; done)
    | (intro ℓ σ; unfold evalC; rfl)
    | (intro ns ifs h
       match ifs, h with
       | [], h => exact Bool.noConfusion (show false = true from h)
       | [p], h => exact ⟨p, rfl, h⟩
       | _ :: _ :: _, h => exact Bool.noConfusion (show false = true from h))
theorem Snd_dgetd (T : CxTop cx) {e v : E} {x : String} (h : Snd cx cf d e) (h2 : Snd cx cf d v) : Snd cx cf d (.dgetd e x v) := by
  refine Snd.mk' (SE_dgetd T h.se h2.se) (ST_plain (SE_dgetd T h.se h2.se) (by intro ns pe h; unfold chkE at h; first | cases h | (split at h <;> first | rfl | cases h))) (SU_no (by intro ns pe h; unfold chkE at h; first | cases h | (split at h <;> first | rfl | cases h))) ?_ ?_ ?_ ?_ ?_ ?_ ?_
  all_goals first
    | (intro ℓ σ; simp [evalL]; done)
    | (intro ℓ σ; simp [evalKV]; done)
    | (intro q ℓ σ; simp [evalB]; done)
    | (intro ℓ σ; unfold evalSrc; rfl)
    | (intro ns p; simp only [chkSrc]; done)
    | (intro ℓ σ; unfold evalC; rfl)
    | (intro ns ifs h
       match ifs, h with
       | [], h => exact Bool.noConfusion (show false = true from h)
       | [p], h => exact ⟨p, rfl, h⟩
       | _ :: _ :: _, h => exact Bool.noConfusion (show false = true from h))
theorem Snd_dhas (T : CxTop cx) {e : E} {x : String} (h : Snd cx cf d e) : Snd cx cf d (.dhas x e) := by
  refine Snd.mk' (SE_dhas T h.se) (ST_dhas T h.se) (SU_no (by intro ns pe h; unfold chkE at h; first | cases h | (split at h <;> first | rfl | cases h))) ?_ ?_ ?_ ?_ ?_ ?_ ?_
  all_goals first
    | (intro ℓ σ; simp [evalL]; done)
    | (intro ℓ σ; simp [evalKV]; done)
    | (intro q ℓ σ; simp [evalB]; done)
    | (intro ℓ σ; unfold evalSrc; rfl)
    | (intro ns p; simp only [chkSrc]; done)
    | (intro ℓ σ; unfold evalC; rfl)
    | (intro ns ifs h
       match ifs, h with
       | [], h => exact Bool.noConfusion (show false = true from h)
       | [p], h => exact ⟨p, rfl, h⟩
       | _ :: _ :: _, h => exact Bool.noConfusion (show false = true from h))
theorem Snd_dhasnt (T : CxTop cx) {e : E} {x : String} (h : Snd cx cf d e) : Snd cx cf d (.dhasnt x e) := by
  refine Snd.mk' (SE_dhasnt T h.se) (ST_dhasnt T h.se) (SU_no (by intro ns pe h; unfold chkE at h; first | cases h | (split at h <;> first | rfl | cases h))) ?_ ?_ ?_ ?_ ?_ ?_ ?_
  all_goals first
    | (intro ℓ σ; simp [evalL]; done)
    | (intro ℓ σ; simp [evalKV]; done)
    | (intro q ℓ σ; simp [evalB]; done)
    | (intro ℓ σ; unfold evalSrc; rfl)
    | (intro ns p; simp only [chkSrc]; done)
    | (intro ℓ σ; unfold evalC; rfl)
    | (intro ns ifs h
       match ifs, h with
       | [], h => exact Bool.noConfusion (show false = true from h)
       | [p], h => exact ⟨p, rfl, h⟩
       | _ :: _ :: _, h => exact Bool.noConfusion (show false = true from h))
theorem Snd_neg {e : E} (h : Snd cx cf d e) : Snd cx cf d (.neg e) := by
  refine Snd.mk' (SE_neg h.se) (ST_plain (SE_neg h.se) (by intro ns pe h; unfold chkE at h; first | cases h | (split at h <;> first | rfl | cases h))) (SU_no (by intro ns pe h; unfold chkE at h; first | cases h | (split at h <;> first | rfl | cases h))) ?_ ?_ ?_ ?_ ?_ ?_ ?_
  all_goals first
    | (intro ℓ σ; simp [evalL]; done)
    | (intro ℓ σ; simp [evalKV]; done)
    | (intro q ℓ σ; simp [evalB]; done)
    | (intro ℓ σ; unfold evalSrc; rfl)
    | (intro ns p; simp only [chkSrc]; done)
    | (intro ℓ σ; unfold evalC; rfl)
    | (intro ns ifs h
       match ifs, h with
       | [], h => exact Bool.noConfusion (show false = true from h)
       | [p], h => exact ⟨p, rfl, h⟩
       | _ :: _ :: _, h => exact Bool.noConfusion (show false = true from h))
theorem Snd_lnot {e : E} (h : Snd cx cf d e) : Snd cx cf d (.lnot e) := by
  refine Snd.mk' (SE_lnot h.se) (ST_lnot h.st) (SU_no (by intro ns pe h; unfold chkE at h; first | cases h | (split at h <;> first | rfl | cases h))) ?_ ?_ ?_ ?_ ?_ ?_ ?_
  all_goals first
    | (intro ℓ σ; simp [evalL]; done)
    | (intro ℓ σ; simp [evalKV]; done)
    | (intro q ℓ σ; simp [evalB]; done)
    | (intro ℓ σ; unfold evalSrc; rfl)
    | (intro ns p; simp only [chkSrc]; done)
    | (intro ℓ σ; unfold evalC; rfl)
    | (intro ns ifs h
       match ifs, h with
       | [], h => exact Bool.noConfusion (show false = true from h)
       | [p], h => exact ⟨p, rfl, h⟩
       | _ :: _ :: _, h => exact Bool.noConfusion (show false = true from h))
theorem Snd_bin {o : BOp} {a b : E} (h : Snd cx cf d a) (h2 : Snd cx cf d b) : Snd cx cf d (.bin o a b) := by
  refine Snd.mk' (SE_bin h.se h2.se) (ST_plain (SE_bin h.se h2.se) (by intro ns pe h; unfold chkE at h; first | cases h | (split at h <;> first | rfl | cases h))) (SU_no (by intro ns pe h; unfold chkE at h; first | cases h | (split at h <;> first | rfl | cases h))) ?_ ?_ ?_ ?_ ?_ ?_ ?_
  all_goals first
    | (intro ℓ σ; simp [evalL]; done)
    | (intro ℓ σ; simp [evalKV]; done)
    | (intro q ℓ σ; simp [evalB]; done)
    | (intro ℓ σ; unfold evalSrc; rfl)
    | (intro ns p; simp only [chkSrc]; done)
    | (intro ℓ σ; unfold evalC; rfl)
    | (intro ns ifs h
       match ifs, h with
       | [], h => exact Bool.noConfusion (show false = true from h)
       | [p], h => exact ⟨p, rfl, h⟩
       | _ :: _ :: _, h => exact Bool.noConfusion (show false = true from h))
theorem Snd_isNone {e : E} (h : Snd cx cf d e) : Snd cx cf d (.isNone e) := by
  refine Snd.mk' (SE_isNone h.se) (ST_isNone h.se) (SU_no (by intro ns pe h; unfold chkE at h; first | cases h | (split at h <;> first | rfl | cases h))) ?_ ?_ ?_ ?_ ?_ ?_ ?_
  all_goals first
    | (intro ℓ σ; simp [evalL]; done)
    | (intro ℓ σ; simp [evalKV]; done)
    | (intro q ℓ σ; simp [evalB]; done)
    | (intro ℓ σ; unfold evalSrc; rfl)
    | (intro ns p; simp only [chkSrc]; done)
    | (intro ℓ σ; unfold evalC; rfl)
    | (intro ns ifs h
       match ifs, h with
       | [], h => exact Bool.noConfusion (show false = true from h)
       | [p], h => exact ⟨p, rfl, h⟩
       | _ :: _ :: _, h => exact Bool.noConfusion (show false = true from h))
theorem Snd_notNone {e : E} (h : Snd cx cf d e) : Snd cx cf d (.notNone e) := by
  refine Snd.mk' (SE_notNone h.se) (ST_notNone h.se) (SU_no (by intro ns pe h; unfold chkE at h; first | cases h | (split at h <;> first | rfl | cases h))) ?_ ?_ ?_ ?_ ?_ ?_ ?_
  all_goals first
    | (intro ℓ σ; simp [evalL]; done)
    | (intro ℓ σ; simp [evalKV]; done)
    | (intro q ℓ σ; simp [evalB]; done)
    | (intro ℓ σ; unfold evalSrc; rfl)
    | (intro ns p; simp only [chkSrc]; done)
    | (intro ℓ σ; unfold evalC; rfl)
    | (intro ns ifs h
       match ifs, h with
       | [], h => exact Bool.noConfusion (show false = true from h)
       | [p], h => exact ⟨p, rfl, h⟩
       | _ :: _ :: _, h => exact Bool.noConfusion (show false = true from h))
theorem Snd_cmp {o : COp} {a b : E} (h : Snd cx cf d a) (h2 : Snd cx cf d b) : Snd cx cf d (.cmp o a b) := by
  refine Snd.mk' (SE_cmp h.se h2.se) (ST_cmp h.se h2.se) (SU_no (by intro ns pe h; unfold chkE at h; first | cases h | (split at h <;> first | rfl | cases h))) ?_ ?_ ?_ ?_ ?_ ?_ ?_
  all_goals first
    | (intro ℓ σ; simp [evalL]; done)
    | (intro ℓ σ; simp [evalKV]; done)
    | (intro q ℓ σ; simp [evalB]; done)
    | (intro ℓ σ; unfold evalSrc; rfl)
    | (intro ns p; simp only [chkSrc]; done)
    | (intro ℓ σ; unfold evalC; rfl)
    | (intro ns ifs h
       match ifs, h with
       | [], h => exact Bool.noConfusion (show false = true from h)
       | [p], h => exact ⟨p, rfl, h⟩
       | _ :: _ :: _, h => exact Bool.noConfusion (show false = true from h))
theorem Snd_ands {es : E} (h : Snd cx cf d es) : Snd cx cf d (.ands es) := by
  refine Snd.mk' (SE_ands h.sb) (ST_ands h.sbt) (SU_no (by intro ns pe h; unfold chkE at h; first | cases h | (split at h <;> first | rfl | cases h))) ?_ ?_ ?_ ?_ ?_ ?_ ?_
  all_goals first
    | (intro ℓ σ; simp [evalL]; done)
    | (intro ℓ σ; simp [evalKV]; done)
    | (intro q ℓ σ; simp [evalB]; done)
    | (intro ℓ σ; unfold evalSrc; rfl)
    | (intro ns p; simp only [chkSrc]; done)
    | (intro ℓ σ; unfold evalC; rfl)
    | (intro ns ifs h
       match ifs, h with
       | [], h => exact Bool.noConfusion (show false = true from h)
       | [p], h => exact ⟨p, rfl, h⟩
       | _ :: _ :: _, h => exact Bool.noConfusion (show false = true from h))
theorem Snd_ors {es : E} (h : Snd cx cf d es) : Snd cx cf d (.ors es) := by
  refine Snd.mk' (SE_ors h.sb) (ST_ors h.sbt) (SU_no (by intro ns pe h; unfold chkE at h; first | cases h | (split at h <;> first | rfl | cases h))) ?_ ?_ ?_ ?_ ?_ ?_ ?_
  all_goals first
    | (intro ℓ σ; simp [evalL]; done)
    | (intro ℓ σ; simp [evalKV]; done)
    | (intro q ℓ σ; simp [evalB]; done)
    | (intro ℓ σ; unfold evalSrc; rfl)
    | (intro ns p; simp only [chkSrc]; done)
    | (intro ℓ σ; unfold evalC; rfl)
    | (intro ns ifs h
       match ifs, h with
       | [], h => exact Bool.noConfusion (show false = true from h)
       | [p], h => exact ⟨p, rfl, h⟩
       | _ :: _ :: _, h => exact Bool.noConfusion (show false = true from h))
theorem Snd_ite {c t e : E} (h : Snd cx cf d c) (h2 : Snd cx cf d t) (h3 : Snd cx cf d e) : Snd cx cf d (.ite c t e) := by
  refine Snd.mk' (SE_ite h.st h2.se h3.se) (ST_ite h.st h2.st h3.st) (SU_no (by intro ns pe h; unfold chkE at h; first | cases h | (split at h <;> first | rfl | cases h))) ?_ ?_ ?_ ?_ ?_ ?_ ?_
  all_goals first
    | (intro ℓ σ; simp [evalL]; done)
    | (intro ℓ σ; simp [evalKV]; done)
    | (intro q ℓ σ; simp [evalB]; done)
    | (intro ℓ σ; unfold evalSrc; rfl)
    | (intro ns p; simp only [chkSrc]; done)
    | (intro ℓ σ; unfold evalC; rfl)
    | (intro ns ifs h
       match ifs, h with
       | [], h => exact Bool.noConfusion (show false = true from h)
       | [p], h => exact ⟨p, rfl, h⟩
       | _ :: _ :: _, h => exact Bool.noConfusion (show false = true from h))
theorem Snd_comp (T : CxTop cx) {vis : List String} {elt it cond : E} {t : Tgt} (h1 : Snd cx cf d elt) (h2 : Snd cx cf d it) (h3 : Snd cx cf d cond) : Snd cx cf d (.comp vis elt t it cond) := by
  refine Snd.mk' (SE_comp T h2.src h1.se h3.sc) (ST_plain (SE_comp T h2.src h1.se h3.sc) (by intro ns pe h; unfold chkE at h; first | cases h | (split at h <;> first | rfl | cases h))) (SU_comp T h2.src h1.se h3.sc) ?_ ?_ ?_ ?_ ?_ ?_ ?_
  all_goals first
    | (intro ℓ σ; simp [evalL]; done)
    | (intro ℓ σ; simp [evalKV]; done)
    | (intro q ℓ σ; simp [evalB]; done)
    | (intro ℓ σ; unfold evalSrc; rfl)
    | (intro ns p; simp only [chkSrc]; done)
    | (intro ℓ σ; unfold evalC; rfl)
    | (intro ns ifs h
       match ifs, h with
       | [], h => exact Bool.noConfusion (show false = true from h)
       | [p], h => exact ⟨p, rfl, h⟩
       | _ :: _ :: _, h => exact Bool.noConfusion (show false = true from h))
theorem Snd_bcall (T : CxTop cx) {g : String} {es : E} (h : Snd cx cf d es) : Snd cx cf d (.bcall g es) := by
  refine Snd.mk' (SE_bcall T h.sl) (ST_plain (SE_bcall T h.sl) (by intro ns pe h; unfold chkE at h; first | cases h | (split at h <;> first | rfl | cases h))) (SU_no (by intro ns pe h; unfold chkE at h; first | cases h | (split at h <;> first | rfl | cases h))) ?_ ?_ ?_ ?_ ?_ ?_ ?_
  all_goals first
    | (intro ℓ σ; simp [evalL]; done)
    | (intro ℓ σ; simp [evalKV]; done)
    | (intro q ℓ σ; simp [evalB]; done)
    | (intro ℓ σ; unfold evalSrc; rfl)
    | (intro ns p; simp only [chkSrc]; done)
    | (intro ℓ σ; unfold evalC; rfl)
    | (intro ns ifs h
       match ifs, h with
       | [], h => exact Bool.noConfusion (show false = true from h)
       | [p], h => exact ⟨p, rfl, h⟩
       | _ :: _ :: _, h => exact Bool.noConfusion (show false = true from h))
theorem Snd_bmeth (T : CxTop cx) (TG : TGet cx) {e es : E} {m : String} (h1 : Snd cx cf d e) (h : Snd cx cf d es) : Snd cx cf d (.bmeth e m es) := by
  refine Snd.mk' (SE_bmeth T TG h1.se h.sl) (ST_plain (SE_bmeth T TG h1.se h.sl) (by intro ns pe h; unfold chkE at h; first | cases h | (split at h <;> first | rfl | cases h))) (SU_no (by intro ns pe h; unfold chkE at h; first | cases h | (split at h <;> first | rfl | cases h))) ?_ ?_ ?_ ?_ ?_ ?_ ?_
  all_goals first
    | (intro ℓ σ; simp [evalL]; done)
    | (intro ℓ σ; simp [evalKV]; done)
    | (intro q ℓ σ; simp [evalB]; done)
    | (intro ℓ σ; unfold evalSrc; rfl)
    | (intro ns p; simp only [chkSrc]; done)
    | (intro ℓ σ; unfold evalC; rfl)
    | (intro ns ifs h
       match ifs, h with
       | [], h => exact Bool.noConfusion (show false = true from h)
       | [p], h => exact ⟨p, rfl, h⟩
       | _ :: _ :: _, h => exact Bool.noConfusion (show false = true from h))
theorem Snd_listRng (T : CxTop cx) {e : E} (h : Snd cx cf d e) : Snd cx cf d (.listRng e) := by
  refine Snd.mk' (SE_listRng T h.se) (ST_plain (SE_listRng T h.se) (by intro ns pe h; unfold chkE at h; first | cases h | (split at h <;> first | rfl | cases h))) (SU_no (by intro ns pe h; unfold chkE at h; first | cases h | (split at h <;> first | rfl | cases h))) ?_ ?_ ?_ ?_ ?_ ?_ ?_
  all_goals first
    | (intro ℓ σ; simp [evalL]; done)
    | (intro ℓ σ; simp [evalKV]; done)
    | (intro q ℓ σ; simp [evalB]; done)
    | (intro ℓ σ; unfold evalSrc; rfl)
    | (intro ns p; simp only [chkSrc]; done)
    | (intro ℓ σ; unfold evalC; rfl)
    | (intro ns ifs h
       match ifs, h with
       | [], h => exact Bool.noConfusion (show false = true from h)
       | [p], h => exact ⟨p, rfl, h⟩
       | _ :: _ :: _, h => exact Bool.noConfusion (show false = true from h))
theorem Snd_dpop {e v : E} {k : String}  : Snd cx cf d (.dpop e k v) := by
  refine Snd.mk' (SE_vac (by intro ℓ σ; simp [evalE])) (ST_vac (by intro ℓ σ; simp [evalE])) (SU_no (by intro ns pe h; unfold chkE at h; first | cases h | (split at h <;> first | rfl | cases h))) ?_ ?_ ?_ ?_ ?_ ?_ ?_
  all_goals first
    | (intro ℓ σ; simp [evalL]; done)
    | (intro ℓ σ; simp [evalKV]; done)
    | (intro q ℓ σ; simp [evalB]; done)
    | (intro ℓ σ; unfold evalSrc; rfl)
    | (intro ns p; simp only [chkSrc]; done)
    | (intro ℓ σ; unfold evalC; rfl)
    | (intro ns ifs h
       match ifs, h with
       | [], h => exact Bool.noConfusion (show false = true from h)
       | [p], h => exact ⟨p, rfl, h⟩
       | _ :: _ :: _, h => exact Bool.noConfusion (show false = true from h))
theorem Snd_callLoc {g : String} {es : E}  : Snd cx cf d (.callLoc g es) := by
  refine Snd.mk' (SE_vac (by intro ℓ σ; simp [evalE])) (ST_vac (by intro ℓ σ; simp [evalE])) (SU_no (by intro ns pe h; unfold chkE at h; first | cases h | (split at h <;> first | rfl | cases h))) ?_ ?_ ?_ ?_ ?_ ?_ ?_
  all_goals first
    | (intro ℓ σ; simp [evalL]; done)
    | (intro ℓ σ; simp [evalKV]; done)
    | (intro q ℓ σ; simp [evalB]; done)
    | (intro ℓ σ; unfold evalSrc; rfl)
    | (intro ns p; simp only [chkSrc]; done)
    | (intro ℓ σ; unfold evalC; rfl)
    | (intro ns ifs h
       match ifs, h with
       | [], h => exact Bool.noConfusion (show false = true from h)
       | [p], h => exact ⟨p, rfl, h⟩
       | _ :: _ :: _, h => exact Bool.noConfusion (show false = true from h))
theorem Snd_stuck   : Snd cx cf d (.stuck) := by
  refine Snd.mk' (SE_vac (by intro ℓ σ; simp [evalE])) (ST_vac (by intro ℓ σ; simp [evalE])) (SU_no (by intro ns pe h; unfold chkE at h; first | cases h | (split at h <;> first | rfl | cases h))) ?_ ?_ ?_ ?_ ?_ ?_ ?_
  all_goals first
    | (intro ℓ σ; simp [evalL]; done)
    | (intro ℓ σ; simp [evalKV]; done)
    | (intro q ℓ σ; simp [evalB]; done)
    | (intro ℓ σ; unfold evalSrc; rfl)
    | (intro ns p; simp only [chkSrc]; done)
    | (intro ℓ σ; unfold evalC; rfl)
    | (intro ns ifs h
       match ifs, h with
       | [], h => exact Bool.noConfusion (show false = true from h)
       | [p], h => exact ⟨p, rfl, h⟩
       | _ :: _ :: _, h => exact Bool.noConfusion (show false = true from h))
theorem Snd_nil : Snd cx cf d .nil :=
  ⟨(by intro pe f hc; unfold chkE at hc; cases hc), (by intro pe f hc; unfold chkE at hc; cases hc), SL_nil, SKV_nil, SB_vac (by intro q ℓ σ; simp [evalB]), SBT_vac (by intro q ℓ σ; simp [evalB]),
    (by intro p f hc; unfold chkSrc at hc; unfold chkE at hc; cases hc), SC_nil, (by intro pe f hc; unfold chkE at hc; cases hc)⟩
theorem Snd_cons {e es : E} (h : Snd cx cf d e) (h2 : Snd cx cf d es) : Snd cx cf d (.cons e es) :=
  ⟨SE_vac (by intro ℓ σ; simp [evalE]), ST_vac (by intro ℓ σ; simp [evalE]), SL_cons h.se h2.sl, SKV_vac (by intro ℓ σ; simp [evalKV]), SB_cons h.se h2.sb, SBT_cons h.st h2.sbt, (by intro p f hc; unfold chkSrc at hc; unfold chkE at hc; cases hc),
    SC_test (ST_vac (by intro ℓ σ; simp [evalE])) (by intro ℓ σ; unfold evalC; rfl) (by
      intro ns ifs h
      match ifs, h with
      | [], h => exact Bool.noConfusion (show false = true from h)
      | [p], h => exact ⟨p, rfl, h⟩
      | _ :: _ :: _, h => exact Bool.noConfusion (show false = true from h)), (by intro pe f hc; unfold chkE at hc; cases hc)⟩
theorem Snd_kv {k : String} {e es : E} (h : Snd cx cf d e) (h2 : Snd cx cf d es) : Snd cx cf d (.kv k e es) :=
  ⟨SE_vac (by intro ℓ σ; simp [evalE]), ST_vac (by intro ℓ σ; simp [evalE]), SL_vac (by intro ℓ σ; simp [evalL]), SKV_kv h.se h2.skv, SB_vac (by intro q ℓ σ; simp [evalB]), SBT_vac (by intro q ℓ σ; simp [evalB]), (by intro p f hc; unfold chkSrc at hc; unfold chkE at hc; cases hc),
    SC_test (ST_vac (by intro ℓ σ; simp [evalE])) (by intro ℓ σ; unfold evalC; rfl) (by
      intro ns ifs h
      match ifs, h with
      | [], h => exact Bool.noConfusion (show false = true from h)
      | [p], h => exact ⟨p, rfl, h⟩
      | _ :: _ :: _, h => exact Bool.noConfusion (show false = true from h)), (by intro pe f hc; unfold chkE at hc; cases hc)⟩
theorem Snd_rng (T : CxTop cx) {a b : E} {one : Bool} (h : Snd cx cf d a) (h2 : Snd cx cf d b) : Snd cx cf d (.rng a b one) :=
  ⟨SE_vac (by intro ℓ σ; simp [evalE]), ST_vac (by intro ℓ σ; simp [evalE]), SL_vac (by intro ℓ σ; simp [evalL]), SKV_vac (by intro ℓ σ; simp [evalKV]), SB_vac (by intro q ℓ σ; simp [evalB]), SBT_vac (by intro q ℓ σ; simp [evalB]), SSrc_rng T h.se h2.se,
    SC_test (ST_vac (by intro ℓ σ; simp [evalE])) (by intro ℓ σ; unfold evalC; rfl) (by
      intro ns ifs h
      match ifs, h with
      | [], h => exact Bool.noConfusion (show false = true from h)
      | [p], h => exact ⟨p, rfl, h⟩
      | _ :: _ :: _, h => exact Bool.noConfusion (show false = true from h)), (by intro pe f hc; unfold chkE at hc; cases hc)⟩
theorem Snd_enumE (T : CxTop cx) {a : E} (h : Snd cx cf d a) : Snd cx cf d (.enumE a) :=
  ⟨SE_vac (by intro ℓ σ; simp [evalE]), ST_vac (by intro ℓ σ; simp [evalE]), SL_vac (by intro ℓ σ; simp [evalL]), SKV_vac (by intro ℓ σ; simp [evalKV]), SB_vac (by intro q ℓ σ; simp [evalB]), SBT_vac (by intro q ℓ σ; simp [evalB]), SSrc_enum T h.se,
    SC_test (ST_vac (by intro ℓ σ; simp [evalE])) (by intro ℓ σ; unfold evalC; rfl) (by
      intro ns ifs h
      match ifs, h with
      | [], h => exact Bool.noConfusion (show false = true from h)
      | [p], h => exact ⟨p, rfl, h⟩
      | _ :: _ :: _, h => exact Bool.noConfusion (show false = true from h)), (by intro pe f hc; unfold chkE at hc; cases hc)⟩
theorem Snd_zipE {a b : E}  : Snd cx cf d (.zipE a b) :=
  ⟨SE_vac (by intro ℓ σ; simp [evalE]), ST_vac (by intro ℓ σ; simp [evalE]), SL_vac (by intro ℓ σ; simp [evalL]), SKV_vac (by intro ℓ σ; simp [evalKV]), SB_vac (by intro q ℓ σ; simp [evalB]), SBT_vac (by intro q ℓ σ; simp [evalB]), SSrc_vac (by intro ℓ σ; simp [evalSrc]),
    SC_test (ST_vac (by intro ℓ σ; simp [evalE])) (by intro ℓ σ; unfold evalC; rfl) (by
      intro ns ifs h
      match ifs, h with
      | [], h => exact Bool.noConfusion (show false = true from h)
      | [p], h => exact ⟨p, rfl, h⟩
      | _ :: _ :: _, h => exact Bool.noConfusion (show false = true from h)), (by intro pe f hc; unfold chkE at hc; cases hc)⟩
end
section
variable {cx : Cx} {d : Nat} {prog : String → Option Fn}
theorem Snd_call (T : CxTop cx) (FS : Funs cx prog) (C : CallOK cx (callN prog d) d) {g : String} {es : E} (h : Snd cx (callN prog d) d es) : Snd cx (callN prog d) d (.call g es) := by
  refine Snd.mk' (SE_call T FS C h.sl) (ST_plain (SE_call T FS C h.sl) (by intro ns pe h; unfold chkE at h; first | cases h | (split at h <;> first | rfl | cases h))) (SU_no (by intro ns pe h; unfold chkE at h; first | cases h | (split at h <;> first | rfl | cases h))) ?_ ?_ ?_ ?_ ?_ ?_ ?_
  all_goals first
    | (intro ℓ σ; simp [evalL]; done)
    | (intro ℓ σ; simp [evalKV]; done)
    | (intro q ℓ σ; simp [evalB]; done)
    | (intro ℓ σ; unfold evalSrc; rfl)
    | (intro ns p; simp only [chkSrc]; done)
    | (intro ℓ σ; unfold evalC; rfl)
    | (intro ns ifs h
       match ifs, h with
       | [], h => exact Bool.noConfusion (show false = true from h)
       | [p], h => exact ⟨p, rfl, h⟩
       | _ :: _ :: _, h => exact Bool.noConfusion (show false = true from h))
theorem Snd_umeth (T : CxTop cx) (FS : Funs cx prog) (C : CallOK cx (callN prog d) d) {e es : E} {m : String} (h1 : Snd cx (callN prog d) d e) (h : Snd cx (callN prog d) d es) : Snd cx (callN prog d) d (.umeth e m es) := by
  refine Snd.mk' (SE_umeth T FS C h1.se h.sl) (ST_plain (SE_umeth T FS C h1.se h.sl) (by intro ns pe h; unfold chkE at h; first | cases h | (split at h <;> first | rfl | cases h))) (SU_no (by intro ns pe h; unfold chkE at h; first | cases h | (split at h <;> first | rfl | cases h))) ?_ ?_ ?_ ?_ ?_ ?_ ?_
  all_goals first
    | (intro ℓ σ; simp [evalL]; done)
    | (intro ℓ σ; simp [evalKV]; done)
    | (intro q ℓ σ; simp [evalB]; done)
    | (intro ℓ σ; unfold evalSrc; rfl)
    | (intro ns p; simp only [chkSrc]; done)
    | (intro ℓ σ; unfold evalC; rfl)
    | (intro ns ifs h
       match ifs, h with
       | [], h => exact Bool.noConfusion (show false = true from h)
       | [p], h => exact ⟨p, rfl, h⟩
       | _ :: _ :: _, h => exact Bool.noConfusion (show false = true from h))
theorem Snd_new (T : CxTop cx) (FS : Funs cx prog) (C : CallOK cx (callN prog d) d) {c : String} {es : E} (h : Snd cx (callN prog d) d es) : Snd cx (callN prog d) d (.new c es) := by
  refine Snd.mk' (SE_new T FS C h.sl) (ST_plain (SE_new T FS C h.sl) (by intro ns pe h; unfold chkE at h; first | cases h | (split at h <;> first | rfl | cases h))) (SU_no (by intro ns pe h; unfold chkE at h; first | cases h | (split at h <;> first | rfl | cases h))) ?_ ?_ ?_ ?_ ?_ ?_ ?_
  all_goals first
    | (intro ℓ σ; simp [evalL]; done)
    | (intro ℓ σ; simp [evalKV]; done)
    | (intro q ℓ σ; simp [evalB]; done)
    | (intro ℓ σ; unfold evalSrc; rfl)
    | (intro ns p; simp only [chkSrc]; done)
    | (intro ℓ σ; unfold evalC; rfl)
    | (intro ns ifs h
       match ifs, h with
       | [], h => exact Bool.noConfusion (show false = true from h)
       | [p], h => exact ⟨p, rfl, h⟩
       | _ :: _ :: _, h => exact Bool.noConfusion (show false = true from h))
/-- every expression -/
theorem snd_all (T : CxTop cx) (FS : Funs cx prog) (TG : TGet cx) (C : CallOK cx (callN prog d) d) : ∀ e : E, Snd cx (callN prog d) d e
  | .nil => Snd_nil
  | .cons a b => Snd_cons (snd_all T FS TG C a) (snd_all T FS TG C b)
  | .kv _ a b => Snd_kv (snd_all T FS TG C a) (snd_all T FS TG C b)
  | .var _ => Snd_var
  | .non => Snd_non
  | .bool _ => Snd_bool
  | .int _ => Snd_int
  | .str _ => Snd_str
  | .list a => Snd_list (snd_all T FS TG C a)
  | .tuple a => Snd_tuple (snd_all T FS TG C a)
  | .dict a => Snd_dict (snd_all T FS TG C a)
  | .tdict => Snd_tdict
  | .attr a _ => Snd_attr T (snd_all T FS TG C a)
  | .sub a b => Snd_sub (snd_all T FS TG C a) (snd_all T FS TG C b)
  | .slice a b c => Snd_slice (snd_all T FS TG C a) (snd_all T FS TG C b) (snd_all T FS TG C c)
  | .dget a _ => Snd_dget (snd_all T FS TG C a)
  | .dgetd a _ b => Snd_dgetd T (snd_all T FS TG C a) (snd_all T FS TG C b)
  | .dpop _ _ _ => Snd_dpop
  | .dhas _ a => Snd_dhas T (snd_all T FS TG C a)
  | .dhasnt _ a => Snd_dhasnt T (snd_all T FS TG C a)
  | .neg a => Snd_neg (snd_all T FS TG C a)
  | .lnot a => Snd_lnot (snd_all T FS TG C a)
  | .bin _ a b => Snd_bin (snd_all T FS TG C a) (snd_all T FS TG C b)
  | .isNone a => Snd_isNone (snd_all T FS TG C a)
  | .notNone a => Snd_notNone (snd_all T FS TG C a)
  | .cmp _ a b => Snd_cmp (snd_all T FS TG C a) (snd_all T FS TG C b)
  | .ands a => Snd_ands (snd_all T FS TG C a)
  | .ors a => Snd_ors (snd_all T FS TG C a)
  | .ite a b c => Snd_ite (snd_all T FS TG C a) (snd_all T FS TG C b) (snd_all T FS TG C c)
  | .comp _ a _ b c => Snd_comp T (snd_all T FS TG C a) (snd_all T FS TG C b) (snd_all T FS TG C c)
  | .call _ a => Snd_call T FS C (snd_all T FS TG C a)
  | .bcall _ a => Snd_bcall T (snd_all T FS TG C a)
  | .new _ a => Snd_new T FS C (snd_all T FS TG C a)
  | .umeth a _ b => Snd_umeth T FS C (snd_all T FS TG C a) (snd_all T FS TG C b)
  | .bmeth a _ b => Snd_bmeth T TG (snd_all T FS TG C a) (snd_all T FS TG C b)
  | .callLoc _ _ => Snd_callLoc
  | .rng a b _ => Snd_rng T (snd_all T FS TG C a) (snd_all T FS TG C b)
  | .listRng a => Snd_listRng T (snd_all T FS TG C a)
  | .enumE a => Snd_enumE T (snd_all T FS TG C a)
  | .zipE _ _ => Snd_zipE
  | .stuck => Snd_stuck
theorem SSs_vac {cf : CallF} {st : S} (h : ∀ ns ps, chkSs ns st ps = false) : SSs cx cf d st := by
  intro ps f hc; rw [h] at hc; cases hc
theorem SS_vac {cf : CallF} {st : S} (h : ∀ ns ps, chkS ns st ps = false) : SS cx cf d st := by
  intro ps f hc; rw [h] at hc; cases hc
/-- an extend by a generator is sound (proved in its own text) -/
def SExt (cx : Cx) (cf : CallF) (d : Nat) : Prop := ∀ {vis : List String} {e elt it : E} {t : Tgt}, SE cx cf d e → SE cx cf d elt → SE cx cf d it → SS cx cf d (.extS vis e elt t it)
/-- every statement -/
theorem ss_all (T : CxTop cx) (FS : Funs cx prog) (TG : TGet cx) (TS : TSet cx) (X : SExt cx (callN prog d) d) (C : CallOK cx (callN prog d) d) : ∀ st : S, SS cx (callN prog d) d st ∧ SSs cx (callN prog d) d st := by
  have H := snd_all (d := d) T FS TG C
  intro st
  induction st with
  | done => exact ⟨SS_vac (by intro ns ps; simp [chkS]), SS_done⟩
  | seq a b iha ihb => exact ⟨SS_vac (by intro ns ps; simp [chkS]), SS_seq iha.1 ihb.2⟩
  | expr e => exact ⟨SS_expr (H e).se, SSs_vac (by intro ns ps; simp [chkSs])⟩
  | retS e => exact ⟨SS_ret (H e).se, SSs_vac (by intro ns ps; simp [chkSs])⟩
  | passS => exact ⟨SS_pass, SSs_vac (by intro ns ps; simp [chkSs])⟩
  | brkS => exact ⟨SS_brk, SSs_vac (by intro ns ps; simp [chkSs])⟩
  | contS => exact ⟨SS_cont, SSs_vac (by intro ns ps; simp [chkSs])⟩
  | ifS c t f iht ihf => exact ⟨SS_if (H c).st iht.2 ihf.2, SSs_vac (by intro ns ps; simp [chkSs])⟩
  | whileS c b ihb => exact ⟨SS_while (H c).st ihb.2, SSs_vac (by intro ns ps; simp [chkSs])⟩
  | forS x it b ihb => exact ⟨SS_for (H it).src ihb.2, SSs_vac (by intro ns ps; simp [chkSs])⟩
  | assign t e => exact ⟨SS_assign (H e).se (H e).su, SSs_vac (by intro ns ps; simp [chkSs])⟩
  | swap t e => exact ⟨SS_swap (H e).se, SSs_vac (by intro ns ps; simp [chkSs])⟩
  | setAttr o f v => exact ⟨SS_setAttr T (H v).se (H o).se, SSs_vac (by intro ns ps; simp [chkSs])⟩
  | setSub o i v => exact ⟨SS_setSub T TS (H v).se (H o).se (H i).se, SSs_vac (by intro ns ps; simp [chkSs])⟩
  | setSlice o lo hi v => exact ⟨SS_setSlice (H v).se (H o).se (H lo).se (H hi).se, SSs_vac (by intro ns ps; simp [chkSs])⟩
  | dset o k v => exact ⟨SS_dset (H v).se (H o).se, SSs_vac (by intro ns ps; simp [chkSs])⟩
  | aug x o e => exact ⟨SS_aug (H e).se, SSs_vac (by intro ns ps; simp [chkSs])⟩
  | augAttr e f o v => exact ⟨SS_augAttr T (H e).se (H v).se, SSs_vac (by intro ns ps; simp [chkSs])⟩
  | augSub e i o v => exact ⟨SS_augSub T TS (H e).se (H i).se (H v).se, SSs_vac (by intro ns ps; simp [chkSs])⟩
  | defn f => exact ⟨SS_vac (by intro ns ps; simp [chkS]), SSs_vac (by intro ns ps; simp [chkSs])⟩
  | extS vis e elt x it => exact ⟨X (H e).se (H elt).se (H it).se, SSs_vac (by intro ns ps; simp [chkSs])⟩
/-- every call -/
theorem call_all (T : CxTop cx) (FS : Funs cx prog) (TG : TGet cx) (TS : TSet cx) (X : ∀ d, SExt cx (callN prog d) d) : ∀ d, CallOK cx (callN prog d) d
  | 0 => callOK_zero
  | d + 1 => callOK_succ T FS fun g fn _ => (ss_all T FS TG TS (X d) (call_all T FS TG TS X d) fn.body).2
end
end Mine
end

/-! Sound22 -/
section
open PySem PySem.W PySem.Calls PyProof.Rows
set_option linter.unusedVariables false
namespace Mine
section
variable {cx : Cx} {A : Around} {E : Value → Shared → Prop} {s : Shared}
/-! a dict keyed by (name, number, truth) -/
def IsTK (h : Heap) (q : TKey) (a : Addr) : Prop := ∃ t u n, h.get? a = some (tupOf #[.str (mkS q.1) t, .int q.2.1 u, .bool q.2.2] n)
theorem IsTK.typeIs {q : TKey} {a : Addr} (h : IsTK s.heap q a) : s.TypeIs (.ref a) "tuple" := let ⟨t, u, n, g⟩ := h; ⟨_, g, rfl⟩
theorem mkS_inj {a b : List Nat} (h : mkS a = mkS b) : a = b := by have := congrArg (fun x : Str => x.cps.toList) h; simpa [mkS] using this
theorem IsTK.inj {h : Heap} {a : Addr} {x y : TKey} (hx : IsTK h x a) (hy : IsTK h y a) : x = y := by
  obtain ⟨t, u, n, g⟩ := hx
  obtain ⟨t', u', n', g'⟩ := hy
  rw [g] at g'
  have := congrArg Obj.data (Option.some.inj g')
  simp only [tupOf, Data.seq.injEq, Array.mk.injEq, List.cons.injEq, Value.str.injEq, Value.int.injEq, Value.bool.injEq] at this
  obtain ⟨⟨⟨h1, _⟩, ⟨h2, _⟩, h3, _⟩, _⟩ := this
  obtain ⟨x1, x2, x3⟩ := x
  obtain ⟨y1, y2, y3⟩ := y
  dsimp only at h1 h2 h3
  rw [mkS_inj h1, h2, h3]
theorem pyHash_bool {b : Bool} {Q : Int → Shared → Prop} (h : Q (hashInt (if b then 1 else 0)) { s with toks := s.toks + 1 }) : wpAny (Md cx) A (pyHash (.bool b)) Q E s := by
  have hr := rawHash_range (if b then 1 else 0)
  have hT : s.TypeIs (.bool b) "bool" := rfl
  unfold pyHash
  have hv : [Value.bool b].any Value.onHeap = false := rfl
  refine wpAny_bind ?_
  rw [cRoomFor, if_neg (by rw [hv]; exact Bool.false_ne_true)]; refine wpAny_pure ?_
  refine wpAny_bind (wpAny_specialOf hT F.slot_bool_hash.lookup ?_)
  show wpAny _ _ (if (some (Value.builtin "int.__hash__") == some Value.none) = true then _ else _) Q E s
  rw [if_neg (by rw [beq_builtin_none]; exact Bool.false_ne_true)]
  refine wpAny_bind (wpAny_specialOf hT F.slot_bool_hash.lookup ?_)
  show wpAny _ _ (callSpecialIfBoundUnlessNone? (.bool b) "__hash__" _ >>= _) Q E s
  refine wpAny_bind (wpAny_callSpecialIfBoundUnlessNone?_slot hT F.slot_bool_hash
    (wpAny_call_entry F.slot_bool_hash hT entry_int_hash
      (show wpAny _ _ (do ret (← mkInt (rawHash (if b then 1 else 0)))) _ _ s from wpAny_ret_mkInt ?_) (args_int_hash _)))
  show wpAny _ _ (if (decide (-(2 : Int) ^ 63 ≤ rawHash (if b then 1 else 0)) && decide (rawHash (if b then 1 else 0) < 2 ^ 63)) = true then _ else _) Q E _
  rw [if_pos (by rw [decide_eq_true hr.1, decide_eq_true hr.2]; rfl)]
  exact wpAny_pure h
theorem eqBool_bool {a b : Bool} {Q : Bool → Shared → Prop} (h : Q (a == b) s) : wpAny (Md cx) A (eqBool (.bool a) (.bool b)) Q E s :=
  PySem.SeqAt.EqAt.bool_bool a b _ _ _ _ h
theorem pyHash_tk {q : TKey} {a : Addr} {Q : Int → Shared → Prop} (hu : A.units < cLine) (hk : IsTK s.heap q a) (h : Q (keyHashT cx q) { s with toks := s.toks + 4 }) : wpAny (Md cx) A (pyHash (.ref a)) Q E s := by
  have hT := hk.typeIs
  obtain ⟨t, u, n, g⟩ := hk
  unfold pyHash
  first | unfold pyHashByItsType | skip
  first | refine wpAny_bind (wpAny_cRoomFor_or (.inr hu) ?_) | skip
  refine wpAny_bind (wpAny_specialOf hT F.slot_tuple_hash.lookup ?_)
  show wpAny _ _ (if (some (Value.builtin "tuple.__hash__") == some Value.none) = true then _ else _) Q E s
  rw [if_neg (by rw [beq_builtin_none]; exact Bool.false_ne_true)]
  refine wpAny_bind (wpAny_specialOf hT F.slot_tuple_hash.lookup ?_)
  show wpAny _ _ (callSpecialIfBoundUnlessNone? (.ref a) "__hash__" _ >>= _) Q E s
  refine wpAny_bind (wpAny_callSpecialIfBoundUnlessNone?_slot hT F.slot_tuple_hash (wpAny_call_entry F.slot_tuple_hash hT F.entry_tuple_hash ?_ (F.args_tuple_hash_1 _)))
  show wpAny _ _ (Builtin.Tuple.tupleItemsOf (.ref a) >>= _) _ _ s
  refine wpAny_bind (wpAny_tupleItemsOf g rfl ?_)
  refine wpAny_bind ?_
  rw [← Array.forIn_toList]
  simp only [List.forIn_cons, List.forIn_nil]
  refine wpAny_bind (wpAny_bind (wpAny_pyHash_str (wpAny_pure ?_)))
  refine wpAny_bind (wpAny_bind (wpAny_pyHash_int (wpAny_pure ?_)))
  refine wpAny_bind (wpAny_bind (pyHash_bool (wpAny_pure ?_)))
  refine wpAny_pure ?_
  show wpAny _ _ (retInt (Builtin.Tuple.tupleHashOf [hashStr cx.w (mkS q.1), hashInt q.2.1, hashInt (if q.2.2 then 1 else 0)])) _ _ _
  refine wpAny_ret_mkInt ?_
  generalize hH : Builtin.Tuple.tupleHashOf [hashStr cx.w (mkS q.1), hashInt q.2.1, hashInt (if q.2.2 then 1 else 0)] = H
  have e1 : keyHashT cx q = reduceHash H := by rw [← hH]; rfl
  rw [e1] at h
  show wpAny _ _ (if (decide (-(2 : Int) ^ 63 ≤ H) && decide (H < 2 ^ 63)) = true then _ else _) Q E _
  unfold reduceHash at h
  by_cases hr : (decide (-(2 : Int) ^ 63 ≤ H) && decide (H < 2 ^ 63)) = true
  · rw [if_pos hr]
    rw [if_pos hr] at h
    exact wpAny_pure h
  · rw [if_neg hr]
    rw [if_neg hr] at h
    exact wpAny_bind (wpAny_rule (wpAny_pure h))
theorem eq_tree_tk {x y : TKey} {a b : Addr} {P : Fin → Shared → Prop} (hx : IsTK s.heap x a) (hy : IsTK s.heap y b) (h : P (.done (.ret (.bool (decide (x = y))))) s) :
    wpAny (Md cx) A (Builtin.«tuple.__eq__» ⟨[.ref a, .ref b], []⟩) P E s := by
  have hTb := hy.typeIs
  obtain ⟨t, u, n, ga⟩ := hx
  obtain ⟨t', u', n', gb⟩ := hy
  show wpAny _ _ (isInstance (.ref b) (.type "tuple") >>= _) _ _ s
  refine wpAny_bind (wpAny_isInstance hTb isSubtype_tuple_tuple ?_)
  simp only [Bool.not_true, Bool.false_eq_true, if_false]
  refine wpAny_bind (wpAny_tupleItemsOf ga rfl ?_)
  refine wpAny_bind (wpAny_tupleItemsOf gb rfl ?_)
  change wpAny _ _ (forIn [((Value.str (mkS x.1) t), (Value.str (mkS y.1) t')), (.int x.2.1 u, .int y.2.1 u'), (.bool x.2.2, .bool y.2.2)] (none, ()) _ >>= _) _ _ _
  simp only [List.forIn_cons, List.forIn_nil]
  obtain ⟨x1, x2, x3⟩ := x
  obtain ⟨y1, y2, y3⟩ := y
  dsimp only at h ⊢
  refine wpAny_bind (wpAny_bind (wpAny_bind (wpAny_eqBool_str ?_)))
  by_cases h1 : mkS x1 = mkS y1
  · rw [decide_eq_true h1]
    simp only [Bool.not_true, Bool.false_eq_true, if_false]
    refine wpAny_pure ?_
    dsimp only
    refine wpAny_bind (wpAny_bind (wpAny_eqBool_int ?_))
    by_cases h2 : x2 = y2
    · rw [show (x2 == y2) = true from beq_iff_eq.mpr h2]
      simp only [Bool.not_true, Bool.false_eq_true, if_false]
      refine wpAny_pure ?_
      dsimp only
      refine wpAny_bind (wpAny_bind (eqBool_bool ?_))
      by_cases h3 : x3 = y3
      · rw [show (x3 == y3) = true from beq_iff_eq.mpr h3]
        simp only [Bool.not_true, Bool.false_eq_true, if_false]
        have e : decide ((x1, x2, x3) = (y1, y2, y3)) = true := by rw [mkS_inj h1, h2, h3]; simp
        rw [e] at h
        repeat (first | exact h | refine wpAny_pure ?_)
      · rw [show (x3 == y3) = false from beq_eq_false_iff_ne.mpr h3]
        simp only [Bool.not_false, if_true]
        have e : decide ((x1, x2, x3) = (y1, y2, y3)) = false := decide_eq_false fun q => h3 (congrArg (·.2.2) q)
        rw [e] at h
        repeat (first | exact h | refine wpAny_pure ?_ | refine wpAny_bind ?_)
    · rw [show (x2 == y2) = false from beq_eq_false_iff_ne.mpr h2]
      simp only [Bool.not_false, if_true]
      have e : decide ((x1, x2, x3) = (y1, y2, y3)) = false := decide_eq_false fun q => h2 (congrArg (·.2.1) q)
      rw [e] at h
      repeat (first | exact h | refine wpAny_pure ?_ | refine wpAny_bind ?_)
  · rw [decide_eq_false h1]
    simp only [Bool.not_false, if_true]
    have e : decide ((x1, x2, x3) = (y1, y2, y3)) = false := decide_eq_false fun q => h1 (congrArg (fun z => mkS z.1) q)
    rw [e] at h
    repeat (first | exact h | refine wpAny_pure ?_ | refine wpAny_bind ?_)
theorem eqBool_tk {x y : TKey} {a b : Addr} {Q : Bool → Shared → Prop} (hu : A.units < cLine) (hx : IsTK s.heap x a) (hy : IsTK s.heap y b) (h : Q (decide (x = y)) s) :
    wpAny (Md cx) A (eqBool (.ref a) (.ref b)) Q E s := by
  unfold eqBool
  try with_reducible refine wpAny_holding ?_
  show wpAny _ _ (if (Value.ref a == Value.ref b) = true then _ else _) Q E s
  by_cases hab : (Value.ref a == Value.ref b) = true
  · rw [if_pos hab]
    have e : a = b := by have := eq_of_beq hab; injection this
    subst e
    obtain rfl := hx.inj hy
    exact wpAny_bind (wpAny_rule (wpAny_pure (by simpa using h)))
  · rw [if_neg hab]
    exact wpAny_bind (wpAny_richCompare_same_room (op := .Eq) hx.typeIs hy.typeIs F.slot_tuple_eq
      (wpAny_call_entry F.slot_tuple_eq hx.typeIs F.entry_tuple_eq (eq_tree_tk hx hy ⟨_, rfl, (fun e => nomatch e), wpAny_truthy_bool h⟩) (F.args_tuple_eq_2 _ _)) hu)
theorem quiet_tk {q : TKey} {a : Addr} {Q : Bool → Shared → Prop} (hk : IsTK s.heap q a) (h : Q true s) : wpAny (Md cx) A (eqIsQuiet 8 (.ref a)) Q E s := by
  have hT := hk.typeIs
  obtain ⟨t, u, n, g⟩ := hk
  unfold eqIsQuiet
  refine wpAny_bind (wpAny_specialOf hT F.slot_tuple_eq.lookup ?_)
  show wpAny _ _ (isInstance (.ref a) (.type "tuple") >>= _) _ _ s
  refine wpAny_bind (wpAny_isInstance hT isSubtype_tuple_tuple ?_)
  simp only [Bool.not_true, Bool.false_eq_true, if_false]
  refine wpAny_bind (wpAny_seqItems g rfl ?_)
  refine wpAny_bind ?_
  show wpAny _ _ (forIn #[Value.str (mkS q.1) t, Value.int q.2.1 u, Value.bool q.2.2] _ _) _ _ s
  rw [← Array.forIn_toList]
  refine wpAny_forIn_list _ (fun rest r s' => r.1 = none ∧ s' = s ∧ ∀ v ∈ rest, carriedByValue v = true) _ ?_ ?_ _ _ ⟨rfl, rfl, ?_⟩
  · rintro v rest r s' ⟨hr, rfl, hall⟩
    rw [eqIsQuiet_byValue _ (hall v List.mem_cons_self)]
    refine wpAny_bind (wpAny_pure ?_)
    simp only [Bool.not_true, Bool.false_eq_true, if_false]
    exact wpAny_pure ⟨rfl, rfl, fun u hu' => hall u (List.mem_cons_of_mem _ hu')⟩
  · rintro ⟨r1, r2⟩ s' ⟨hr, rfl, _⟩
    simp only at hr
    subst hr
    exact wpAny_pure h
  · intro v hv
    simp only [List.mem_cons, List.not_mem_nil, or_false] at hv
    rcases hv with rfl | rfl | rfl <;> rfl
end
def tkKind (cx : Cx) : HeapKind cx.prog cx.w TKey where
  is := IsTK
  hash := keyHashT cx
  draws := fun _ => 4
  room := fun A => A.units < cLine
  inj := fun hx hy => hx.inj hy
  keeps := fun {h h' k a d o es ep} x ho hd hs => by
    obtain ⟨t, u, n, g⟩ := x
    have hne : a ≠ d := by
      rintro rfl
      rw [g] at ho; cases ho; cases hd
    exact ⟨t, u, n, (hs.2 a hne).trans g⟩
  pyHash := fun hu hk h => pyHash_tk hu hk h
  eqBool := fun hu hx hy h => eqBool_tk hu hx hy h
  quiet := fun hk h => quiet_tk hk h
section
variable {cx : Cx}
def TX (p : TKey × Int) (x : TKey × Addr × Value) : Prop := x.1 = p.1 ∧ ∃ t, x.2.2 = .int p.2 t
theorem tents_xs {h : Heap} : ∀ {es : List (TKey × Int)} {l : List DictEntry}, All2 (TEntR cx h) es l → ∃ xs, l = xs.map (entryOfKey (tkKind cx)) ∧ All2 TX es xs ∧ ∀ x ∈ xs, IsTK h x.1 x.2.1
  | _, _, .nil => ⟨[], rfl, .nil, fun x hx => by cases hx⟩
  | p :: es, e :: l, .cons hp r => by
    obtain ⟨xs, h1, h2, h3⟩ := tents_xs r
    obtain ⟨a, n, t, u, e1, e2, e3, tz, e4⟩ := hp
    refine ⟨(p.1, a, .int p.2 tz) :: xs, ?_, .cons ⟨rfl, tz, rfl⟩ h2, fun x hx => ?_⟩
    · rw [List.map_cons, ← h1]
      congr 1
      obtain ⟨eh, ek, ev⟩ := e
      dsimp only at e1 e3 e4
      subst e1 e3 e4
      rfl
    · rcases List.mem_cons.mp hx with rfl | hx
      · exact ⟨t, u, n, e2⟩
      · exact h3 x hx
theorem xs_tents {h : Heap} : ∀ {es : List (TKey × Int)} {xs : List (TKey × Addr × Value)}, All2 TX es xs → (∀ x ∈ xs, IsTK h x.1 x.2.1) → All2 (TEntR cx h) es (xs.map (entryOfKey (tkKind cx)))
  | _, _, .nil, _ => .nil
  | p :: es, x :: xs, .cons hp r, hk => by
    refine .cons ?_ (xs_tents r fun y hy => hk y (List.mem_cons_of_mem _ hy))
    obtain ⟨x1, xa, xv⟩ := x
    obtain ⟨e1, tz, e2⟩ := hp
    dsimp only at e1 e2
    subst e1 e2
    obtain ⟨t, u, n, g⟩ := hk _ List.mem_cons_self
    exact ⟨xa, n, t, u, rfl, g, rfl, tz, rfl⟩
theorem TX.keys : ∀ {es : List (TKey × Int)} {xs : List (TKey × Addr × Value)}, All2 TX es xs → xs.map (·.1) = es.map (·.1)
  | _, _, .nil => rfl
  | _, _, .cons h r => by rw [List.map_cons, List.map_cons, TX.keys r, h.1]
theorem TX.at {q : TKey} : ∀ {es : List (TKey × Int)} {xs : List (TKey × Addr × Value)}, All2 TX es xs → (es.lookup q = none ∧ atKey xs q = none) ∨ ∃ z a t, es.lookup q = some z ∧ atKey xs q = some (a, .int z t)
  | _, _, .nil => .inl ⟨rfl, rfl⟩
  | p :: es, x :: xs, .cons h r => by
    obtain ⟨x1, xa, xv⟩ := x
    obtain ⟨e1, tz, e2⟩ := h
    dsimp only at e1 e2
    subst e1 e2
    obtain ⟨p1, p2⟩ := p
    dsimp only
    by_cases hq : p1 = q
    · subst hq
      right
      refine ⟨p2, xa, tz, by rw [List.lookup_cons]; simp, ?_⟩
      unfold atKey; simp
    · have h1 : (q == p1) = false := beq_eq_false_iff_ne.mpr (Ne.symm hq)
      have e3 : List.lookup q ((p1, p2) :: es) = List.lookup q es := by rw [List.lookup_cons, h1]
      have e4 : atKey ((p1, xa, Value.int p2 tz) :: xs) q = atKey xs q := by unfold atKey; rw [List.find?_cons]; simp [hq]
      rw [e3, e4]
      exact TX.at r
theorem tdict_is {h : Heap} {a : Addr} {es : List (TKey × Int)} {l : List DictEntry} {n : Nat} (g : h.get? a = some (dictOf l n)) (y : All2 (TEntR cx h) es l) (nd : (es.map (·.1)).Nodup) : ∃ xs, h.DictOfH (tkKind cx) a xs ∧ All2 TX es xs := by
  obtain ⟨xs, h1, h2, h3⟩ := tents_xs y
  exact ⟨xs, ⟨_, l.toArray, n, g, ⟨rfl, rfl, rfl⟩, rfl, by simpa using h1, h3, by rw [TX.keys h2]; exact nd⟩, h2⟩
theorem tget : TGet cx := by
  intro h gens drawn toks os a b es l n m q t u z tz A dd Q Ex R g y nd gb lo k
  obtain ⟨xs, D, h2⟩ := tdict_is (cx := cx) g y nd
  have hu : (tkKind cx).room A.in1 := by have := R.uni; show A.units + 1 < cLine; unfold cLine; omega
  refine call_meetsIn (s := ⟨h, gens, drawn, toks, os⟩) PySem.F.slot_dict_get D.typeIs PySem.F.entry_dict_get (PySem.F.args_dict_get_3 _ _ _) (meetsH_dict_get_default (tkKind cx) a b lo _) ⟨hu, q, xs, ⟨t, u, m, gb⟩, D, ?_⟩
  rcases TX.at (q := q) h2 with ⟨e1, e2⟩ | ⟨z', a', t', e1, e2⟩
  · rw [e2]
    have := k tz (toks + 4)
    rw [e1] at this; exact this
  · rw [e2]
    have := k t' (toks + 4)
    rw [e1] at this; exact this
theorem TX.map {q : TKey} {z : Int} {tz : Tok} : ∀ {es : List (TKey × Int)} {xs : List (TKey × Addr × Value)}, All2 TX es xs → All2 TX (es.map fun p => if p.1 == q then (q, z) else p) (xs.map (putAt q (.int z tz)))
  | _, _, .nil => .nil
  | p :: es, x :: xs, .cons h r => by
    rw [List.map_cons, List.map_cons]
    refine .cons ?_ (TX.map r)
    obtain ⟨x1, xa, xv⟩ := x
    obtain ⟨e1, tz', e2⟩ := h
    dsimp only at e1 e2
    subst e1 e2
    unfold putAt
    by_cases hq : p.1 = q
    · rw [if_pos hq, if_pos (by simpa using hq)]; exact ⟨hq, tz, rfl⟩
    · rw [if_neg hq, if_neg (by simpa using hq)]; exact ⟨rfl, tz', rfl⟩
theorem putT_nodup {es : List (TKey × Int)} {q : TKey} {z : Int} (nd : (es.map (·.1)).Nodup) : ((putT es q z).map (·.1)).Nodup := by
  unfold putT
  split
  · have : (es.map fun p => if p.1 == q then (q, z) else p).map (·.1) = es.map (·.1) := by
      rw [List.map_map]
      refine List.map_congr_left fun p _ => ?_
      dsimp only [Function.comp]
      split
      · rename_i h; exact (beq_iff_eq.mp h).symm
      · rfl
    rw [this]; exact nd
  · rename_i h
    rw [List.map_append, List.nodup_append]
    refine ⟨nd, by simp, fun a ha b hb e => ?_⟩
    simp only [List.map_cons, List.map_nil, List.mem_singleton] at hb
    subst hb e
    obtain ⟨p, hp, rfl⟩ := List.mem_map.mp ha
    have : ∀ {l : List (TKey × Int)}, p ∈ l → (l.lookup p.1).isSome = true := by
      intro l
      induction l with
      | nil => intro h; cases h
      | cons x r ih =>
        intro h
        obtain ⟨x1, x2⟩ := x
        rw [List.lookup_cons]
        split
        · rfl
        · rename_i hx
          rcases List.mem_cons.mp h with rfl | h
          · simp at hx
          · exact ih h
    exact h (this hp)
theorem tset : TSet cx := by
  intro s a b es l n m q t u z tz A dd Q Ex R g y nd gb lo hL k
  obtain ⟨xs, D, h2⟩ := tdict_is (cx := cx) g y nd
  have hu : (tkKind cx).room A.in1 := by have := R.uni; show A.units + 1 < cLine; unfold cLine; omega
  rw [LIM_small] at hL
  refine wpAny_setItem_heap hu (k := q) ⟨t, u, m, gb⟩ D (fun h' D' hs => ?_) (by rw [← h2.length]; have : sizeLine = 16777216 := rfl; omega)
  obtain ⟨o, es', ep, ho, ⟨c1, c2, c3⟩, hd, he, hk, hn⟩ := D'
  have hT : All2 TX (putT es q z) (storedH xs q b (.int z tz)) := by
    unfold putT
    rcases TX.at (q := q) h2 with ⟨e1, e2⟩ | ⟨z', a', t', e1, e2⟩
    · rw [storedH_new e2, e1, if_neg (by simp)]
      exact h2.append (.cons ⟨rfl, tz, rfl⟩ .nil)
    · rw [storedH_old e2, e1, if_pos (by simp)]
      exact TX.map h2
  refine k h' es'.toList ep _ hs ?_ ?_ (putT_nodup nd)
  · rw [ho]
    obtain ⟨c, dd, da, sl⟩ := o
    dsimp only at c1 c2 c3 hd
    subst c1 c2 c3 hd
    rfl
  · rw [he]
    exact xs_tents hT hk
end
end Mine
end

/-! Sound23 -/
section
open PySem PySem.W PySem.Calls PyProof.Rows
set_option linter.unusedVariables false
namespace Mine
section
variable {cx : Cx} {cf : CallF} {d : Nat} {P : Kept} {f : Frm} {ℓ : Loc} {ρ : Rho} {σ : St} {s s' : Shared}
theorem FInv.storeG (I : FInv cx P f ℓ ρ σ s) {x : String} {v : V} {w : Value} (ho : OwnAt f x) (q : VR ρ v w) {A Q Ex} (k : ∀ s', s'.gens = s.gens → FInv cx P f (ℓ.set x v) ρ σ s' → Q () s') :
    wpAny (Md cx) A (storeName f.env (Str.ofString x) w) Q Ex s := by
  obtain ⟨m, hn, hm⟩ := I.names
  rcases ho with hk | ⟨hk, c, hc, hco⟩
  · refine wpAny_storeName_local hk hn (fun h' hn' hs => k _ rfl ?_) I.hp
    have kc : ∀ c w, (c ∈ f.oc ∨ ∃ o, P c o) → s.heap.IsCell c w → h'.IsCell c w := fun c w q ⟨o, e, g⟩ =>
      ⟨o, (hs.2 c fun z => q.elim (fun q => (I.cp c q).2.2.2.1 z) fun ⟨o, q⟩ => I.lp.1 o (z ▸ q)).trans e, g⟩
    refine ⟨I.st.grow (s' := { s with heap := h', toks := s.toks + 1 }) I.apartL (fun b o hx e => (hs.2 b hx).trans e) I.st.bare rfl, I.kind, I.glo, I.bui, I.above, ⟨_, hn', fun y u e => ?_⟩, I.lp,
      fun c hc => let ⟨a, b, d, e, v, g⟩ := I.cp c hc; ⟨a, b, d, e, v, kc c v (.inl hc) g⟩, I.cinj⟩
    by_cases hxy : y = x
    · subst hxy
      rw [Loc.set_same] at e; cases e
      unfold NameIs; rw [hk]; exact ⟨w, by simp, q⟩
    · rw [Loc.set_ne _ _ hxy] at e
      have := (hm y u e).go (List.prefix_refl _) kc
      have hne : Str.ofString y ≠ Str.ofString x := fun z => hxy (ofString_inj z)
      unfold NameIs at this ⊢
      split at this
      · obtain ⟨w', h1, h2⟩ := this; exact ⟨w', by dsimp only; rw [if_neg hne]; exact h1, h2⟩
      · exact this
      · exact this
      · exact this.elim
  · obtain ⟨c1, c2, c3, c4, v0, c5⟩ := I.cp c hco
    refine wpAny_storeName_cell I.kind hk hc c5 (fun h' hv' hs => k _ rfl ?_)
    have hX : Apart cx P ρ (fun b => b = c) s.heap := by rintro b rfl; exact ⟨c1, c2, c3, cell_not_tup c5⟩
    have kc : ∀ b w, b ≠ c → s.heap.IsCell b w → h'.IsCell b w := fun b w hb ⟨o, e, g⟩ => ⟨o, (hs.2 b hb).trans e, g⟩
    refine ⟨I.st.grow (s' := { s with heap := h' }) hX (fun b o hx e => (hs.2 b hx).trans e) I.st.bare rfl, I.kind, I.glo, I.bui, I.above, ⟨m, hn.sameBut hs (Ne.symm c4), fun y u e => ?_⟩, I.lp,
      fun b hb => let ⟨a, e, d, e', v, g⟩ := I.cp b hb; ⟨a, e, d, e', ?_⟩, I.cinj⟩
    · by_cases hxy : y = x
      · subst hxy
        rw [Loc.set_same] at e; cases e
        unfold NameIs; rw [hk]; exact ⟨c, w, hc, hv', q, .inl hco⟩
      · rw [Loc.set_ne _ _ hxy] at e
        have := hm y u e
        have hne : ∀ b, f.env.cells.lookup (Str.ofString y) = some b → b ≠ c := fun b hb z => hxy (ofString_inj (I.cinj.inj _ _ c (z ▸ hb) hc))
        unfold NameIs at this ⊢
        split at this
        · exact this
        · obtain ⟨b, w', h1, h2, h3, h4⟩ := this; exact ⟨b, w', h1, kc b _ (hne b h1) h2, h3, h4⟩
        · obtain ⟨b, w', h1, h2, h3, h4⟩ := this; exact ⟨b, w', h1, kc b _ (hne b h1) h2, h3, h4⟩
        · exact this.elim
    · by_cases hb' : b = c
      · subst hb'; exact ⟨_, hv'⟩
      · exact ⟨v, kc b v hb' g⟩
theorem FInv.assignNameG (I : FInv cx P f ℓ ρ σ s) {x : String} {id : Str} {pos : Pos} {v : V} {w : Value} (ok : okName id x = true) (ho : OwnAt f x) (q : VR ρ v w) {A Q Ex} (k : ∀ s', s'.gens = s.gens → FInv cx P f (ℓ.set x v) ρ σ s' → Q () s') :
    wpAny (Md cx) A (assign (.Name id pos) f.env w) Q Ex s := by
  obtain ⟨rfl, _, _⟩ := okName_eq ok
  exact wpAny_assign_Name (I.storeG ho q k)
theorem src_turnG (I : FInv cx P f ℓ ρ σ s) {b : Nat} {x : String} {tg : Expr} {i n : Nat} {L : List (Addr × Obj)} {it : Addr} (hc : chkTgt f.env.scope.names (.one x) tg = true) (ow : OwnAt f x) (hI : ItAt ρ i it (.list b) L) (S : Stand cx P f ρ s.heap L)
  (hn : (Src.list b).size σ = some n) (hi : i < n) {ℓ' : Loc} (hb : (Src.list b).bind σ ℓ (.one x) i = some ℓ') {A : Around} (hh : A.handled = none) {QN : Shared → Prop} {Q : Unit → Shared → Prop} {E : Value → Shared → Prop}
  (k : ∀ s' L' v, s'.gens = s.gens → ℓ' = ℓ.set x v → FInv cx (Hold P L') f ℓ' ρ σ s' → ItAt ρ (i + 1) it (.list b) L' → (∀ p ∈ L', ∀ o, ¬ P p.1 o) → Q () s') :
  wpAny (Md cx) A (pyNext (.ref it)) (fun r s1 => match r with
    | none => QN s1
    | some v => wpAny (Md cx) A (assign tg f.env v) Q E s1) E s := by
  obtain ⟨id, pos, rfl, ok, _⟩ := chkTgt_one hc
  obtain ⟨ad, o, e, rfl, c1, c2⟩ := hI
  obtain ⟨LI, g⟩ := S _ List.mem_cons_self
  dsimp only at LI g
  simp only [Src.bind, Option.bind_eq_bind, Option.bind_eq_some_iff] at hb
  obtain ⟨v, hv, hb⟩ := hb
  obtain ⟨vs, hσ, hvi⟩ := itemAt_some hv
  cases hb
  obtain ⟨ws, kk, gl, z, hL⟩ := I.st.listOf hσ e
  obtain ⟨w, hw, qw⟩ := z.get hvi
  have hit : s.heap.IsListIter it ad i := ⟨o, g, c1, c2⟩
  refine wpAny_pyNext_list_item hit (isListOf gl) (by rw [← Array.getElem?_toList]; exact hw) fun h' hit' hs => ?_
  have I1 : FInv cx P f ℓ ρ σ { s with heap := h' } := I.growAt LI (not_tup_of g (plain_fields c2)) (fun b o hb e => (hs.2 b hb).trans e) I.st.bare rfl
  obtain ⟨o', g', c1', c2'⟩ := hit'
  refine (I1.hold (Stand.one LI g')).assignNameG ok ow qw fun s2 hg I2 => ?_
  exact k s2 _ v hg rfl I2 ⟨ad, o', e, rfl, c1', c2'⟩ fun p hp => by rw [List.mem_singleton] at hp; subst hp; exact LI.np
end
end Mine
end

/-! Sound24 -/
section
open PySem PySem.W PySem.Calls PyProof.Rows
set_option linter.unusedVariables false
namespace Mine
section
variable {cx : Cx} {cf : CallF} {d : Nat} {P : Kept} {f : Frm} {ℓ : Loc} {ρ : Rho} {σ : St} {s s' : Shared}
theorem FInv.growTab (I : FInv cx P f ℓ ρ σ s) (k : ∀ b o, b ≠ cx.tab → s.heap.get? b = some o → s'.heap.get? b = some o) (ht : ∃ ps, s'.heap.get? cx.tab = some (tabObj ps) ∧ TriplesOk ps.toList) (hb : AllBare s'.gens) (ho : s'.os = s.os) : FInv cx P f ℓ ρ σ s' := by
  obtain ⟨m, ⟨o, es, ep, hol, hn⟩, hm⟩ := I.names
  obtain ⟨ps0, e0, _⟩ := I.st.tab
  have nP : ∀ b o, P b o → b ≠ cx.tab := fun b o h e => I.st.tabFree.1 o (e ▸ h)
  have nR : ∀ b, inRho ρ b → b ≠ cx.tab := fun b h e => I.st.tabFree.2 (e ▸ h)
  have kt : ∀ b ws n, s.heap.get? b = some (tupOf ws n) → s'.heap.get? b = some (tupOf ws n) := fun b ws n e => k b _ (fun q => by rw [q, e0] at e; cases e) e
  have kc : ∀ c w, (c ∈ f.oc ∨ ∃ o, P c o) → s.heap.IsCell c w → s'.heap.IsCell c w := fun c w q ⟨o, e, g⟩ =>
    ⟨o, k _ _ (q.elim (fun q => (I.cp c q).2.2.1) fun ⟨o, q⟩ => nP _ _ q) e, g⟩
  exact ⟨⟨fun b o h => k b o (nP b o h) (I.st.keep b o h), I.st.base, I.st.len, fun n o a d h e => (I.st.rep n o a d h e).keeps cx (fun o => k _ o (nR _ ⟨n, a, d, e, .inl rfl⟩)) (fun o => k _ o (nR _ ⟨n, a, d, e, .inr rfl⟩)) kt, I.st.inj, I.st.free, hb, ho.trans I.st.os, ht, I.st.tabFree, (let ⟨a0, d0, e0, g0⟩ := I.st.ro; ⟨a0, d0, e0, k _ _ (nR _ ⟨0, a0, d0, e0, .inl rfl⟩) g0⟩)⟩,
    I.kind, I.glo, I.bui, I.above, ⟨m, ⟨o, es, ep, k _ _ I.lp.2.2 hol, hn⟩, fun x v e => (hm x v e).go (List.prefix_refl _) kc⟩, I.lp, fun c hc => let ⟨a, b, dd, e, v, g⟩ := I.cp c hc; ⟨a, b, dd, e, v, kc c v (.inl hc) g⟩, I.cinj⟩
/-- the code object of a generator expression -/
theorem FInv.genCode (T : CxTop cx) (I : FInv cx P f ℓ ρ σ s) (hcode : f.env.code = .ref cx.tcode) {pos : Pos} {qn : Str} {sc : Scope} {A : Around} {Q : Value → Shared → Prop} {E : Value → Shared → Prop}
    (k : ∀ s' code, FInv cx P f ℓ ρ σ s' → s'.gens = s.gens → (∀ b o, b ≠ cx.tab → s.heap.get? b = some o → s'.heap.get? b = some o) → Q code s') : wpAny (Md cx) A (genexprCode f.env pos qn sc) Q E s := by
  obtain ⟨ps, et, ok⟩ := I.st.tab
  obtain ⟨o, vs, file, tf, flags, tg, inF, text, tt, ho, hcl, hd, h11, h18, h7, h9, h10, hne⟩ := T.tcd
  have ho' := I.keepBase _ _ ho
  have h11' : vs.getD 11 .none = .ref cx.tab := by rw [Array.getD_eq_getD_getElem?, h11]; rfl
  have hok : s.heap.IsCode cx.tcode cx.tab ps := ⟨o, vs, file, tf, flags, tg, inF, text, tt, _, ho', hd, h11', h18, h7, h9, h10, et, rfl, ok, hne⟩
  have htab : s.heap.TableAt cx.tcode cx.tab ps := ⟨⟨o, vs, ho', hcl, hd, h11⟩, et⟩
  cases hnf : codeAmong pos ps.toList with
  | none =>
    refine wpAny_genexprCodeX hcode hok htab hnf fun c' h' tk hx hge hlt hcode' hrec htab' hP' => ?_
    obtain ⟨_, _, _, _, _, _, _, _, _, op, _, _, _, _, _, _, _, hop, hpd, htr, _⟩ := hcode'
    obtain ⟨_, et'⟩ := htab'
    rw [et'] at hop
    cases hop
    have htr' : TriplesOk (ps ++ #[rawInt pos.line, rawInt pos.col, Value.ref c']).toList := htr
    exact k { s with heap := h', toks := tk } _ (I.growTab (fun b o hb e => hx b o hb e) ⟨_, et', htr'⟩ I.st.bare rfl) rfl (fun b o hb e => hx b o hb e)
  | some cv =>
    unfold genexprCode codeAt
    rw [hcode, if_neg (show ¬ ((Value.ref cx.tcode == Value.none) = true) from Bool.false_ne_true)]
    refine wpAny_bind (wpAny_fieldsOf ho' hd ?_)
    rw [h11']
    refine wpAny_bind (wpAny_fieldsOf et rfl ?_)
    rw [hnf]
    exact wpAny_pure (k s cv I rfl fun _ _ _ e => e)
/-- the frame of a generator expression -/
def genFrm (f : Frm) (sc : Scope) (C : Addr) (code : Value) : Frm := ⟨genEnv sc (clOf f.env sc.names []) C code builtinsNs f.env, []⟩
theorem FInv.genInner (I : FInv cx P f ℓ ρ σ s) {sc : Scope} (ok : InnerOK f.env.scope.names sc) {vis : List String} (hv : visOK sc.names vis = true) {Z : List (Addr × Obj)} (HZ : HInv cx (Hold P Z) ρ σ s) (Fz : Frozen f Z s.heap) {code : Value}
    {C : Addr} (hC : s.heap.get? C = none) (hb : cx.base.objs.size ≤ C) {m0 : Str → Option Value} (hn : s'.heap.Ns C m0) (kp : ∀ b o, s.heap.get? b = some o → s'.heap.get? b = some o) (hg : AllBare s'.gens) (ho : s'.os = s.os) :
    FInv cx (Hold P Z) (genFrm f sc C code) (ℓ.only vis) ρ σ s' := by
  have LC := HZ.loose hC
  obtain ⟨m, hN, hm⟩ := I.names
  have fr := I.frees ok
  have cl : ∀ {n c}, (clOf f.env sc.names []).lookup n = some c → f.env.cells.lookup n = some c := fun {n c} e => clOf_from (n := n) (c := c) sc.names [] fr (fun c h => by simp at h) e
  have has : ∀ n, sc.names.lookup n = some .cell ∨ sc.names.lookup n = some .free → (n, NameKind.free) ∈ sc.names := by
    rintro n (h | h)
    · exact absurd rfl (ok.nocell _ (Mine.mem_of_lookup h))
    · exact Mine.mem_of_lookup h
  refine ⟨HZ.grow (X := fun _ => False) Apart.none (fun b o _ e => kp b o e) hg ho, ok.kind, I.glo, rfl, hb, ⟨m0, hn, fun x v e => ?_⟩, LC, fun c hc => (by cases hc), ⟨fun x y c h1 h2 => I.cinj.inj x y c (cl h1) (cl h2), fun n h => ?_⟩⟩
  · unfold Loc.only at e
    split at e
    case isFalse => cases e
    rename_i hx
    unfold visOK at hv
    rw [List.all_eq_true] at hv
    have h1 := hv x (by simpa using hx)
    simp only [Bool.or_eq_true, beq_iff_eq] at h1
    have hf := has _ h1
    have hN := hm x v e
    have hc : CellIs P f ρ s.heap x v := by
      unfold NameIs at hN
      have := ok.fre _ hf rfl
      rw [kindOf_lookup] at hN
      dsimp only at this
      rcases this with h | h <;> rw [h] at hN <;> exact hN
    have hc' : CellIs (Hold P Z) (genFrm f sc C code) ρ s'.heap x v := by
      obtain ⟨c, w, e1, ⟨o, g1, g2⟩, e3, e4⟩ := hc
      refine ⟨c, w, clOf_has e1 sc.names [] hf, ⟨o, kp _ _ g1, g2⟩, e3, .inr ?_⟩
      rcases e4 with h | ⟨o', h⟩
      · obtain ⟨o', h⟩ := Fz.oc c h; exact ⟨o', .inr h⟩
      · exact ⟨o', .inl h⟩
    unfold NameIs
    rw [kindOf_lookup]
    rcases h1 with h | h
    · rw [show (genFrm f sc C code).env.scope.names.lookup (Str.ofString x) = some .cell from h]; exact hc'
    · rw [show (genFrm f sc C code).env.scope.names.lookup (Str.ofString x) = some .free from h]; exact hc'
  · have hf := has n h
    obtain ⟨c, hc⟩ := fr _ hf rfl
    exact ⟨c, clOf_has hc sc.names [] hf⟩
/-! the generator's own run -/
section
variable (cx) (P : Kept) (f : Frm) (ℓ : Loc) (ρ0 : Rho) (b a : Nat) (it : Addr) (go : Nat → Nat → St → Option St) (σf : St)
/-- between two draws -/
def GSt (i : Nat) (σ : St) (s : Shared) (L : List (Addr × Obj)) (ρ : Rho) : Prop := ρ0 <+: ρ ∧ FInv cx P f ℓ ρ σ s ∧ ItAt ρ i it (.list b) L ∧ Stand cx P f ρ s.heap L
def YP (g : Nat) : Protocol := fun m s₀ v s kap => s.gens.size = s₀.gens.size ∧ ∃ i σ1 ρ1 L u vs, GSt cx P f ℓ ρ0 b it (i + 1) σ1 s L ρ1 ∧ VR ρ1 u v ∧ σ1[a]? = some (.list vs) ∧ vs.length < LIM ∧ go m (i + 1) (σ1.set a (.list (vs ++ [u]))) = some σf ∧
  ∀ s'', GSt cx P f ℓ ρ0 b it (i + 1) (σ1.set a (.list (vs ++ [u]))) s'' L ρ1 → kap (.send .none) s''
def RP (s₀ s : Shared) : Prop := s.gens.size = s₀.gens.size ∧ ∃ ρ1, ρ0 <+: ρ1 ∧ FInv cx P f ℓ ρ1 σf s
end
/-- an element that only reads two names -/
theorem pair_wp (I : FInv cx P f ℓ ρ σ s) {x1 x2 : String} {pe : Expr} (hc : chkE f.env.scope.names (.tuple (.cons (.var x1) (.cons (.var x2) .nil))) pe = true) {v : V} {σ' : St} (he : evalE cf (.tuple (.cons (.var x1) (.cons (.var x2) .nil))) ℓ σ = some (v, σ'))
    {A : Around} {Q : Value → Shared → Prop} {E : Value → Shared → Prop} (k : ∀ s' ρ' w, s'.gens = s.gens → FInv cx P f ℓ ρ' σ' s' → ρ <+: ρ' → VR ρ' v w → Q w s') : wpAny (Md cx) A (eval pe f.env) Q E s := by
  unfold chkE at hc
  split at hc
  case h_2 => cases hc
  simp only [Bool.and_eq_true, decide_eq_true_eq] at hc
  obtain ⟨hc, _⟩ := hc
  obtain ⟨_, h⟩ | ⟨e1, es1, p1, ps1, h, rfl, c1, hc⟩ := chkL_nil hc
  · cases h
  cases h
  obtain ⟨_, h⟩ | ⟨e2, es2, p2, ps2, h, rfl, c2, hc⟩ := chkL_nil hc
  · cases h
  cases h
  obtain ⟨rfl, h⟩ | ⟨e3, es3, p3, ps3, h, rfl, c3, hc⟩ := chkL_nil hc
  case inr => cases h
  simp only [evalE, evalL] at he
  cases hv1 : ℓ x1 with
  | none => rw [hv1] at he; simp at he
  | some v1 =>
    cases hv2 : ℓ x2 with
    | none => rw [hv1, hv2] at he; simp at he
    | some v2 =>
      rw [hv1, hv2] at he
      simp only [Option.bind_eq_bind, Option.bind_some, Option.some.injEq, Prod.mk.injEq] at he
      obtain ⟨rfl, rfl⟩ := he
      have hn1 : ∃ id pos, p1 = .Name id pos ∧ okName id x1 = true := by
        unfold chkE at c1; split at c1
        · simp only [Bool.and_eq_true] at c1; exact ⟨_, _, rfl, c1.1⟩
        · cases c1
      have hn2 : ∃ id pos, p2 = .Name id pos ∧ okName id x2 = true := by
        unfold chkE at c2; split at c2
        · simp only [Bool.and_eq_true] at c2; exact ⟨_, _, rfl, c2.1⟩
        · cases c2
      obtain ⟨i1, pos1, rfl, ok1⟩ := hn1
      obtain ⟨i2, pos2, rfl, ok2⟩ := hn2
      refine wpAny_Tuple (wpAny_items_cons (wpAny_Name (I.load hv1 ok1 fun w1 q1 => wpAny_items_cons (wpAny_Name (I.load hv2 ok2 fun w2 q2 => wpAny_items_nil ?_) (okName_eq ok2).2.1) rfl) (okName_eq ok1).2.1) rfl)
      refine ⟨by simp [LIM_small, sizeLine], ?_⟩
      exact k _ _ _ rfl (I.push rfl fun ρ' h' r e => ⟨rfl, by simp [LIM_small], #[w1, w2], 0, e, .cons (q1.mono r) (.cons (q2.mono r) .nil)⟩) (List.prefix_append _ _) (new_ref I.st.len)
end
end Mine
end

/-! Sound25 -/
section
open PySem PySem.W PySem.Calls PyProof.Rows
set_option linter.unusedVariables false
namespace Mine
section
variable {cx : Cx} {cf : CallF} {d : Nat} {P : Kept} {f : Frm} {ℓ : Loc} {ρ : Rho} {σ : St} {s s' : Shared}
abbrev pairE (x1 x2 : String) : E := .tuple (.cons (.var x1) (.cons (.var x2) .nil))
abbrev goOf (cf : CallF) (b : Nat) (x : String) (ℓ : Loc) (n a : Nat) (elt : E) : Nat → Nat → St → Option St := fun m i σ => extGo (.list b) (.one x) ℓ n a (fun ℓ σ => evalE cf elt ℓ σ) m i σ
theorem seg_loop {A : Around} (hh : A.handled = none) {x x1 x2 : String} {tg pe iter : Expr} {sc : Scope} {pos : Pos} (hb : ∀ b o, cx.base.get? b = some o → P b o) (ht : chkTgt f.env.scope.names (.one x) tg = true) (ow : OwnAt f x)
    (hce : chkE f.env.scope.names (pairE x1 x2) pe = true) (hx : ℓ x = none) (hco : f.env.scope.isCoroutine = false) {b n a g : Nat} {it : Addr} {ρ0 : Rho} {σf : St} :
    ∀ (r i : Nat) (σ : St) (s₀ s : Shared) (L : List (Addr × Obj)) (ρ1 : Rho), i + r = n → goOf cf b x ℓ n a (pairE x1 x2) r i σ = some σf → GSt cx P f ℓ ρ0 b it i σ s L ρ1 → s.gens.size = s₀.gens.size →
      Seg (Md cx) A (fun n s₀ r s₁ => r = .ok .next ∧ RP cx P f ℓ ρ0 σf s₀ s₁) (YP cx P f ℓ ρ0 b a it (goOf cf b x ℓ n a (pairE x1 x2)) σf g) r s₀
        (.compLoop (.GeneratorExp pe [⟨tg, iter, [], 0⟩] sc pos) 0 (.ref it) .none f.env) ((Md cx).den (.compLoop (.GeneratorExp pe [⟨tg, iter, [], 0⟩] sc pos) 0 (.ref it) .none f.env)) [] s := by
  have hlet : ∀ v, letOwnedTupleGo tg (.ref it) v = pure () := by
    obtain ⟨id, pos, rfl, _⟩ := chkTgt_one ht
    intro v; rfl
  have hh' : (A.over (.compLoop (.GeneratorExp pe [⟨tg, iter, [], 0⟩] sc pos) 0 (.ref it) .none f.env) []).handled = none := hh
  intro r
  induction r with
  | zero =>
    intro i σ s₀ s L ρ1 hir hgo ⟨r1, I, hI, S⟩ hgs
    unfold goOf extGo at hgo
    split at hgo <;> cases hgo
    rename_i hn
    have : i = n := by omega
    subst this
    show Seg _ A _ _ _ s₀ _ ((compTurn (.GeneratorExp pe [⟨tg, iter, [], 0⟩] sc pos) 0 (.ref it) .none f.env).onRaise (leaving f.env)) [] s
    rw [compTurn_gen, Sem.onRaise_eq_wrap]
    refine seg_bind_wrap (wpAny_standAt ?_)
    obtain ⟨ad, o, e, rfl, c1, c2⟩ := hI
    obtain ⟨LI, g1⟩ := S _ List.mem_cons_self
    dsimp only at LI g1
    obtain ⟨vs, hσ, hl⟩ := lenAt_some hn
    obtain ⟨ws, kk, gl, z, hL⟩ := I.st.listOf hσ e
    have hsz : ws.size = i := by rw [← hl, z.length]; simp
    refine seg_bind_wrap (wpAny_pyNext_list_end hh ⟨o, g1, c1, c2⟩ (isListOf gl) (by simp [hsz]) fun h' hx' => ?_)
    refine seg_end (.ok .next) ⟨rfl, hgs, ρ1, r1, ?_⟩
    exact I.growAt (s' := { s with heap := h' }) LI (not_tup_of g1 (plain_fields c2)) (fun b o hb e => hx' b o hb e) I.st.bare rfl
  | succ r ih =>
    intro i σ s₀ s L ρ1 hir hgo ⟨r1, I, hI, S⟩ hgs
    unfold goOf extGo at hgo
    split at hgo
    case isFalse => cases hgo
    rename_i hn
    simp only [Option.bind_eq_bind, Option.bind_eq_some_iff] at hgo
    obtain ⟨ℓ', hb', ⟨u, σ1⟩, hev, ⟨a', vs⟩, hl, hgo⟩ := hgo
    dsimp only at hl hgo
    split at hgo
    case isFalse => cases hgo
    rename_i hlt
    obtain ⟨ha', hσ1⟩ := getList_some hl
    cases ha'
    show Seg _ A _ _ _ s₀ _ ((compTurn (.GeneratorExp pe [⟨tg, iter, [], 0⟩] sc pos) 0 (.ref it) .none f.env).onRaise (leaving f.env)) [] s
    rw [compTurn_gen, Sem.onRaise_eq_wrap]
    refine seg_bind_wrap (wpAny_standAt ?_)
    refine seg_bind_wrap (wpAny_mono (src_turnG I ht ow hI S hn (by omega) hb' hh' (QN := fun _ => False) (Q := fun _ s2 => ∃ L' v, s2.gens = s.gens ∧ ℓ' = ℓ.set x v ∧ FInv cx (Hold P L') f ℓ' ρ1 σ s2 ∧ ItAt ρ1 (i + 1) it (.list b) L' ∧ ∀ p ∈ L', ∀ o, ¬ P p.1 o)
      fun s2 L' v hg hℓ I2 hI2 np2 => ⟨L', v, hg, hℓ, I2, hI2, np2⟩) (fun rr s1 h1 => ?_) fun _ _ e => e)
    cases rr with
    | none => exact h1.elim
    | some v =>
      dsimp only at h1 ⊢
      refine seg_bind_wrap (wpAny_of_eq (hlet v) ?_)
      refine seg_bind_wrap (wpAny_mono h1 (fun _ s2 hq => ?_) fun _ _ e => e)
      obtain ⟨L', v', hg, hℓ, I2, hI2, np2⟩ := hq
      refine seg_bind_wrap (wpAny_tests_nil ?_)
      simp only [if_true]
      have hy : ∀ v, yieldOut f.env v = yieldValue v := fun v => by simp only [yieldOut, hco, Bool.false_eq_true, if_false]
      simp only [hy]
      rw [Sem.bind_eq_wrap', Sem.bind_eq_wrap', Sem.wrap_wrap, Sem.wrap_wrap]
      refine seg_wrap (wpAny_mono (pair_wp I2 hce hev (Q := fun w s4 => ∃ ρ', s4.gens = s2.gens ∧ FInv cx (Hold P L') f ℓ' ρ' σ1 s4 ∧ ρ1 <+: ρ' ∧ VR ρ' u w) fun s4 ρ' w hg4 I4 r4 q4 => ⟨ρ', hg4, I4, r4, q4⟩) (fun y s4 h4 => ?_) fun _ _ e => e)
      obtain ⟨ρ', hg4, I4, r4, q4⟩ := h4
      obtain ⟨I5, S5⟩ := I4.unhold hb np2 hI2.plain
      have I6 : FInv cx P f ℓ ρ' σ1 s4 := I5.weak fun y u e => by
        rw [hℓ]
        by_cases hy : y = x
        · subst hy; rw [hx] at e; cases e
        · rw [Loc.set_ne _ _ hy]; exact e
      refine seg_at (seg_yield rfl rfl rfl ⟨by rw [hg4, hg]; exact hgs, i, σ1, ρ', L', u, vs, ⟨r1.trans r4, I6, hI2.mono r4, S5⟩, q4, hσ1, hlt, hgo, fun s'' G => ?_⟩)
      exact seg_again rfl (ih (i + 1) _ s'' s'' L' ρ' (by omega) hgo G rfl)
theorem seg_start {A : Around} (hh : A.handled = none) {x x1 x2 : String} {tg pe iter : Expr} {sc : Scope} {pos : Pos} (hb : ∀ b o, cx.base.get? b = some o → P b o) (ht : chkTgt f.env.scope.names (.one x) tg = true) (ow : OwnAt f x)
    (hce : chkE f.env.scope.names (pairE x1 x2) pe = true) (hx : ℓ x = none) (hco : f.env.scope.isCoroutine = false) {b n a g : Nat} {it : Addr} {ρ0 : Rho} {σf σ : St} {s : Shared} {L : List (Addr × Obj)} {ρ1 : Rho}
    (hgo : goOf cf b x ℓ n a (pairE x1 x2) n 0 σ = some σf) (G : GSt cx P f ℓ ρ0 b it 0 σ s L ρ1) :
    Seg (Md cx) A (fun n s₀ r s₁ => r = .ok .next ∧ RP cx P f ℓ ρ0 σf s₀ s₁) (YP cx P f ℓ ρ0 b a it (goOf cf b x ℓ n a (pairE x1 x2)) σf g) n s
      (.compStart (.GeneratorExp pe [⟨tg, iter, [], 0⟩] sc pos) 0 (.ref it) .none f.env) ((Md cx).den (.compStart (.GeneratorExp pe [⟨tg, iter, [], 0⟩] sc pos) 0 (.ref it) .none f.env)) [] s := by
  have loop := seg_loop (cf := cf) (g := g) (iter := iter) (sc := sc) (pos := pos) hh hb ht ow hce hx hco n 0 σ s s L ρ1 (by omega) hgo G rfl
  show Seg _ A _ _ _ s _ ((compStart (.GeneratorExp pe [⟨tg, iter, [], 0⟩] sc pos) 0 (.ref it) .none f.env).onRaise (leaving f.env)) [] s
  unfold compStart
  rw [Sem.onRaise_eq_wrap]
  show Seg _ A _ _ _ s _ ((ask >>= _).wrap _ _ _ _) [] s
  refine seg_bind_wrap (wpAny_askSetting ?_)
  split
  · exact seg_again rfl loop
  · first
      | exact seg_bind_wrap (wpAny_rule (seg_bind_wrap (wpAny_standAt (seg_bind_wrap (G.2.2.1.self (fun p hp => (G.2.2.2 p hp).2) (seg_again rfl loop))))))
      | (refine seg_bind_wrap (wpAny_rule ?_); show Seg _ A _ _ _ s _ ((standAt iter.pos >>= _).wrap _ _ _ _) [] s; exact seg_bind_wrap (wpAny_standAt (seg_bind_wrap (G.2.2.1.self (fun p hp => (G.2.2.2 p hp).2) (seg_again rfl loop)))))
end
end Mine
end

/-! Sound26 -/
section
open PySem PySem.W PySem.Calls PyProof.Rows
set_option linter.unusedVariables false
namespace Mine
section
variable {cx : Cx} {cf : CallF} {d : Nat} {P : Kept} {f : Frm} {ℓ : Loc} {ρ : Rho} {σ : St} {s s' : Shared}
theorem bare_set {gens : Array GenState} (h : AllBare gens) {g : Nat} {x : GenState} (hx : x.bare = true) : AllBare (gens.setIfInBounds g x) := by
  intro y hy
  rw [Array.mem_iff_getElem?] at hy
  obtain ⟨j, hj⟩ := hy
  rw [Array.getElem?_setIfInBounds] at hj
  split at hj
  · split at hj
    · cases hj; exact hx
    · cases hj
  · exact h y (Array.mem_iff_getElem?.mpr ⟨j, hj⟩)
theorem GSt.setGen {ρ0 : Rho} {b it : Nat} {i : Nat} {σ : St} {L : List (Addr × Obj)} {ρ1 : Rho} (G : GSt cx P f ℓ ρ0 b it i σ s L ρ1) (g : Nat) {x : GenState} (hx : x.bare = true) : GSt cx P f ℓ ρ0 b it i σ (s.setGen g x) L ρ1 :=
  ⟨G.1, G.2.1.grow' (s' := s.setGen g x) (fun _ _ e => e) (bare_set G.2.1.st.bare hx) rfl, G.2.2.1, G.2.2.2⟩
theorem GSt.push {ρ0 : Rho} {b it a : Nat} {i : Nat} {σ : St} {L : List (Addr × Obj)} {ρ1 : Rho} (G : GSt cx P f ℓ ρ0 b it i σ s L ρ1) {S : Addr} (hn0 : a ≠ 0) (hS : ρ0[a]? = some (S, S)) {vs : List V} (hσ : σ[a]? = some (.list vs)) (hlt : vs.length < LIM) {u : V} {v : Value} (q : VR ρ1 u v) :
    ∃ xs k1, s.heap.get? S = some (W.listOf xs k1) ∧ xs.size = vs.length ∧ GSt cx P f ℓ ρ0 b it i (σ.set a (.list (vs ++ [u]))) { s with heap := s.heap.update S (Obj.mapSeq (·.push v)) } L ρ1 := by
  obtain ⟨r, I, hI, St⟩ := G
  have e : ρ1[a]? = some (S, S) := by
    obtain ⟨t, rfl⟩ := r
    rw [List.getElem?_append_left (List.getElem?_eq_some_iff.mp hS).1]; exact hS
  obtain ⟨xs, k1, g, z, hL⟩ := I.st.listOf hσ e
  have hsz : xs.size = vs.length := by rw [z.length]; simp
  have g' := PySem.IsL.update (h := s.heap) (l := S) (items := xs) (n := k1) g (fun xs => xs.push v)
  refine ⟨xs, k1, g, hsz, r, ?_, hI, fun p hp => ?_⟩
  · refine I.setList hn0 hσ e g (Heap.SameBut.update _ _ _) g' ?_ (by simp; omega) s.toks
    simpa using z.append (.cons q .nil)
  · obtain ⟨LL, gg⟩ := St p hp
    have hne : p.1 ≠ S := fun e' => LL.nr ⟨a, S, S, e, .inl e'⟩
    exact ⟨LL, (Heap.get?_update_other _ _ (Ne.symm hne)).trans gg⟩
theorem ext_loop {A : Around} (hh : A.handled = none) (hroom : A.depth < recursionLimit) (T : CxTop cx) {x x1 x2 : String} {b n a g it : Nat} {ρ0 : Rho} {σf : St} {ga : Addr} {gobj : Obj} (hPg : P ga gobj) (hgen : ∀ h : Heap, h.get? ga = some gobj → h.IsGen ga g)
    {S : Addr} (hn0 : a ≠ 0) (hS : ρ0[a]? = some (S, S)) {Rs : Result → Shared → Prop} (k : ∀ s' ρ1, ρ0 <+: ρ1 → FInv cx P f ℓ ρ1 σf s' → Rs (.ok (.ret .none)) s') :
    ∀ (r i : Nat) (σ : St) (s : Shared) (ρ1 : Rho) (L : List (Addr × Obj)) (gs : GenState), GSt cx P f ℓ ρ0 b it i σ s L ρ1 → s.gens[g]? = some gs → goOf cf b x ℓ n a (pairE x1 x2) r i σ = some σf →
      (∀ s'', GSt cx P f ℓ ρ0 b it i σ s'' L ρ1 → gs.Goes (Md cx) A.in1.in1 (fun n s₀ r s₁ => r = .ok .next ∧ RP cx P f ℓ ρ0 σf s₀ s₁) (YP cx P f ℓ ρ0 b a it (goOf cf b x ℓ n a (pairE x1 x2)) σf g) r (.send .none) s'') →
      codeAny (Md cx) A (.builtin "list.extend.loop" ⟨[.ref S, .ref ga, .none], []⟩) Rs s := by
  intro r
  induction r with
  | zero =>
    intro i σ s ρ1 L gs G hgs hgo hG
    have kb := G.2.1.keepBase
    refine codeAny_builtin F.entry_extend_loop ?_
    rw [Around.under_plainId F.plain_extend_loop _]
    show wpAny _ A.in1 (pyNext (.ref ga) >>= _) _ _ s
    refine wpAny_bind (wpAny_pyNext_genexpQ (P := fun _ s₀ s₁ => RP cx P f ℓ ρ0 σf s₀ s₁) hh (T.lim.keeps kb) hroom (hgen _ (G.2.1.st.keep _ _ hPg)) hgs (hG _ (G.setGen g rfl)) (fun v s₁ gs' hbare hy => ?_) (fun s₁ hp h' hk => ?_))
    · obtain ⟨hsz, i1, σ1, ρ2, L1, u, vs, G1, q1, hσ1, hlt, hgo1, hk⟩ := hy
      obtain ⟨xs, k1, gS, hxs, G2⟩ := G1.push hn0 hS hσ1 hlt q1
      exact (hk _ G2).elim
    · obtain ⟨hsz, ρ2, r2, I2⟩ := hp
      exact wpAny_pure (k _ ρ2 r2 (I2.grow' hk (bare_set I2.st.bare rfl) rfl))
  | succ r ih =>
    intro i σ s ρ1 L gs G hgs hgo hG
    have kb := G.2.1.keepBase
    refine codeAny_builtin F.entry_extend_loop ?_
    rw [Around.under_plainId F.plain_extend_loop _]
    show wpAny _ A.in1 (pyNext (.ref ga) >>= _) _ _ s
    refine wpAny_bind (wpAny_pyNext_genexpQ (P := fun _ s₀ s₁ => RP cx P f ℓ ρ0 σf s₀ s₁) hh (T.lim.keeps kb) hroom (hgen _ (G.2.1.st.keep _ _ hPg)) hgs (hG _ (G.setGen g rfl)) (fun v s₁ gs' hbare hy => ?_) (fun s₁ hp h' hk => ?_))
    · obtain ⟨hsz, i1, σ1, ρ2, L1, u, vs, G1, q1, hσ1, hlt, hgo1, hk⟩ := hy
      have G1' := G1.setGen g hbare
      obtain ⟨xs, k1, gS, hxs, G2⟩ := G1'.push hn0 hS hσ1 hlt q1
      have hlt' := hlt
      rw [LIM_small] at hlt'
      have hg1 : g < s₁.gens.size := by
        rw [hsz]
        have : g < s.gens.size := (Array.getElem?_eq_some_iff.mp hgs).1
        simpa [Shared.setGen] using this
      show wpAny _ A.in1 (updateSeq S (·.push v) >>= _) _ _ _
      refine wpAny_bind ?_
      refine wpAny_updateSeq gS rfl (wpAny_pure ⟨plainId_quiet F.plain_extend_loop _, ih (i1 + 1) _ _ ρ2 L1 gs' G2 ?_ hgo1 fun s'' G3 => hk s'' G3⟩) ?_ ?_
      · show (s₁.gens.setIfInBounds g gs')[g]? = some gs'
        rw [Array.getElem?_setIfInBounds]; simp [hg1]
      · have : sizeLine = 16777216 := rfl
        omega
      · have : sizeLine = 16777216 := rfl
        rw [Array.size_push]
        omega
    · obtain ⟨hsz, ρ2, r2, I2⟩ := hp
      exact wpAny_pure (k _ ρ2 r2 (I2.grow' hk (bare_set I2.st.bare rfl) rfl))
end
end Mine
end

/-! Sound27 -/
section
open PySem PySem.W PySem.Calls PyProof.Rows
set_option linter.unusedVariables false
namespace Mine
section
variable {cx : Cx} {cf : CallF} {d : Nat} {P : Kept} {f : Frm} {ℓ : Loc} {ρ : Rho} {σ : St} {s s' : Shared}
theorem isPair_eq {e : E} (h : isPair e = true) : ∃ x1 x2, e = pairE x1 x2 := by
  unfold isPair at h
  split at h
  · exact ⟨_, _, rfl⟩
  · cases h
theorem noFold_pure {i : Expr} (h : noFold i = true) (env : Env) (x : Value) : genFold i env x = pure x := by
  cases i <;> first | rfl | cases h
/-- the run of list.extend over the generator -/
theorem extend_run {A : Around} (hh : A.handled = none) (hroom : A.depth < recursionLimit) (T : CxTop cx) {x x1 x2 : String} {b n a g it : Nat} {ρ0 : Rho} {σf : St} {ga : Addr} {gobj : Obj} (hPg : P ga gobj) (hgen : ∀ h : Heap, h.get? ga = some gobj → h.IsGen ga g)
    {S : Addr} (hn0 : a ≠ 0) (hS : ρ0[a]? = some (S, S)) (hne : S ≠ ga) {vs0 : List V} {σ : St} (hσ : σ[a]? = some (.list vs0)) {L : List (Addr × Obj)} {gs : GenState} (G : GSt cx P f ℓ ρ0 b it 0 σ s L ρ0) (hgs : s.gens[g]? = some gs)
    (hgo : goOf cf b x ℓ n a (pairE x1 x2) n 0 σ = some σf)
    (hG : ∀ s'', GSt cx P f ℓ ρ0 b it 0 σ s'' L ρ0 → gs.Goes (Md cx) A.in1.in1 (fun n s₀ r s₁ => r = .ok .next ∧ RP cx P f ℓ ρ0 σf s₀ s₁) (YP cx P f ℓ ρ0 b a it (goOf cf b x ℓ n a (pairE x1 x2)) σf g) n (.send .none) s'')
    {Q : Value → Shared → Prop} {Ex : Value → Shared → Prop} (k : ∀ s' ρ1, ρ0 <+: ρ1 → FInv cx P f ℓ ρ1 σf s' → Q .none s') : wpAny (Md cx) A (call (.builtin "list.extend") [.ref S, .ref ga]) Q Ex s := by
  obtain ⟨_, I, hI, St⟩ := G
  obtain ⟨xs, k1, gS, z, hL⟩ := I.st.listOf hσ hS
  have hT : s.TypeIs (.ref S) "list" := ⟨_, gS, rfl⟩
  have hgenh := hgen _ (I.st.keep _ _ hPg)
  have hTg := hgenh.typeIs
  have hsz : xs.size = vs0.length := by rw [z.length]; simp
  rw [LIM_small] at hL
  refine wpAny_call (codeAny_call_builtin F.slot_list_extend.plain F.entry_list_extend (F.slot_list_extend.check _ _ _ _ _ _ _ _ hT (F.args_list_extend_2 _ _) ?_))
  show wpAny _ A.in1 (Builtin.List.listExtendWith (.ref S) (.ref ga) .none) _ _ s
  unfold Builtin.List.listExtendWith
  refine wpAny_bind (wpAny_typeOf hTg ?_)
  have h1 : Builtin.List.listSameRef (.ref S) (.ref ga) = false := by simp [Builtin.List.listSameRef, hne]
  have h2 : (Value.type "generator" == Value.type "list") = false := by decide
  have h3 : (Value.type "generator" == Value.type "tuple") = false := by decide
  simp only [h1, h2, h3, Bool.or_false, Bool.false_eq_true, if_false]
  refine wpAny_bind (wpAny_pyIter_gen hgenh ?_)
  refine wpAny_bind (wpAny_holding ?_)
  unfold Builtin.List.listLengthHint
  refine wpAny_bind (wpAny_specialOf hTg F.gen_no_len ?_)
  show wpAny _ A.in1 (specialOf (Value.ref ga) (Str.ofString "__length_hint__") >>= _) _ _ _
  refine wpAny_bind (wpAny_specialOf hTg F.gen_no_hint ?_)
  refine wpAny_pure ?_
  show wpAny _ A.in1 (rule "list.extend.makes-room" >>= fun _ => Builtin.List.listTouch (.ref S) >>= fun _ =>
    again (.builtin "list.extend.loop" ⟨[.ref S, .ref ga, .none], []⟩)) _ _ _
  refine wpAny_bind (wpAny_rule ?_)
  refine wpAny_bind ?_
  show wpAny _ A.in1 (updateSeq S (·.push .none) >>= fun _ => updateSeq S (·.pop)) _ _ _
  have hbig : sizeLine = 16777216 := rfl
  refine wpAny_bind (wpAny_updateSeq gS rfl ?_ (by omega) (by rw [Array.size_push]; omega))
  have u1 := PySem.IsL.update (h := s.heap) (l := S) (items := xs) (n := k1) gS (fun xs => xs.push Value.none)
  refine wpAny_updateSeq u1 rfl ?_ (by rw [Array.size_push]; omega) (by simp; omega)
  have u2 := PySem.IsL.update (l := S) u1 (fun xs => xs.pop)
  have hpp : (xs.push Value.none).pop = xs := by simp
  rw [hpp] at u2
  have I2 := I.setList hn0 hσ hS gS ((Heap.SameBut.update _ _ _).trans (Heap.SameBut.update _ _ _)) u2 z (by rw [LIM_small]; exact hL) s.toks
  have hset : σ.set a (.list vs0) = σ := by
    apply List.ext_getElem?
    intro j
    by_cases hj : a = j
    · subst hj; rw [List.getElem?_set_self (List.getElem?_eq_some_iff.mp hσ).1, hσ]
    · rw [List.getElem?_set_ne hj]
  rw [hset] at I2
  refine wpAny_pure ⟨plainId_quiet F.plain_extend_loop _, ?_⟩
  refine ext_loop hh hroom T hPg hgen hn0 hS (fun s' ρ1 r1 I' => k s' ρ1 r1 I') n 0 σ _ ρ0 L gs ⟨List.prefix_refl _, I2, hI, fun p hp => ?_⟩ hgs hgo hG
  obtain ⟨LL, gg⟩ := St p hp
  have hne' : p.1 ≠ S := fun e' => LL.nr ⟨a, S, S, hS, .inl e'⟩
  exact ⟨LL, (Heap.get?_update_other _ _ (Ne.symm hne')).trans ((Heap.get?_update_other _ _ (Ne.symm hne')).trans gg)⟩
theorem sext (T : CxTop cx) : SExt cx cf d := by
  intro vis e elt it t h1 helt hit pe f hc O P ℓ ρ σ s A fl ℓ' σ' he I RS Q Ex k
  have R := RS.toRoom
  unfold chkS at hc
  split at hc
  case h_2 => cases hc
  rename_i p id ap q tg i sc gp cp epos
  simp only [Bool.and_eq_true, beq_iff_eq, decide_eq_true_eq] at hc
  obtain ⟨⟨⟨⟨⟨⟨⟨⟨⟨⟨⟨⟨⟨⟨⟨hvis, hone⟩, hp⟩, hc1⟩, rfl⟩, hn⟩, hc2⟩, hsc⟩, hc3⟩, hc4⟩, hloc⟩, h0⟩, hmax⟩, hpair⟩, hfold⟩, hco⟩ := hc
  obtain ⟨x1, x2, rfl⟩ := isPair_eq hpair
  have ok := inner_ok hsc
  cases t with
  | many xs => cases hone
  | one x =>
    have hx1 : sc.names.lookup (Str.ofString x) = some .local := by simpa [tgtLocal] using hloc
    simp only [execS, Option.bind_eq_bind, Option.bind_eq_some_iff] at he
    obtain ⟨⟨v, σ1⟩, he1, ⟨a, vs1⟩, hl1, ⟨u, σ2⟩, he2, b, hb, na, hla, he⟩ := he
    dsimp only at hl1 he2 hb hla he
    split at he
    case isTrue => cases he
    rename_i hab
    simp only [Option.bind_eq_some_iff, Option.some.injEq, Prod.mk.injEq] at he
    obtain ⟨n, hlen, σ3, hgo, rfl, rfl, rfl⟩ := he
    obtain ⟨rfl, hσ1⟩ := getList_some hl1
    rw [asRef_some hb] at he2
    obtain ⟨vs, hσ2, hvl⟩ := lenAt_some hlen
    obtain ⟨vs0, hσa, _⟩ := lenAt_some hla
    have hcode := O.code hmax
    have hdep := RS.dep2
    have closed := closureFor_clOf (I.frees ok)
    refine wpAny_Expr_any ?_ (not_interactive I) rfl
    refine MethodCall_ (h1 _ f hc1 he1 I R fun s1 ρ1 w1 I1 r1 q1 => ?_) (arm_method hn (beq_iff_eq.mpr hp) rfl (by simp))
    refine list_method I1.st hσ1 q1 F.slot_list_extend F.type_list_extend (PySem.Calls.callWith_builtin rfl (evalArgs_plain (wpAny_items_cons (wpAny_GeneratorExp_make hco closed ok.nocell h0 ok.kind (by show A.depth < 1000; omega) (hit _ f hc2 he2 I1 R fun s2 ρ2 w2 I2 r2 q2 => ?_) (noFold_pure hfold f.env)) rfl)))
    obtain ⟨bd, ys, kb, rfl, eb, gb, zb, hLb⟩ := I2.st.listAt hσ2 q2
    refine wpAny_pyIter_list (isListOf gb) ⟨(T.lim.keeps I2.keepBase).push _, ?_⟩
    generalize hs3 : ({ s2 with heap := s2.heap.push { cls := .type "list_iterator", data := .fields #[.ref bd, .int 0 0] } } : Shared) = s3
    have k3 : ∀ b o, s2.heap.get? b = some o → s3.heap.get? b = some o := by rw [← hs3]; exact fun b o e => Heap.get?_push_of_some _ e
    have I3 : FInv cx P f ℓ ρ2 σ2 s3 := I2.grow' k3 (by rw [← hs3]; exact I2.st.bare) (by rw [← hs3])
    have Lit : Loose cx P f ρ2 s2.heap.objs.size := I2.loose_new (fresh_none _)
    have git : s3.heap.get? s2.heap.objs.size = some { cls := .type "list_iterator", data := .fields #[.ref bd, .int 0 0] } := by rw [← hs3]; exact Heap.get?_push_size _ rfl
    refine I3.genCode T hcode fun s4 code I4 hg4 hk4 => ?_
    rw [I4.glo, I4.bui]
    refine T.bfor I4.keepBase fun h' hns hsb => ?_
    have git4 := hk4 _ _ Lit.nt git
    obtain ⟨Z, HZ, Fz⟩ := I4.freeze
    generalize hC : s4.heap.objs.size = C at hns hsb ⊢
    have nC : s4.heap.get? C = none := by rw [← hC]; exact fresh_none _
    have ltC : ∀ {b o}, s4.heap.get? b = some o → b < C := fun {b o} e => by rw [← hC]; exact Heap.lt_size e
    have kp1 : ∀ b o, s4.heap.get? b = some o → h'.get? b = some o := fun b o e => (hsb.2 b (Nat.ne_of_lt (ltC e))).trans (Heap.get?_push_of_some _ e)
    have hsz : h'.objs.size = C + 1 := by rw [hsb.1, Heap.size_push, hC]
    generalize hga : h'.objs.size = ga at *
    generalize hgo' : ({ cls := Value.type "generator", data := Data.fields #[Value.int (↑s4.gens.size) 0, Value.str (Str.ofString "<genexpr>") (s4.toks + 1), Value.str (f.env.qual ++ Str.ofString "<genexpr>") (s4.toks + 1 + 1)] } : Obj) = gobj
    have gfree : gobj.isFreed = false := by rw [← hgo']; rfl
    have gga : (h'.push gobj).get? ga = some gobj := by rw [← hga]; exact Heap.get?_push_size _ gfree
    have kp : ∀ b o, s4.heap.get? b = some o → (h'.push gobj).get? b = some o := fun b o e => Heap.get?_push_of_some _ (kp1 b o e)
    generalize hs5 : ({ heap := h'.push gobj, gens := s4.gens.push (GenState.fresh (Code.compStart (q.GeneratorExp [{ target := tg, iter := i, ifs := [], is_async := 0 }] sc gp) 0 (.ref s2.heap.objs.size) Value.none (genEnv sc (clOf f.env sc.names []) C code builtinsNs f.env))), drawn := s4.drawn, toks := s4.toks + 1 + 1 + 1, os := s4.os } : Shared) = s5
    have bare5 : AllBare s5.gens := by
      rw [← hs5]; intro y hy
      rcases Array.mem_push.mp hy with h | rfl
      · exact I4.st.bare y h
      · rfl
    have hns5 : s5.heap.Ns C (fun y => if y = (Str.ofString ".0") then some (.ref s2.heap.objs.size) else none) := by rw [← hs5]; exact hns.push _
    have habove : cx.base.objs.size ≤ C := by
      obtain ⟨m, ⟨o, _, _, ho, _⟩, _⟩ := I4.names
      exact Nat.le_trans I4.above (Nat.le_of_lt (ltC ho))
    have I5 : FInv cx (Hold P Z) (genFrm f sc C code) (ℓ.only vis) ρ2 σ2 s5 := I4.genInner ok hvis HZ Fz nC habove hns5 (by rw [← hs5]; exact kp) bare5 (by rw [← hs5])
    have gaC : ga ≠ C := by rw [hsz]; exact Nat.succ_ne_self _
    have nga : s4.heap.get? ga = none := by
      cases e : s4.heap.get? ga with
      | none => rfl
      | some o => have := ltC e; rw [hsz] at this; exact absurd this (Nat.not_lt.mpr (Nat.le_succ _))
    have Lg := HZ.loose nga
    have looseIn : ∀ {a}, Loose cx P f ρ2 a → a ≠ C → Loose cx (Hold P Z) (genFrm f sc C code) ρ2 a := fun {a} L hne => by
      refine ⟨fun o h => ?_, L.nr, L.nt, hne, fun h => (by cases h)⟩
      rcases h with h | h
      · exact L.np o h
      · rcases Fz.only _ h with q | q
        · exact L.nl q
        · exact L.nc q
    have Lg5 : Loose cx (Hold P Z) (genFrm f sc C code) ρ2 ga := ⟨Lg.1, Lg.2.1, Lg.2.2, gaC, fun h => (by cases h)⟩
    have gga5 : s5.heap.get? ga = some gobj := by rw [← hs5]; exact gga
    have I6 := I5.hold (Stand.one Lg5 gga5)
    have Lit5 := looseIn Lit (Nat.ne_of_lt (ltC git4))
    have itga : s2.heap.objs.size ≠ ga := fun e => by have := ltC git4; rw [e, hsz] at this; exact absurd this (Nat.not_lt.mpr (Nat.le_succ _))
    have S6 : Stand cx (Hold (Hold P Z) [(ga, gobj)]) (genFrm f sc C code) ρ2 s5.heap [(s2.heap.objs.size, { cls := .type "list_iterator", data := .fields #[.ref bd, .int 0 0] })] := by
      refine Stand.one ⟨fun o h => ?_, Lit5.nr, Lit5.nt, Lit5.nl, Lit5.nc⟩ (by rw [← hs5]; exact kp _ _ git4)
      rcases h with h | h
      · exact Lit5.np o h
      · rw [List.mem_singleton] at h; exact itga (by injection h)
    obtain ⟨S0, ds, ea⟩ : ∃ S0 ds, ρ2[a]? = some (S0, ds) := by
      obtain ⟨S0, ds, e, _⟩ := I2.st.at hσa
      exact ⟨S0, ds, e⟩
    obtain ⟨ad, dd, ea', hw⟩ := q1.mono r2
    obtain ⟨rfl, _⟩ := I2.st.rep a _ _ _ hσa ea'
    subst hw
    have hgen : ∀ h : Heap, h.get? ga = some gobj → h.IsGen ga s4.gens.size := fun h e => ⟨gobj, _, _, e, by rw [← hgo'], by rw [← hgo'], by rw [← hgo']⟩
    have hne : dd ≠ ga := fun e => by
      obtain ⟨o, ho⟩ := I4.st.lt ⟨a, dd, dd, ea', .inl rfl⟩
      rw [e, nga] at ho; cases ho
    have ek : (genFrm f sc C code).env.scope.names = sc.names := rfl
    have hx : (ℓ.only vis) x = none := by
      unfold Loc.only
      split
      · rename_i hm
        exfalso
        unfold visOK at hvis
        rw [List.all_eq_true] at hvis
        have h1 := hvis x (by simpa using hm)
        simp only [Bool.or_eq_true, beq_iff_eq] at h1
        rw [hx1] at h1
        rcases h1 with h1 | h1 <;> cases h1
      · rfl
    refine wpAny_items_nil ?_
    refine extend_run (cf := cf) (n := n) R.han (by show A.depth < 1000; omega) T (P := Hold (Hold P Z) [(ga, gobj)]) (f := genFrm f sc C code) (ℓ := ℓ.only vis) (x := x) (x1 := x1) (x2 := x2) (g := s4.gens.size) (gs := GenState.fresh (Code.compStart (q.GeneratorExp [{ target := tg, iter := i, ifs := [], is_async := 0 }] sc gp) 0 (.ref s2.heap.objs.size) Value.none (genEnv sc (clOf f.env sc.names []) C code builtinsNs f.env))) (.inr List.mem_cons_self) hgen (fun q => hab (.inr q)) ea' hne hσa
      ⟨List.prefix_refl _, I6, ⟨bd, _, eb, rfl, rfl, rfl⟩, S6⟩ (by rw [← hs5]; exact Array.getElem?_push_size ..) hgo (fun s'' G => ⟨rfl, ?_⟩) fun s6 ρ6 r6 I7 => ?_
    · exact seg_start (A := A.in1.in1) (f := genFrm f sc C code) R.han I6.st.base hc4 (.inl hx1) hc3 hx hco hgo G
    · obtain ⟨I8, _⟩ := I7.drop I5.st.base (fun p hp => by rw [List.mem_singleton] at hp; subst hp; exact Lg5.np) (fun p hp v => by rw [List.mem_singleton] at hp; subst hp; rw [← hgo']; simp)
      exact k s6 ρ6 _ (I4.thaw Fz I8.st r6) (r1.trans (r2.trans r6)) rfl
end
end Mine
end

/-! Sound28 -/
section
open PySem PySem.W PySem.Calls PyProof.Rows
set_option linter.unusedVariables false
namespace Mine
/-! parameters given in full -/
theorem zip_lookup_some : ∀ {ns : List Str} {ws : List Value}, ws.length = ns.length → ∀ n ∈ ns, ((ns.zip ws).lookup n).isSome = true
  | [], _, _, n, h => by cases h
  | m :: ns, [], hl, n, h => by simp at hl
  | m :: ns, w :: ws, hl, n, h => by
    rw [List.zip_cons_cons, List.lookup_cons]
    split
    · rfl
    · rename_i hb
      rcases List.mem_cons.mp h with rfl | h
      · simp at hb
      · exact zip_lookup_some (by simpa using hl) n h
theorem zip_filterMap : ∀ {ns : List Str} {ws : List Value}, ws.length = ns.length → ns.Nodup → ∀ (L : List (Str × Value)), (∀ n ∈ ns, L.lookup n = (ns.zip ws).lookup n) → ns.filterMap (fun n => (L.lookup n).map (n, ·)) = ns.zip ws
  | [], _, _, _, L, _ => rfl
  | m :: ns, [], hl, _, L, _ => by simp at hl
  | m :: ns, w :: ws, hl, nd, L, h => by
    rw [List.nodup_cons] at nd
    have h0 := h m List.mem_cons_self
    rw [List.zip_cons_cons, List.lookup_cons] at h0
    simp only [beq_self_eq_true] at h0
    rw [List.filterMap_cons, h0, List.zip_cons_cons]
    dsimp only [Option.map_some]
    rw [zip_filterMap (ws := ws) (by simpa using hl) nd.2 L fun n hn => ?_]
    rw [h n (List.mem_cons_of_mem _ hn), List.zip_cons_cons, List.lookup_cons]
    have : (n == m) = false := beq_eq_false_iff_ne.mpr fun e => nd.1 (e ▸ hn)
    rw [this]
theorem binds_full {fd : FuncData} {ns : List Str} (h1 : fd.params.posonlyargs = []) (h2 : fd.params.args.map (·.arg) = ns) (h3 : fd.params.kwonlyargs = []) (h4 : fd.params.vararg = none) (h5 : fd.params.kwarg = none) (nd : ns.Nodup) {ws : List Value} (hl : ws.length = ns.length)
    {s : Shared} (hd : ∃ ds, ∀ (M : Model) (A : Around) (E : Value → Shared → Prop) (Q : Option (Array Value) → Shared → Prop), Q ds s → wpAny M A (seqItems? fd.defaults) Q E s) : BindsTo s fd ⟨ws, []⟩ (ns.zip ws) := by
  intro M A E Q hq
  obtain ⟨ds, hd⟩ := hd
  unfold bindArgs
  dsimp only
  simp only [h1, h3, h2, h4, h5, List.map_nil, List.nil_append, List.append_nil, List.forIn_nil, pure_bind]
  refine wpAny_bind (hd _ _ _ _ ?_)
  have hgt : ¬ (ws.length > ns.length) := by omega
  simp only [hgt, decide_false, Bool.false_and, Bool.false_eq_true, if_false]
  generalize ((ds.getD #[]).toList) = D
  have hm : ∀ k, List.filter (fun n => (List.lookup n (ns.zip ws)).isNone) (List.take k ns) = [] := by
    intro k
    rw [List.filter_eq_nil_iff]
    intro n hn
    have := zip_lookup_some hl n (List.mem_of_mem_take hn)
    simp only [Option.isNone_iff_eq_none]
    intro e; rw [e] at this; cases this
  simp only [hm, List.isEmpty_nil, Bool.not_true, Bool.false_eq_true, if_false]
  have hloop : ∀ (l : List (Str × Value)), (∀ p ∈ l, p.1 ∈ ns) → (forIn l (ns.zip ws) (fun x (slots : List (Str × Value)) => match x with
      | (name, d) => if (List.lookup name slots).isNone = true then pure (ForInStep.yield (slots ++ [(name, d)])) else pure (ForInStep.yield slots)) : Sem (List (Str × Value))) = pure (ns.zip ws) := by
    intro l
    induction l with
    | nil => intro _; rfl
    | cons p r ih =>
      intro hp
      obtain ⟨nm, dv⟩ := p
      rw [List.forIn_cons]
      have := zip_lookup_some hl nm (hp (nm, dv) List.mem_cons_self)
      have hn : (List.lookup nm (ns.zip ws)).isNone = false := by
        cases e : List.lookup nm (ns.zip ws) with
        | none => rw [e] at this; cases this
        | some v => rfl
      simp only [hn, Bool.false_eq_true, if_false, pure_bind]
      exact ih fun p hp' => hp p (List.mem_cons_of_mem _ hp')
  refine wpAny_bind (wpAny_of_eq (hloop _ fun p hp => ?_) ?_)
  · exact List.mem_of_mem_drop (List.of_mem_zip (show (p.1, p.2) ∈ _ from hp)).1
  · rw [zip_filterMap hl nd _ fun n _ => rfl]
    exact wpAny_pure hq
end Mine
end

/-! Sound29 -/
section
open PySem PySem.W PySem.Calls PyProof.Rows
set_option linter.unusedVariables false
namespace Mine
/-! the head's facts from one Bool -/
def fdAt (K : Frag) (fa : Addr) : Option (Obj × FuncData × List Stmt) := match List.lookup fa K with
  | some o => match o.data with
    | .func fd => match fd.body with
      | .stmts bd => some (o, fd, bd)
      | _ => none
    | _ => none
  | none => none
def dfltChk (K : Frag) : Value → Bool
  | .none => true
  | .ref a => match List.lookup a K with
    | some o => match o.data with
      | .seq .. => true
      | _ => false
    | none => false
  | _ => false
def funChk (K : Frag) (tc : Addr) (fa : Addr) (fn : Fn) : Bool := match fdAt K fa with
  | none => false
  | some (_, fd, bd) => chkSs fd.scope.names fn.body bd && fd.closure.isEmpty && fd.globals == mainGlobals && fd.builtins == builtinsNs && codeIn K fd.code fd.qualname && fd.params.posonlyargs.isEmpty &&
    fd.params.args.map (·.arg) == fn.params.map Str.ofString && fd.params.kwonlyargs.isEmpty && fd.params.vararg.isNone && fd.params.kwarg.isNone && dfltChk K fd.defaults &&
    (!(fd.scope.names.lookup (Str.ofString "maximum") == some .local) || fd.code == .ref tc) && fd.scope.kind == .function && !fd.scope.isGenerator && !fd.scope.isCoroutine &&
    fn.params.all (fun x => isOwn fd.scope.names x) && decide fn.params.Nodup && decide (fd.scope.names.map (·.1)).Nodup && fd.scope.names.all (fun y => y.2 != .free)
theorem funOK_of {cx : Cx} (kin : cx.K.In cx.base) {fa : Addr} {fn : Fn} (h : funChk cx.K cx.tcode fa fn = true) : ∃ o fd bd, FunOK cx fa fn o fd bd := by
  unfold funChk at h
  split at h
  · cases h
  · rename_i o fd bd hf
    simp only [Bool.and_eq_true, beq_iff_eq, decide_eq_true_eq, List.isEmpty_iff, Option.isNone_iff_eq_none, Bool.not_eq_true', Bool.or_eq_true, List.all_eq_true, bne_iff_ne, beq_eq_false_iff_ne] at h
    obtain ⟨⟨⟨⟨⟨⟨⟨⟨⟨⟨⟨⟨⟨⟨⟨⟨⟨⟨h1, h2⟩, h3⟩, h4⟩, h5⟩, h6⟩, h7⟩, h8⟩, h9⟩, h10⟩, h11⟩, h12⟩, h13⟩, h14⟩, h15⟩, h16⟩, h17⟩, h18⟩, h19⟩ := h
    unfold fdAt at hf
    split at hf
    · rename_i o' ho
      split at hf
      · rename_i fd' hd
        split at hf
        · rename_i bd' hbd
          cases hf
          refine ⟨o, fd, bd, kin _ _ ho, hd, hbd, h1, h2, h3, h4, codeRec_of kin h5, fun s ws kb hl => ?_, fun h => ?_, h13, h14, h15, h16, h17, h18, h19⟩
          · refine binds_full h6 h7 h8 h9 h10 (List.Pairwise.map _ (fun a b hab e => hab (ofString_inj e)) h17) (by simpa using hl) ?_
            unfold dfltChk at h11
            split at h11
            · rename_i hv; exact ⟨none, fun M A E Q hq => by rw [hv]; exact wpAny_of_eq rfl hq⟩
            · rename_i a hv
              split at h11
              · rename_i o2 ho2
                split at h11
                · rename_i xs n hs
                  exact ⟨some xs, fun M A E Q hq => by rw [hv]; exact wpAny_seqItems (kb _ _ (kin _ _ ho2)) hs hq⟩
                · cases h11
              · cases h11
            · cases h11
          · rcases h12 with h12 | h12
            · exact absurd h h12
            · exact h12
        · cases hf
      · cases hf
    · cases hf
def builtinVals : List (String × Value) := [("len", .builtin "len"), ("max", .builtin "max"), ("min", .builtin "min"), ("bool", .type "bool"), ("int", .type "int"), ("range", .type "range"), ("list", .type "list"), ("enumerate", .type "enumerate"), ("zip", .type "zip")]
def globOf (K : Frag) (x : String) : Option Value := match builtinVals.lookup x with
  | some v => some v
  | none => match nsIn K mainGlobals (Str.ofString x) with
    | some (some v) => some v
    | _ => none
def endsInit (g : String) : Bool := (".__init__".toList).isSuffixOf g.toList
structure HeadTab where
  ftab : List (String × Addr)
  ctab : List (String × Addr)
  itab : List (String × Addr × Addr)
  ptab : List (String × Fn)
def headChk (K : Frag) (tc : Addr) (H : HeadTab) : Bool :=
  (H.ptab.all fun p => match H.ftab.lookup p.1 with | some fa => funChk K tc fa p.2 | none => false) &&
  (H.ftab.all fun p => !noDot p.1 || globOf K p.1 == some (.ref p.2)) &&
  (H.ctab.all fun p => umethNames.all fun m => match H.ftab.lookup (p.1 ++ "." ++ m) with
    | none => true
    | some fa => plainGet K p.2 (Str.ofString m) && findIn K (.ref p.2) (Str.ofString m) == some (some (.ref fa)) && isFn K (.ref fa)) &&
  (H.ftab.all fun p => !endsInit p.1 || H.itab.any fun q => q.1 ++ ".__init__" == p.1 && q.2.1 == p.2 && H.ctab.lookup q.1 == some q.2.2 && makesIn K q.2.2 && findIn K (.ref q.2.2) "__init__" == some (some (.ref p.2)) && isFn K (.ref p.2) &&
    keepIn K (.ref q.2.2) && globOf K q.1 == some (.ref q.2.2)) &&
  (H.ctab.all fun p => attrNames.all fun x => plainGet K p.2 (Str.ofString x) && hasDictIn K p.2 && (match findIn K (.ref p.2) (Str.ofString x) with | some a => noGet K a | none => false) &&
    findIn K (.ref p.2) "__setattr__" == some (some (.builtin "object.__setattr__")) && plainOver K p.2 && takerIn K p.2 (Str.ofString x) == some none) &&
  (builtinVals.all fun p => nsIn K mainGlobals (Str.ofString p.1) == some none && p.1 != "__name__" && bootBuiltins (Str.ofString p.1) == some p.2)
theorem mem_of_lookupS {β : Type} {n : String} {b : β} : ∀ {l : List (String × β)}, l.lookup n = some b → (n, b) ∈ l
  | [], h => by simp at h
  | (m, k) :: r, h => by
    rw [List.lookup_cons] at h
    by_cases hm : n == m
    · simp only [hm] at h
      have : n = m := by simpa using hm
      subst this; cases h; exact List.mem_cons_self
    · simp only [hm] at h; exact List.mem_cons_of_mem _ (mem_of_lookupS h)
theorem funs_of {cx : Cx} (kin : cx.K.In cx.base) {H : HeadTab} {prog : String → Option Fn} (hfa : ∀ g, cx.fa g = H.ftab.lookup g) (hca : ∀ c, cx.ca c = H.ctab.lookup c) (hgl : ∀ x, cx.glob x = globOf cx.K x) (hpr : ∀ g fn, prog g = some fn → H.ptab.lookup g = some fn)
    (h : headChk cx.K cx.tcode H = true) : Funs cx prog := by
  unfold headChk at h
  simp only [Bool.and_eq_true] at h
  obtain ⟨⟨⟨⟨⟨h1, h2⟩, h3⟩, h4⟩, h5⟩, h6⟩ := h
  rw [List.all_eq_true] at h1 h2 h3 h4
  refine ⟨fun g fn hg => ?_, fun g fa hg hd => ?_, fun c C m fa hc hm hf => ?_, fun c fa hf => ?_⟩
  · have := h1 _ (mem_of_lookupS (hpr g fn hg))
    dsimp only at this
    split at this
    · rename_i fa hfa'
      obtain ⟨o, fd, bd, FO⟩ := funOK_of kin this
      exact ⟨fa, o, fd, bd, (hfa g).trans hfa', FO⟩
    · cases this
  · rw [hfa] at hg
    have := h2 _ (mem_of_lookupS hg)
    simp only [Bool.or_eq_true, Bool.not_eq_true', beq_iff_eq] at this
    rcases this with h | h
    · rw [hd] at h; cases h
    · rw [hgl]; exact h
  · rw [hca] at hc
    rw [hfa] at hf
    have := h3 _ (mem_of_lookupS hc)
    rw [List.all_eq_true] at this
    have := this m (by simpa using hm)
    dsimp only at this
    rw [hf] at this
    simp only [Bool.and_eq_true, beq_iff_eq] at this
    exact ⟨this.1.1, this.1.2, this.2⟩
  · rw [hfa] at hf
    have := h4 _ (mem_of_lookupS hf)
    simp only [Bool.or_eq_true, Bool.not_eq_true', List.any_eq_true, Bool.and_eq_true, beq_iff_eq] at this
    have hend : endsInit (c ++ ".__init__") = true := by
      unfold endsInit
      rw [String.toList_append]
      simp
    rcases this with h | ⟨q, hq, ⟨⟨⟨⟨⟨⟨e1, e2⟩, e3⟩, e4⟩, e5⟩, e6⟩, e7⟩, e8⟩
    · rw [hend] at h; cases h
    · have hc : q.1 = c := by
        have := congrArg String.toList e1
        rw [String.toList_append, String.toList_append] at this
        exact String.toList_inj.mp (List.append_cancel_right this)
      rw [hc] at e3 e8
      exact ⟨q.2.2, (hca c).trans e3, e4, e5, e6, e7, (hgl c).trans e8⟩
theorem top_of {cx : Cx} (kin : cx.K.In cx.base) {H : HeadTab} (hca : ∀ c, cx.ca c = H.ctab.lookup c) (hgl : ∀ x, cx.glob x = globOf cx.K x) (h : headChk cx.K cx.tcode H = true) (lim : cx.base.NoLimit) {mg mb : Str → Option Value} (ng : cx.base.Ns mainGlobals mg) (nb : cx.base.Ns builtinsNs mb)
    (hb : ∀ x, x ≠ Str.ofString "__name__" → mb x = bootBuiltins x)
    (tcd : ∃ o vs file tf flags tg inF text tt, cx.base.get? cx.tcode = some o ∧ o.cls = .type "code" ∧ o.data = .fields vs ∧ vs[11]? = some (.ref cx.tab) ∧ vs.getD 18 .none = .str file tf ∧ vs.getD 7 .none = .int flags tg ∧ vs.getD 9 .none = .bool inF ∧ vs.getD 10 .none = .int text tt ∧ cx.tcode ≠ cx.tab)
    (bfor : ∀ {M : Model} {A : Around} {E : Value → Shared → Prop} {s : Shared} {Q : Addr → Shared → Prop}, (∀ b o, cx.base.get? b = some o → s.heap.get? b = some o) → Q builtinsNs s → wpAny M A (builtinsFor mainGlobals builtinsNs) Q E s) : CxTop cx := by
  unfold headChk at h
  simp only [Bool.and_eq_true] at h
  obtain ⟨⟨⟨⟨⟨h1, h2⟩, h3⟩, h4⟩, h5⟩, h6⟩ := h
  rw [List.all_eq_true] at h5 h6
  have at5 : ∀ c C x, cx.ca c = some C → attrNames.contains x = true → (((((plainGet cx.K C (Str.ofString x) = true ∧ hasDictIn cx.K C = true) ∧ (match findIn cx.K (.ref C) (Str.ofString x) with | some a => noGet cx.K a | none => false) = true) ∧
      findIn cx.K (.ref C) "__setattr__" = some (some (.builtin "object.__setattr__"))) ∧ plainOver cx.K C = true) ∧ takerIn cx.K C (Str.ofString x) = some none) := by
    intro c C x hc hx
    rw [hca] at hc
    have := h5 _ (mem_of_lookupS hc)
    rw [List.all_eq_true] at this
    have := this x (by simpa using hx)
    simpa only [Bool.and_eq_true, beq_iff_eq] using this
  have gl : ∀ x v, builtinVals.lookup x = some v → cx.glob x = some v := fun x v e => by rw [hgl]; unfold globOf; rw [e]
  refine ⟨⟨kin, lim, mg, mb, ng, nb, fun x v e => ?_⟩, fun c C x hc hx => ?_, fun c C x hc hx => ?_, tcd, bfor, gl _ _ rfl, gl _ _ rfl, gl _ _ rfl, gl _ _ rfl, gl _ _ rfl, gl _ _ rfl, gl _ _ rfl, gl _ _ rfl, gl _ _ rfl⟩
  · rw [hgl] at e
    unfold globOf at e
    split at e
    · rename_i u hu
      cases e
      have := h6 _ (mem_of_lookupS hu)
      simp only [Bool.and_eq_true, beq_iff_eq, bne_iff_ne] at this
      obtain ⟨⟨e1, e2⟩, e3⟩ := this
      exact .inr ⟨mg_none_of kin ng e1, (hb _ fun z => e2 (ofString_inj z)).trans e3⟩
    · split at e
      · rename_i u hu
        cases e
        exact .inl (mg_of kin ng hu)
      · cases e
  · obtain ⟨⟨⟨⟨⟨a1, a2⟩, a3⟩, a4⟩, a5⟩, a6⟩ := at5 c C x hc hx
    refine ⟨a1, a2, ?_⟩
    split at a3
    · rename_i a ha; exact ⟨a, ha, a3⟩
    · cases a3
  · obtain ⟨⟨⟨⟨⟨a1, a2⟩, a3⟩, a4⟩, a5⟩, a6⟩ := at5 c C x hc hx
    exact ⟨a4, a5, a6⟩
end Mine
end

/-! Sound30 -/
section
open PySem PySem.W PySem.Calls PyProof.Rows
set_option linter.unusedVariables false
namespace Mine
/-! the join: a run of the interpreter is a call of the model -/
def isListO (o : Obj) : Bool := match o.data with
  | .seq .. => o.cls == .type "list"
  | _ => false
theorem isListO_of {ws : Array Value} {n : Nat} : isListO (W.listOf ws n) = true := rfl
theorem mem_of_lookupA {β : Type} {n : Addr} {b : β} : ∀ {l : List (Addr × β)}, l.lookup n = some b → (n, b) ∈ l
  | [], h => by simp at h
  | (m, k) :: r, h => by
    rw [List.lookup_cons] at h
    by_cases hm : n == m
    · simp only [hm] at h
      have : n = m := by simpa using hm
      subst this; cases h; exact List.mem_cons_self
    · simp only [hm] at h; exact List.mem_cons_of_mem _ (mem_of_lookupA h)
theorem lookup_filter_key {β : Type} {n : Addr} {b : β} (q : Addr → Bool) : ∀ {l : List (Addr × β)}, (l.filter (fun p => q p.1)).lookup n = some b → l.lookup n = some b
  | [], h => by simp at h
  | (m, k) :: r, h => by
    rw [List.filter_cons] at h
    by_cases hq : q m = true
    · simp only [hq, if_true] at h
      rw [List.lookup_cons] at h ⊢
      by_cases hm : n == m
      · simpa [hm] using h
      · simp only [hm] at h ⊢; exact lookup_filter_key q h
    · simp only [hq] at h
      have h' := lookup_filter_key q h
      rw [List.lookup_cons]
      by_cases hm : n == m
      · exfalso
        have e : n = m := by simpa using hm
        subst e
        have := List.mem_filter.mp (mem_of_lookupA h)
        exact hq this.2
      · simp only [hm]; exact h'
theorem in_filter {K : Frag} {h : Heap} (q : Addr → Bool) (x : K.In h) : Frag.In (K.filter (fun p => q p.1)) h := fun b o e => x b o (lookup_filter_key q e)
theorem join {pr : Program} {w : World} {K : Frag} {H : HeadTab} {tcode tab la fa0 : Addr} {s : Shared} {mg mb : Str → Option Value} {vals : List V} {ws : List Value} {prog : String → Option Fn}
    (kin : K.In s.heap) (knl : K.all (fun p => p.1 != tab && !isListO p.2) = true) (hch : headChk K tcode H = true) (hpr : ∀ g fn, prog g = some fn → H.ptab.lookup g = some fn)
    (ng : s.heap.Ns mainGlobals mg) (nb : s.heap.Ns builtinsNs mb) (hb : ∀ x, x ≠ Str.ofString "__name__" → mb x = bootBuiltins x) (lim : s.heap.NoLimit)
    (hcode : s.heap.IsCode tcode tab #[]) (htab : s.heap.TableAt tcode tab #[]) (big : sysModules < tab)
    (hbm : ∃ bm ob, mg "__builtins__" = some (.ref bm) ∧ bm ≠ builtinsNs ∧ s.heap.get? bm = some ob ∧ ob.cls = .type "module" ∧ ob.dict = some builtinsNs ∧ ob.data = .plain)
    (hg : AllBare s.gens) (hl : s.heap.get? la = some (W.listOf ws.toArray 0)) (hws : VRs [] vals ws) (hlen : vals.length ≤ LIM) (hfa : H.ftab.lookup "law" = some fa0)
    {dd : Nat} {v : V} {σ' : St} (hrun : callN prog dd "law" [.ref 0] [.list vals] = some (v, σ')) {A : Around} (R : RoomC A dd) {Rs : Result → Shared → Prop}
    (k : ∀ s' ρ wv, VR ρ v wv → OldK s.heap s'.heap → s'.os = s.os → AllBare s'.gens → Rs (.ok (.ret wv)) s') :
    codeAny (model pr w) A (.call (.ref fa0) ⟨[.ref la], []⟩) Rs s := by
  have htl : tab ≠ la := by
    rintro rfl; have := htab.2; rw [hl] at this; cases this
  have bs : ∀ {b o}, s.heap.get? b = some o → b ≠ tab → b ≠ la → (hideAll s.heap [tab, la]).get? b = some o := fun e h1 h2 => hideAll_get _ e (by simp [h1, h2])
  have ob : ∀ {b o}, (hideAll s.heap [tab, la]).get? b = some o → s.heap.get? b = some o := fun e => of_hideAll _ e
  have bns : ∀ {a m}, s.heap.Ns a m → (hideAll s.heap [tab, la]).Ns a m := by
    rintro a m ⟨o, es, ep, e, hd, r⟩
    refine ⟨o, es, ep, bs e ?_ ?_, hd, r⟩
    · rintro rfl; rw [htab.2] at e; cases e; cases hd
    · rintro rfl; rw [hl] at e; cases e; cases hd
  obtain ⟨oc, vs, file, tf, flags, tg, inF, text, tt, c1, c2, c3, c4, c5, c6, c7, c8, c9, c10⟩ := CodeHd.of hcode htab
  let cx : Cx := { prog := pr, w := w, K := K, base := hideAll s.heap [tab, la], os := s.os, glob := globOf K, fa := fun g => H.ftab.lookup g, ca := fun c => H.ctab.lookup c, ro := W.listOf ws.toArray 0, tab := tab, tcode := tcode, tabBig := big }
  have kin' : cx.K.In cx.base := fun b o e => by
    have hm := List.all_eq_true.mp knl _ (mem_of_lookupA e)
    simp only [Bool.and_eq_true, bne_iff_ne, Bool.not_eq_true'] at hm
    refine bs (kin b o e) hm.1 ?_
    rintro rfl
    have := kin _ o e
    rw [hl] at this; cases this
    rw [isListO_of] at hm; cases hm.2
  have T : CxTop cx := by
    refine top_of kin' (fun _ => rfl) (fun _ => rfl) hch ?_ (bns ng) (bns nb) hb ?_ ?_
    · obtain ⟨mc, n, e⟩ := lim; exact ⟨mc, bns n, e⟩
    · refine ⟨oc, vs, file, tf, flags, tg, inF, text, tt, bs c1 c10 ?_, c2, c3, c4, c6, c7, c8, c9, c10⟩
      intro hh; rw [show tcode = la from hh, hl] at c1; cases c1; simp at c2
    · intro M A E s2 Q hk hq
      obtain ⟨bm, o, h1, h2, h3, h4, h5, h6⟩ := hbm
      refine wpAny_builtinsFor (m := mg) ?_ h1 h2 (hk _ _ (bs h3 ?_ ?_)) h4 h5 h6 hq
      · obtain ⟨o, es, ep, e, r⟩ := bns ng; exact ⟨o, es, ep, hk _ _ e, r⟩
      · intro hh; rw [hh, htab.2] at h3; cases h3; simp at h4
      · intro hh; rw [hh, hl] at h3; cases h3; simp at h4
  have FS : Funs cx prog := funs_of kin' (fun _ => rfl) (fun _ => rfl) (fun _ => rfl) hpr hch
  have I : HInv cx (fun b o => cx.base.get? b = some o) [(la, la)] [.list vals] s := by
    refine ⟨fun b o e => ob e, fun b o e => e, rfl, ?_, ?_, ?_, hg, rfl, ⟨#[], htab.2, ?_⟩, ⟨?_, ?_⟩, ⟨la, la, rfl, hl⟩⟩
    · intro n o a d h1 h2
      cases n with
      | zero => simp at h1 h2; obtain ⟨rfl, rfl⟩ := h2; subst h1; exact ⟨rfl, hlen, _, _, hl, by simpa using hws.mono (List.nil_prefix)⟩
      | succ n => simp at h1
    · intro n m a d a' d' h1 h2 hne
      cases n with
      | zero => cases m with
        | zero => exact absurd rfl hne
        | succ m => simp at h2
      | succ n => simp at h1
    · rintro b ⟨n, a, d, e, q⟩ o ho
      cases n with
      | zero =>
        simp at e; obtain ⟨rfl, rfl⟩ := e
        have : b = la := by rcases q with q | q <;> exact q
        subst this
        have ho' : (hideAll s.heap [tab, b]).get? b = some o := ho
        rw [hideAll_none _ (by simp)] at ho'; cases ho'
      | succ n => simp at e
    · trivial
    · intro o ho
      have ho' : (hideAll s.heap [tab, la]).get? tab = some o := ho
      rw [hideAll_none _ (by simp)] at ho'; cases ho'
    · rintro ⟨n, a, d, e, q⟩
      cases n with
      | zero => simp at e; obtain ⟨rfl, rfl⟩ := e; rcases q with q | q <;> exact htl q
      | succ n => simp at e
  have hsz : cx.base.objs.size ≤ s.heap.objs.size := Nat.le_of_eq (hideAll_size _ _)
  refine call_all T FS tget tset (fun d => sext T) dd hrun (fa := fa0) hfa I hsz (.cons ⟨la, la, rfl, rfl⟩ .nil) R fun s' ρ' wv I' pre q => k s' ρ' wv q ⟨fun b o e => ?_, fun b o e => ?_⟩ I'.os I'.bare
  · by_cases h1 : b = tab
    · subst h1
      obtain ⟨ps, e', _⟩ := I'.tab
      have e' : s'.heap.get? b = some (tabObj ps) := e'
      rw [htab.2] at e; cases e
      exact .inr (.inl ⟨htab.isCodeTable, rfl, #[], ps, rfl, by rw [e']; simp⟩)
    · by_cases h2 : b = la
      · subst h2
        obtain ⟨a, d, e', g⟩ := I'.ro
        obtain ⟨r, rfl⟩ := pre
        simp at e'
        obtain ⟨rfl, rfl⟩ := e'
        rw [hl] at e; cases e
        exact .inl g
      · exact .inl (I'.keep _ _ (I'.base _ _ (bs e h1 h2)))
  · by_cases h1 : b = tab
    · subst h1
      obtain ⟨ps, e', _⟩ := I'.tab
      exact ⟨_, e'⟩
    · by_cases h2 : b = la
      · subst h2
        obtain ⟨a, d, e', g⟩ := I'.ro
        obtain ⟨r, rfl⟩ := pre
        simp at e'
        obtain ⟨rfl, rfl⟩ := e'
        exact ⟨_, g⟩
      · exact ⟨_, I'.keep _ _ (I'.base _ _ (bs e h1 h2))⟩
/-- a def's code object and its table, looked up -/
def tabOfK (K : Frag) (n : Str) : Option (Addr × Addr) := match nsIn K mainGlobals n with
  | some (some (.ref a)) => match List.lookup a K with
    | some o => match o.data with
      | .func fd => match fd.code with
        | .ref c => match List.lookup c K with
          | some oc => match oc.data with
            | .fields vs => match vs.getD 11 .none with
              | .ref P => some (c, P)
              | _ => none
            | _ => none
          | none => none
        | _ => none
      | _ => none
    | none => none
  | _ => none
theorem tab_of {K : Frag} {h : Heap} {mg : Str → Option Value} {n : Str} {c P : Addr} (kin : K.In h) (ng : h.Ns mainGlobals mg) (e : tabOfK K n = some (c, P)) {a : Addr} {o : Obj} {fd : FuncData} {c' P' : Addr} {ps : Array Value}
    (h1 : mg n = some (.ref a)) (h2 : h.get? a = some o) (h3 : o.data = .func fd) (h4 : fd.code = .ref c') (h5 : h.IsCode c' P' ps) : c' = c ∧ P' = P := by
  unfold tabOfK at e
  split at e
  · rename_i a1 e1
    have := mg_of kin ng e1
    rw [h1] at this; cases this
    split at e
    · rename_i o1 e2
      have := kin _ _ e2
      rw [h2] at this; cases this
      rw [h3] at e
      dsimp only at e
      rw [h4] at e
      dsimp only at e
      split at e
      · rename_i oc e3
        have e3 := kin _ _ e3
        obtain ⟨o', vs, file, tf, flags, tg, inF, text, tt, op, f1, f2, f3, _⟩ := h5
        rw [e3] at f1; cases f1
        rw [f2] at e
        dsimp only at e
        rw [f3] at e
        dsimp only at e
        cases e; exact ⟨rfl, rfl⟩
      · cases e
    · cases e
  · cases e
theorem ints_VRs {vs : List Value} {is : List Int} (h : IntsAre vs is) : VRs [] (is.map .int) vs := by
  induction h with
  | nil => exact .nil
  | cons n t _ ih => exact .cons ⟨t, rfl⟩ ih
end Mine
end

/-! Prog1 -/
section
namespace Mine.P1
def f_token_depth : Fn := ⟨["tokens"],
 (.seq (.assign (.one "maximum") (.int 0))
 (.seq (.assign (.one "stack") (.comp [] (.tuple (.cons (.var "token") (.cons (.int 0) .nil))) (.one "token") (.var "tokens") .nil))
 (.seq (.whileS (.var "stack")
  (.seq (.assign (.many ["token", "depth"]) (.bmeth (.var "stack") "pop" .nil))
  (.seq (.ifS (.dhas "children" (.var "token"))
   (.seq (.aug "depth" .add (.int 1))
   (.seq (.assign (.one "maximum") (.bcall "max" (.cons (.var "maximum") (.cons (.var "depth") .nil))))
   (.seq (.extS ["depth"] (.var "stack") (.tuple (.cons (.var "child") (.cons (.var "depth") .nil))) (.one "child") (.dget (.var "token") "children"))
   .done)))
   .done)
  .done)))
 (.seq (.retS (.var "maximum"))
 .done))))⟩
def f_is_entity_boundary : Fn := ⟨["left", "right"],
 (.seq (.retS (.ands (.cons (.bmeth (.var "left") "endswith" (.cons (.str [38]) .nil)) (.cons (.notNone .stuck) .nil))))
 .done)⟩
def f_Delimiter___init__ : Fn := ⟨["self", "index", "marker", "length", "can_open", "can_close", "orig_length", "order"],
 (.seq (.setAttr (.var "self") "index" (.var "index"))
 (.seq (.setAttr (.var "self") "marker" (.var "marker"))
 (.seq (.setAttr (.var "self") "length" (.var "length"))
 (.seq (.setAttr (.var "self") "can_open" (.var "can_open"))
 (.seq (.setAttr (.var "self") "can_close" (.var "can_close"))
 (.seq (.setAttr (.var "self") "orig_length" (.var "orig_length"))
 (.seq (.setAttr (.var "self") "order" (.var "order"))
 .done)))))))⟩
def f_DelimiterIndex___init__ : Fn := ⟨["self", "delimiters", "part_count"],
 (.seq (.setAttr (.var "self") "_tree" (.bin .mul (.list (.cons (.int 0) .nil)) (.bin .add (.var "part_count") (.int 1))))
 (.seq (.setAttr (.var "self") "_next" (.listRng (.bin .add (.bcall "len" (.cons (.var "delimiters") .nil)) (.int 1))))
 .done))⟩
def f_DelimiterIndex_current : Fn := ⟨["self", "delimiter"],
 (.seq (.assign (.one "index") (.attr (.var "delimiter") "index"))
 (.seq (.assign (.one "total") (.int 0))
 (.seq (.assign (.one "cursor") (.bin .add (.var "index") (.int 1)))
 (.seq (.whileS (.var "cursor")
  (.seq (.aug "total" .add (.sub (.attr (.var "self") "_tree") (.var "cursor")))
  (.seq (.aug "cursor" .sub (.bin .band (.var "cursor") (.neg (.var "cursor"))))
  .done)))
 (.seq (.retS (.bin .sub (.var "index") (.var "total")))
 .done)))))⟩
def f_DelimiterIndex_collapse : Fn := ⟨["self", "closer", "removed"],
 (.seq (.ifS (.lnot (.var "removed"))
  (.seq (.retS .nil)
  .done)
  .done)
 (.seq (.assign (.one "cursor") (.bin .add (.attr (.var "closer") "index") (.int 1)))
 (.seq (.whileS (.cmp .lt (.var "cursor") (.bcall "len" (.cons (.attr (.var "self") "_tree") .nil)))
  (.seq (.augSub (.attr (.var "self") "_tree") (.var "cursor") .add (.var "removed"))
  (.seq (.aug "cursor" .add (.bin .band (.var "cursor") (.neg (.var "cursor"))))
  .done)))
 .done)))⟩
def f_DelimiterIndex_deactivate : Fn := ⟨["self", "order"],
 (.seq (.setSub (.attr (.var "self") "_next") (.var "order") (.umeth (.var "self") "_find" (.cons (.bin .add (.var "order") (.int 1)) .nil)))
 .done)⟩
def f_DelimiterIndex_deactivate_range : Fn := ⟨["self", "delimiters", "start", "end"],
 (.seq (.assign (.one "order") (.umeth (.var "self") "_find" (.cons (.var "start") .nil)))
 (.seq (.whileS (.cmp .lt (.var "order") (.var "end"))
  (.seq (.setAttr (.sub (.var "delimiters") (.var "order")) "length" (.int 0))
  (.seq (.setSub (.attr (.var "self") "_next") (.var "order") (.umeth (.var "self") "_find" (.cons (.bin .add (.var "order") (.int 1)) .nil)))
  (.seq (.assign (.one "order") (.umeth (.var "self") "_find" (.cons (.var "order") .nil)))
  .done))))
 .done))⟩
def f_DelimiterIndex__find : Fn := ⟨["self", "order"],
 (.seq (.assign (.one "root") (.var "order"))
 (.seq (.whileS (.cmp .ne (.sub (.attr (.var "self") "_next") (.var "root")) (.var "root"))
  (.seq (.assign (.one "root") (.sub (.attr (.var "self") "_next") (.var "root")))
  .done))
 (.seq (.whileS (.cmp .ne (.sub (.attr (.var "self") "_next") (.var "order")) (.var "order"))
  (.seq (.assign (.one "parent") (.sub (.attr (.var "self") "_next") (.var "order")))
  (.seq (.setSub (.attr (.var "self") "_next") (.var "order") (.var "root"))
  (.seq (.assign (.one "order") (.var "parent"))
  .done))))
 (.seq (.retS (.var "root"))
 .done))))⟩
def f_finalize_emphasis_tokens : Fn := ⟨["tokens", "enabled", "max_depth"],
 (.seq (.ifS (.cmp .gt (.bcall "len" (.cons (.var "tokens") .nil)) (.int 1))
  (.seq (.assign (.one "tokens") (.call "_coalesce_emphasis_text" (.cons (.var "tokens") .nil)))
  .done)
  .done)
 (.seq (.ifS (.ors (.cons (.lnot (.var "enabled")) (.cons (.lnot (.call "_contains_emphasis_marker" (.cons (.var "tokens") .nil))) .nil)))
  (.seq (.retS (.comp [] (.call "_clean_emphasis_token" (.cons (.var "token") .nil)) (.one "token") (.var "tokens") .nil))
  .done)
  .done)
 (.seq (.assign (.one "parts") (.list .nil))
 (.seq (.assign (.one "delimiters") (.list .nil))
 (.seq (.assign (.one "source") (.call "_emphasis_source_text" (.cons (.var "tokens") .nil)))
 (.seq (.assign (.one "source_pos") (.int 0))
 (.seq (.forS (.one "token") (.var "tokens")
  (.seq (.ifS (.ands (.cons (.cmp .eq (.dget (.var "token") "type") (.str [116, 101, 120, 116])) (.cons (.dgetd (.var "token") "_emphasis" (.bool true)) .nil)))
   (.seq (.expr (.call "_split_text_token" (.cons (.var "token") (.cons (.var "source") (.cons (.var "source_pos") (.cons (.var "parts") (.cons (.var "delimiters") .nil)))))))
   .done)
   (.seq (.expr (.bmeth (.var "parts") "append" (.cons (.call "_clean_emphasis_token" (.cons (.var "token") .nil)) .nil)))
   .done))
  (.seq (.aug "source_pos" .add (.call "_emphasis_source_length" (.cons (.var "token") .nil)))
  .done)))
 (.seq (.ifS (.call "_process_dense_emphasis" (.cons (.var "parts") (.cons (.var "delimiters") .nil)))
  (.seq (.retS (.call "_merge_text_tokens" (.cons (.var "parts") .nil)))
  .done)
  .done)
 (.seq (.expr (.call "_process_emphasis_delimiters" (.cons (.var "parts") (.cons (.var "delimiters") (.cons (.var "max_depth") .nil)))))
 (.seq (.retS (.call "_merge_text_tokens" (.cons (.var "parts") .nil)))
 .done))))))))))⟩
def f_coalesce_emphasis_text : Fn := ⟨["tokens"],
 (.seq (.assign (.one "result") (.list .nil))
 (.seq (.assign (.one "chunks") (.list .nil))
 (.seq (.assign (.one "enabled") (.bool true))
 (.seq (.defn "flush")
 (.seq (.forS (.one "token") (.var "tokens")
  (.seq (.ifS (.cmp .ne (.dget (.var "token") "type") (.str [116, 101, 120, 116]))
   (.seq (.expr (.callLoc "flush" .nil))
   (.seq (.expr (.bmeth (.var "result") "append" (.cons (.var "token") .nil)))
   .done))
   (.seq (.assign (.one "mode") (.dgetd (.var "token") "_emphasis" (.bool true)))
   (.seq (.ifS (.ors (.cons (.cmp .ne (.var "mode") (.var "enabled")) (.cons (.ands (.cons (.var "chunks") (.cons (.call "is_entity_boundary" (.cons (.sub (.var "chunks") (.neg (.int 1))) (.cons (.dget (.var "token") "raw") .nil))) .nil))) .nil)))
    (.seq (.expr (.callLoc "flush" .nil))
    .done)
    .done)
   (.seq (.assign (.one "enabled") (.var "mode"))
   (.seq (.expr (.bmeth (.var "chunks") "append" (.cons (.dget (.var "token") "raw") .nil)))
   .done)))))
  .done))
 (.seq (.expr (.callLoc "flush" .nil))
 (.seq (.retS (.var "result"))
 .done)))))))⟩
def f_coalesce_emphasis_text_flush : Fn := ⟨[],
 (.seq (.ifS (.var "chunks")
  (.seq (.assign (.one "token") (.dict (.kv "type" (.str [116, 101, 120, 116]) (.kv "raw" (.bmeth (.str []) "join" (.cons (.var "chunks") .nil)) .nil))))
  (.seq (.ifS (.lnot (.var "enabled"))
   (.seq (.dset (.var "token") "_emphasis" (.bool false))
   .done)
   .done)
  (.seq (.expr (.bmeth (.var "result") "append" (.cons (.var "token") .nil)))
  (.seq (.expr (.bmeth (.var "chunks") "clear" .nil))
  .done))))
  .done)
 .done)⟩
def f_process_dense_emphasis : Fn := ⟨["parts", "delimiters"],
 (.seq (.ifS (.cmp .lt (.bcall "len" (.cons (.var "delimiters") .nil)) (.int 4))
  (.seq (.retS (.bool false))
  .done)
  .done)
 (.seq (.assign (.one "marker") (.attr (.sub (.var "delimiters") (.int 0)) "marker"))
 (.seq (.ifS (.ors (.cons (.cmp .notin (.var "marker") (.tuple (.cons (.str [42]) (.cons (.str [95]) .nil)))) (.cons (.cmp .ne (.bcall "len" (.cons (.var "parts") .nil)) (.bin .mul (.bcall "len" (.cons (.var "delimiters") .nil)) (.int 2))) .nil)))
  (.seq (.retS (.bool false))
  .done)
  .done)
 (.seq (.forS (.many ["index", "delimiter"]) (.enumE (.var "delimiters"))
  (.seq (.ifS (.ors (.cons (.cmp .ne (.attr (.var "delimiter") "marker") (.var "marker")) (.cons (.cmp .ne (.attr (.var "delimiter") "length") (.int 1)) (.cons (.cmp .ne (.attr (.var "delimiter") "index") (.bin .mul (.var "index") (.int 2))) (.cons (.cmp .ne (.dget (.sub (.var "parts") (.attr (.var "delimiter") "index")) "type") (.str [116, 101, 120, 116])) (.cons (.cmp .ne (.dget (.sub (.var "parts") (.bin .add (.attr (.var "delimiter") "index") (.int 1))) "type") (.str [116, 101, 120, 116])) .nil))))))
   (.seq (.retS (.bool false))
   .done)
   .done)
  .done))
 (.seq (.assign (.one "pair_count") (.bin .fdiv (.bcall "len" (.cons (.var "delimiters") .nil)) (.int 2)))
 (.seq (.assign (.one "processed") (.list .nil))
 (.seq (.forS (.one "pair_index") (.rng (.int 0) (.var "pair_count") true)
  (.seq (.assign (.one "opener") (.sub (.var "delimiters") (.bin .mul (.var "pair_index") (.int 2))))
  (.seq (.assign (.one "closer") (.sub (.var "delimiters") (.bin .add (.bin .mul (.var "pair_index") (.int 2)) (.int 1))))
  (.seq (.ifS (.ors (.cons (.lnot (.attr (.var "opener") "can_open")) (.cons (.lnot (.attr (.var "closer") "can_close")) (.cons (.lnot (.call "_can_match_emphasis_delimiters" (.cons (.var "opener") (.cons (.var "closer") .nil)))) (.cons (.lnot (.call "_has_emphasis_content" (.cons (.var "parts") (.cons (.bin .add (.attr (.var "opener") "index") (.int 1)) (.cons (.attr (.var "closer") "index") .nil))))) .nil)))))
   (.seq (.retS (.bool false))
   .done)
   .done)
  (.seq (.ifS (.var "pair_index")
   (.seq (.expr (.bmeth (.var "processed") "append" (.cons (.sub (.var "parts") (.bin .sub (.attr (.var "opener") "index") (.int 1))) .nil)))
   .done)
   .done)
  (.seq (.expr (.bmeth (.var "processed") "append" (.cons (.dict (.kv "type" (.str [101, 109, 112, 104, 97, 115, 105, 115]) (.kv "children" (.list (.cons (.sub (.var "parts") (.bin .add (.attr (.var "opener") "index") (.int 1))) .nil)) .nil))) .nil)))
  .done))))))
 (.seq (.ifS (.var "pair_count")
  (.seq (.assign (.one "last_close") (.attr (.sub (.var "delimiters") (.bin .sub (.bin .mul (.var "pair_count") (.int 2)) (.int 1))) "index"))
  (.seq (.setSlice (.var "parts") .nil .nil (.bin .add (.var "processed") (.slice (.var "parts") (.bin .add (.var "last_close") (.int 1)) .nil)))
  .done))
  .done)
 (.seq (.retS (.bool true))
 .done)))))))))⟩
def f_contains_emphasis_marker : Fn := ⟨["tokens"],
 (.seq (.forS (.one "token") (.var "tokens")
  (.seq (.ifS (.ands (.cons (.cmp .eq (.dget (.var "token") "type") (.str [116, 101, 120, 116])) (.cons (.dgetd (.var "token") "_emphasis" (.bool true)) .nil)))
   (.seq (.assign (.one "raw") (.dget (.var "token") "raw"))
   (.seq (.ifS (.ors (.cons (.cmp .isin (.str [42]) (.var "raw")) (.cons (.cmp .isin (.str [95]) (.var "raw")) .nil)))
    (.seq (.retS (.bool true))
    .done)
    .done)
   .done))
   .done)
  .done))
 (.seq (.retS (.bool false))
 .done))⟩
def f_clean_emphasis_token : Fn := ⟨["token"],
 (.seq (.ifS (.ands (.cons (.dhasnt "_emphasis" (.var "token")) (.cons (.dhasnt "_autolink" (.var "token")) .nil)))
  (.seq (.retS (.var "token"))
  .done)
  .done)
 (.seq (.assign (.one "token") (.bmeth (.var "token") "copy" .nil))
 (.seq (.expr (.dpop (.var "token") "_emphasis" .non))
 (.seq (.expr (.dpop (.var "token") "_autolink" .non))
 (.seq (.retS (.var "token"))
 .done)))))⟩
def f_emphasis_source_text : Fn := ⟨["tokens"],
 (.seq (.assign (.one "values") (.list .nil))
 (.seq (.forS (.one "token") (.var "tokens")
  (.seq (.ifS (.cmp .eq (.dget (.var "token") "type") (.str [116, 101, 120, 116]))
   (.seq (.expr (.bmeth (.var "values") "append" (.cons (.dget (.var "token") "raw") .nil)))
   .done)
   (.seq (.ifS (.cmp .isin (.dget (.var "token") "type") (.tuple (.cons (.str [115, 111, 102, 116, 98, 114, 101, 97, 107]) (.cons (.str [108, 105, 110, 101, 98, 114, 101, 97, 107]) .nil))))
    (.seq (.expr (.bmeth (.var "values") "append" (.cons (.str [10]) .nil)))
    .done)
    (.seq (.expr (.bmeth (.var "values") "append" (.cons (.str [65532]) .nil)))
    .done))
   .done))
  .done))
 (.seq (.retS (.bmeth (.str []) "join" (.cons (.var "values") .nil)))
 .done)))⟩
def f_emphasis_source_length : Fn := ⟨["token"],
 (.seq (.ifS (.cmp .eq (.dget (.var "token") "type") (.str [116, 101, 120, 116]))
  (.seq (.retS (.bcall "len" (.cons (.dget (.var "token") "raw") .nil)))
  .done)
  .done)
 (.seq (.retS (.int 1))
 .done))⟩
def f_split_text_token : Fn := ⟨["token", "source", "source_start", "parts", "delimiters"],
 (.seq (.assign (.one "text") (.dget (.var "token") "raw"))
 (.seq (.assign (.one "pos") (.int 0))
 (.seq (.whileS (.cmp .lt (.var "pos") (.bcall "len" (.cons (.var "text") .nil)))
  (.seq (.ifS (.cmp .notin (.sub (.var "text") (.var "pos")) (.str [42, 95]))
   (.seq (.assign (.one "end") (.call "_next_delimiter_run" (.cons (.var "text") (.cons (.var "pos") .nil))))
   (.seq (.expr (.bmeth (.var "parts") "append" (.cons (.dict (.kv "type" (.str [116, 101, 120, 116]) (.kv "raw" (.slice (.var "text") (.var "pos") (.var "end")) .nil))) .nil)))
   (.seq (.assign (.one "pos") (.var "end"))
   (.seq .contS
   .done))))
   .done)
  (.seq (.assign (.one "marker") (.sub (.var "text") (.var "pos")))
  (.seq (.assign (.one "end") (.var "pos"))
  (.seq (.whileS (.ands (.cons (.cmp .lt (.var "end") (.bcall "len" (.cons (.var "text") .nil))) (.cons (.cmp .eq (.sub (.var "text") (.var "end")) (.var "marker")) .nil)))
   (.seq (.aug "end" .add (.int 1))
   .done))
  (.seq (.assign (.one "length") (.bin .sub (.var "end") (.var "pos")))
  (.seq (.assign (.one "absolute") (.bin .add (.var "source_start") (.var "pos")))
  (.seq (.assign (.one "can_open") (.call "_can_open_emphasis" (.cons (.var "source") (.cons (.var "absolute") (.cons (.var "length") (.cons (.var "marker") .nil))))))
  (.seq (.assign (.one "can_close") (.call "_can_close_emphasis" (.cons (.var "source") (.cons (.var "absolute") (.cons (.var "length") (.cons (.var "marker") .nil))))))
  (.seq (.assign (.one "index") (.bcall "len" (.cons (.var "parts") .nil)))
  (.seq (.expr (.bmeth (.var "parts") "append" (.cons (.dict (.kv "type" (.str [116, 101, 120, 116]) (.kv "raw" (.slice (.var "text") (.var "pos") (.var "end")) .nil))) .nil)))
  (.seq (.ifS (.ors (.cons (.var "can_open") (.cons (.var "can_close") .nil)))
   (.seq (.expr (.bmeth (.var "delimiters") "append" (.cons (.new "_Delimiter" (.cons (.var "index") (.cons (.var "marker") (.cons (.var "length") (.cons (.var "can_open") (.cons (.var "can_close") (.cons (.var "length") (.cons (.bcall "len" (.cons (.var "delimiters") .nil)) .nil)))))))) .nil)))
   .done)
   .done)
  (.seq (.assign (.one "pos") (.var "end"))
  .done)))))))))))))
 .done)))⟩
def f_next_delimiter_run : Fn := ⟨["text", "pos"],
 (.seq (.whileS (.ands (.cons (.cmp .lt (.var "pos") (.bcall "len" (.cons (.var "text") .nil))) (.cons (.cmp .notin (.sub (.var "text") (.var "pos")) (.str [42, 95])) .nil)))
  (.seq (.aug "pos" .add (.int 1))
  .done))
 (.seq (.retS (.var "pos"))
 .done))⟩
def f_process_emphasis_delimiters : Fn := ⟨["parts", "delimiters", "max_depth"],
 (.seq (.assign (.one "index_map") (.new "_DelimiterIndex" (.cons (.var "delimiters") (.cons (.bcall "len" (.cons (.var "parts") .nil)) .nil))))
 (.seq (.assign (.one "closer_pos") (.int 0))
 (.seq (.assign (.one "openers_bottom") .tdict)
 (.seq (.whileS (.cmp .lt (.var "closer_pos") (.bcall "len" (.cons (.var "delimiters") .nil)))
  (.seq (.assign (.one "closer") (.sub (.var "delimiters") (.var "closer_pos")))
  (.seq (.ifS (.ors (.cons (.lnot (.attr (.var "closer") "can_close")) (.cons (.cmp .eq (.attr (.var "closer") "length") (.int 0)) .nil)))
   (.seq (.aug "closer_pos" .add (.int 1))
   (.seq .contS
   .done))
   .done)
  (.seq (.assign (.one "opener_key") (.tuple (.cons (.attr (.var "closer") "marker") (.cons (.bin .mod (.attr (.var "closer") "length") (.int 3)) (.cons (.attr (.var "closer") "can_open") .nil)))))
  (.seq (.assign (.one "opener_bottom") (.bmeth (.var "openers_bottom") "get" (.cons (.var "opener_key") (.cons (.int 0) .nil))))
  (.seq (.assign (.one "match") (.call "_find_emphasis_opener" (.cons (.var "delimiters") (.cons (.var "closer_pos") (.cons (.var "closer") (.cons (.var "opener_bottom") .nil))))))
  (.seq (.ifS (.isNone (.var "match"))
   (.seq (.setSub (.var "openers_bottom") (.var "opener_key") (.var "closer_pos"))
   (.seq (.aug "closer_pos" .add (.int 1))
   (.seq .contS
   .done)))
   .done)
  (.seq (.assign (.many ["opener_pos", "opener"]) (.var "match"))
  (.seq (.assign (.one "opener_index") (.umeth (.var "index_map") "current" (.cons (.var "opener") .nil)))
  (.seq (.assign (.one "closer_index") (.umeth (.var "index_map") "current" (.cons (.var "closer") .nil)))
  (.seq (.assign (.one "use_length") (.call "_get_emphasis_use_length" (.cons (.var "parts") (.cons (.var "opener") (.cons (.var "closer") (.cons (.var "opener_index") (.cons (.var "closer_index") .nil)))))))
  (.seq (.assign (.one "children") (.call "_get_emphasis_children" (.cons (.var "parts") (.cons (.var "opener_index") (.cons (.var "closer_index") (.cons (.var "max_depth") .nil))))))
  (.seq (.ifS (.ors (.cons (.isNone (.var "use_length")) (.cons (.isNone (.var "children")) .nil)))
   (.seq (.aug "closer_pos" .add (.int 1))
   (.seq .contS
   .done))
   .done)
  (.seq (.expr (.call "_apply_emphasis_match" (.cons (.var "parts") (.cons (.var "delimiters") (.cons (.var "index_map") (.cons (.var "opener") (.cons (.var "closer") (.cons (.var "opener_pos") (.cons (.var "closer_pos") (.cons (.var "opener_index") (.cons (.var "closer_index") (.cons (.var "use_length") (.cons (.var "children") .nil)))))))))))))
  (.seq (.ifS (.ors (.cons (.attr (.var "opener") "can_open") (.cons (.attr (.var "closer") "can_close") .nil)))
   (.seq (.assign (.one "closer_pos") (.bcall "max" (.cons (.var "opener_pos") (.cons (.bmeth (.var "openers_bottom") "get" (.cons (.var "opener_key") (.cons (.int 0) .nil))) .nil))))
   .done)
   (.seq (.aug "closer_pos" .add (.int 1))
   .done))
  .done)))))))))))))))
 .done))))⟩
def f_find_emphasis_opener : Fn := ⟨["delimiters", "closer_pos", "closer", "opener_bottom"],
 (.seq (.assign (.one "opener_pos") (.bin .sub (.var "closer_pos") (.int 1)))
 (.seq (.whileS (.cmp .ge (.var "opener_pos") (.var "opener_bottom"))
  (.seq (.assign (.one "opener") (.sub (.var "delimiters") (.var "opener_pos")))
  (.seq (.ifS (.ands (.cons (.cmp .eq (.attr (.var "opener") "marker") (.attr (.var "closer") "marker")) (.cons (.attr (.var "opener") "can_open") (.cons (.cmp .gt (.attr (.var "opener") "length") (.int 0)) (.cons (.call "_can_match_emphasis_delimiters" (.cons (.var "opener") (.cons (.var "closer") .nil))) .nil)))))
   (.seq (.retS (.tuple (.cons (.var "opener_pos") (.cons (.var "opener") .nil))))
   .done)
   .done)
  (.seq (.aug "opener_pos" .sub (.int 1))
  .done))))
 (.seq (.retS .non)
 .done)))⟩
def f_get_emphasis_use_length : Fn := ⟨["parts", "opener", "closer", "opener_index", "closer_index"],
 (.seq (.assign (.one "use_length") (.ite (.ands (.cons (.cmp .ge (.attr (.var "opener") "length") (.int 2)) (.cons (.cmp .ge (.attr (.var "closer") "length") (.int 2)) .nil))) (.int 2) (.int 1)))
 (.seq (.ifS (.ands (.cons (.cmp .eq (.var "use_length") (.int 2)) (.cons (.lnot (.call "_has_strong_enabled" (.cons (.var "parts") (.cons (.var "opener_index") (.cons (.var "closer_index") .nil))))) .nil)))
  (.seq (.assign (.one "use_length") (.int 1))
  .done)
  .done)
 (.seq (.ifS (.ands (.cons (.cmp .eq (.var "use_length") (.int 1)) (.cons (.lnot (.call "_has_emphasis_enabled" (.cons (.var "parts") (.cons (.var "opener_index") (.cons (.var "closer_index") .nil))))) .nil)))
  (.seq (.retS .non)
  .done)
  .done)
 (.seq (.retS (.var "use_length"))
 .done))))⟩
def f_get_emphasis_children : Fn := ⟨["parts", "opener_index", "closer_index", "max_depth"],
 (.seq (.ifS (.lnot (.call "_has_emphasis_content" (.cons (.var "parts") (.cons (.bin .add (.var "opener_index") (.int 1)) (.cons (.var "closer_index") .nil)))))
  (.seq (.retS .non)
  .done)
  .done)
 (.seq (.assign (.one "opener_text") (.sub (.var "parts") (.var "opener_index")))
 (.seq (.assign (.one "closer_text") (.sub (.var "parts") (.var "closer_index")))
 (.seq (.ifS (.ors (.cons (.cmp .ne (.dget (.var "opener_text") "type") (.str [116, 101, 120, 116])) (.cons (.cmp .ne (.dget (.var "closer_text") "type") (.str [116, 101, 120, 116])) .nil)))
  (.seq (.retS .non)
  .done)
  .done)
 (.seq (.assign (.one "children") (.slice (.var "parts") (.bin .add (.var "opener_index") (.int 1)) (.var "closer_index")))
 (.seq (.ifS (.ands (.cons (.cmp .gt (.var "max_depth") (.int 0)) (.cons (.cmp .ge (.call "token_depth" (.cons (.var "children") .nil)) (.var "max_depth")) .nil)))
  (.seq (.retS .non)
  .done)
  .done)
 (.seq (.retS (.var "children"))
 .done)))))))⟩
def f_apply_emphasis_match : Fn := ⟨["parts", "delimiters", "index_map", "opener", "closer", "opener_pos", "closer_pos", "opener_index", "closer_index", "use_length", "children"],
 (.seq (.assign (.one "opener_text") (.sub (.var "parts") (.var "opener_index")))
 (.seq (.assign (.one "closer_text") (.sub (.var "parts") (.var "closer_index")))
 (.seq (.dset (.var "opener_text") "raw" (.slice (.dget (.var "opener_text") "raw") .nil (.neg (.var "use_length"))))
 (.seq (.dset (.var "closer_text") "raw" (.slice (.dget (.var "closer_text") "raw") (.var "use_length") .nil))
 (.seq (.assign (.one "node_type") (.ite (.cmp .eq (.var "use_length") (.int 2)) (.str [115, 116, 114, 111, 110, 103]) (.str [101, 109, 112, 104, 97, 115, 105, 115])))
 (.seq (.setSlice (.var "parts") (.bin .add (.var "opener_index") (.int 1)) (.var "closer_index") (.list (.cons (.dict (.kv "type" (.var "node_type") (.kv "children" (.var "children") .nil))) .nil)))
 (.seq (.assign (.one "removed") (.bin .sub (.bin .sub (.var "closer_index") (.var "opener_index")) (.int 2)))
 (.seq (.ifS (.var "removed")
  (.seq (.expr (.umeth (.var "index_map") "deactivate_range" (.cons (.var "delimiters") (.cons (.bin .add (.var "opener_pos") (.int 1)) (.cons (.var "closer_pos") .nil)))))
  (.seq (.expr (.umeth (.var "index_map") "collapse" (.cons (.var "closer") (.cons (.var "removed") .nil))))
  .done))
  .done)
 (.seq (.augAttr (.var "opener") "length" .sub (.var "use_length"))
 (.seq (.augAttr (.var "closer") "length" .sub (.var "use_length"))
 (.seq (.ifS (.cmp .eq (.attr (.var "opener") "length") (.int 0))
  (.seq (.setAttr (.var "opener") "can_open" (.bool false))
  (.seq (.expr (.umeth (.var "index_map") "deactivate" (.cons (.attr (.var "opener") "order") .nil)))
  .done))
  .done)
 (.seq (.ifS (.cmp .eq (.attr (.var "closer") "length") (.int 0))
  (.seq (.setAttr (.var "closer") "can_close" (.bool false))
  (.seq (.expr (.umeth (.var "index_map") "deactivate" (.cons (.attr (.var "closer") "order") .nil)))
  .done))
  .done)
 .done))))))))))))⟩
def f_has_strong_enabled : Fn := ⟨["parts", "opener_index", "closer_index"],
 (.seq (.retS (.ands (.cons (.cmp .ge (.bcall "len" (.cons (.call "_text_raw" (.cons (.sub (.var "parts") (.var "opener_index")) .nil)) .nil)) (.int 2)) (.cons (.cmp .ge (.bcall "len" (.cons (.call "_text_raw" (.cons (.sub (.var "parts") (.var "closer_index")) .nil)) .nil)) (.int 2)) .nil))))
 .done)⟩
def f_has_emphasis_enabled : Fn := ⟨["parts", "opener_index", "closer_index"],
 (.seq (.retS (.bcall "bool" (.cons (.ands (.cons (.call "_text_raw" (.cons (.sub (.var "parts") (.var "opener_index")) .nil)) (.cons (.call "_text_raw" (.cons (.sub (.var "parts") (.var "closer_index")) .nil)) .nil))) .nil)))
 .done)⟩
def f_text_raw : Fn := ⟨["token"],
 (.seq (.ifS (.cmp .eq (.dget (.var "token") "type") (.str [116, 101, 120, 116]))
  (.seq (.retS (.dget (.var "token") "raw"))
  .done)
  .done)
 (.seq (.retS (.str []))
 .done))⟩
def f_has_emphasis_content : Fn := ⟨["parts", "start", "end"],
 (.seq (.forS (.one "part") (.slice (.var "parts") (.var "start") (.var "end"))
  (.seq (.ifS (.ors (.cons (.cmp .ne (.dget (.var "part") "type") (.str [116, 101, 120, 116])) (.cons (.cmp .ne (.dget (.var "part") "raw") (.str [])) .nil)))
   (.seq (.retS (.bool true))
   .done)
   .done)
  .done))
 (.seq (.retS (.bool false))
 .done))⟩
def f_can_match_emphasis_delimiters : Fn := ⟨["opener", "closer"],
 (.seq (.ifS (.ors (.cons (.attr (.var "opener") "can_close") (.cons (.attr (.var "closer") "can_open") .nil)))
  (.seq (.assign (.one "open_len") (.attr (.var "opener") "orig_length"))
  (.seq (.assign (.one "close_len") (.attr (.var "closer") "orig_length"))
  (.seq (.retS (.ors (.cons (.cmp .ne (.bin .mod (.bin .add (.var "open_len") (.var "close_len")) (.int 3)) (.int 0)) (.cons (.ands (.cons (.cmp .eq (.bin .mod (.var "open_len") (.int 3)) (.int 0)) (.cons (.cmp .eq (.bin .mod (.var "close_len") (.int 3)) (.int 0)) .nil))) .nil))))
  .done)))
  .done)
 (.seq (.retS (.bool true))
 .done))⟩
def f_can_open_emphasis : Fn := ⟨["text", "start", "size", "marker"],
 (.seq (.assign (.one "previous") (.ite (.cmp .gt (.var "start") (.int 0)) (.sub (.var "text") (.bin .sub (.var "start") (.int 1))) (.str [10])))
 (.seq (.assign (.one "next_char") (.ite (.cmp .lt (.bin .add (.var "start") (.var "size")) (.bcall "len" (.cons (.var "text") .nil))) (.sub (.var "text") (.bin .add (.var "start") (.var "size"))) (.str [10])))
 (.seq (.ifS (.ands (.cons (.cmp .eq (.var "marker") (.str [95])) (.cons (.bmeth (.var "previous") "isalnum" .nil) (.cons (.bmeth (.var "next_char") "isalnum" .nil) .nil))))
  (.seq (.retS (.bool false))
  .done)
  .done)
 (.seq (.ifS (.bmeth (.var "next_char") "isspace" .nil)
  (.seq (.retS (.bool false))
  .done)
  .done)
 (.seq (.ifS (.ands (.cons (.call "_is_punctuation" (.cons (.var "next_char") .nil)) (.cons (.lnot (.bmeth (.var "previous") "isspace" .nil)) (.cons (.lnot (.call "_is_punctuation" (.cons (.var "previous") .nil))) .nil))))
  (.seq (.retS (.bool false))
  .done)
  .done)
 (.seq (.retS (.bool true))
 .done))))))⟩
def f_can_close_emphasis : Fn := ⟨["text", "start", "size", "marker"],
 (.seq (.assign (.one "previous") (.ite (.cmp .gt (.var "start") (.int 0)) (.sub (.var "text") (.bin .sub (.var "start") (.int 1))) (.str [10])))
 (.seq (.assign (.one "next_char") (.ite (.cmp .lt (.bin .add (.var "start") (.var "size")) (.bcall "len" (.cons (.var "text") .nil))) (.sub (.var "text") (.bin .add (.var "start") (.var "size"))) (.str [10])))
 (.seq (.ifS (.ands (.cons (.cmp .eq (.var "marker") (.str [95])) (.cons (.bmeth (.var "previous") "isalnum" .nil) (.cons (.bmeth (.var "next_char") "isalnum" .nil) .nil))))
  (.seq (.retS (.bool false))
  .done)
  .done)
 (.seq (.ifS (.bmeth (.var "previous") "isspace" .nil)
  (.seq (.retS (.bool false))
  .done)
  .done)
 (.seq (.ifS (.ands (.cons (.call "_is_punctuation" (.cons (.var "previous") .nil)) (.cons (.lnot (.bmeth (.var "next_char") "isspace" .nil)) (.cons (.lnot (.call "_is_punctuation" (.cons (.var "next_char") .nil))) .nil))))
  (.seq (.retS (.bool false))
  .done)
  .done)
 (.seq (.retS (.bool true))
 .done))))))⟩
def f_is_punctuation : Fn := ⟨["char"],
 (.seq (.retS (.ands (.cons (.lnot (.bmeth (.var "char") "isspace" .nil)) (.cons (.lnot (.bmeth (.var "char") "isalnum" .nil)) .nil))))
 .done)⟩
def f_merge_text_tokens : Fn := ⟨["tokens"],
 (.seq (.assign (.one "result") (.list .nil))
 (.seq (.assign (.one "chunks") (.list .nil))
 (.seq (.forS (.one "token") (.var "tokens")
  (.seq (.ifS (.cmp .eq (.dget (.var "token") "type") (.str [116, 101, 120, 116]))
   (.seq (.assign (.one "raw") (.dget (.var "token") "raw"))
   (.seq (.ifS (.lnot (.var "raw"))
    (.seq .contS
    .done)
    .done)
   (.seq (.ifS (.ands (.cons (.var "chunks") (.cons (.call "is_entity_boundary" (.cons (.sub (.var "chunks") (.neg (.int 1))) (.cons (.var "raw") .nil))) .nil)))
    (.seq (.expr (.bmeth (.var "result") "append" (.cons (.dict (.kv "type" (.str [116, 101, 120, 116]) (.kv "raw" (.bmeth (.str []) "join" (.cons (.var "chunks") .nil)) .nil))) .nil)))
    (.seq (.assign (.one "chunks") (.list .nil))
    .done))
    .done)
   (.seq (.expr (.bmeth (.var "chunks") "append" (.cons (.var "raw") .nil)))
   .done))))
   (.seq (.ifS (.var "chunks")
    (.seq (.expr (.bmeth (.var "result") "append" (.cons (.dict (.kv "type" (.str [116, 101, 120, 116]) (.kv "raw" (.bmeth (.str []) "join" (.cons (.var "chunks") .nil)) .nil))) .nil)))
    (.seq (.assign (.one "chunks") (.list .nil))
    .done))
    .done)
   (.seq (.expr (.bmeth (.var "result") "append" (.cons (.call "_clean_emphasis_token" (.cons (.var "token") .nil)) .nil)))
   .done)))
  .done))
 (.seq (.ifS (.var "chunks")
  (.seq (.expr (.bmeth (.var "result") "append" (.cons (.dict (.kv "type" (.str [116, 101, 120, 116]) (.kv "raw" (.bmeth (.str []) "join" (.cons (.var "chunks") .nil)) .nil))) .nil)))
  .done)
  .done)
 (.seq (.retS (.var "result"))
 .done)))))⟩
def f_law_told : Fn := ⟨["tokens"],
 (.seq (.assign (.one "out") (.str []))
 (.seq (.forS (.one "token") (.var "tokens")
  (.seq (.ifS (.cmp .eq (.dget (.var "token") "type") (.str [116, 101, 120, 116]))
   (.seq (.aug "out" .add (.dget (.var "token") "raw"))
   .done)
   (.seq (.ifS (.cmp .eq (.dget (.var "token") "type") (.str [101, 109, 112, 104, 97, 115, 105, 115]))
    (.seq (.aug "out" .add (.bin .add (.bin .add (.str [60]) (.call "_law_told" (.cons (.dget (.var "token") "children") .nil))) (.str [62])))
    .done)
    (.seq (.aug "out" .add (.bin .add (.bin .add (.str [123]) (.call "_law_told" (.cons (.dget (.var "token") "children") .nil))) (.str [125])))
    .done))
   .done))
  .done))
 (.seq (.retS (.var "out"))
 .done)))⟩
def f_law : Fn := ⟨["script"],
 (.seq (.assign (.one "cells") (.bin .add (.slice (.var "script") .nil (.int 17)) (.slice (.list (.cons (.int 0) .nil)) (.bcall "len" (.cons (.slice (.var "script") .nil (.int 1)) .nil)) .nil)))
 (.seq (.swap (.many ["stars", "bars"]) (.tuple (.cons (.bin .mul (.str [42]) (.bin .add (.int 1) (.bin .mod (.sub (.var "cells") (.int 0)) (.int 2)))) (.cons (.bin .mul (.str [95]) (.bin .add (.int 1) (.bin .mod (.bin .fdiv (.sub (.var "cells") (.int 0)) (.int 2)) (.int 2)))) .nil))))
 (.seq (.assign (.one "pieces") (.list .nil))
 (.seq (.forS (.one "cell") (.slice (.var "cells") (.int 1) .nil)
  (.seq (.assign (.one "piece") (.sub (.list (.cons (.str [97]) (.cons (.str [97]) (.cons (.str [32]) (.cons (.str [46]) (.cons (.var "stars") (.cons (.var "bars") .nil))))))) (.bin .mod (.var "cell") (.int 6))))
  (.seq (.expr (.bmeth (.var "pieces") "append" (.cons (.ite (.ands (.cons (.var "pieces") (.cons (.cmp .isin (.var "piece") (.tuple (.cons (.var "stars") (.cons (.var "bars") .nil)))) (.cons (.cmp .eq (.var "piece") (.sub (.var "pieces") (.neg (.int 1)))) .nil)))) (.str [97]) (.var "piece")) .nil)))
  .done)))
 (.seq (.swap (.many ["out", "opened"]) (.tuple (.cons (.list .nil) (.cons (.list .nil) .nil))))
 (.seq (.forS (.one "k") (.rng (.int 0) (.bcall "len" (.cons (.var "pieces") .nil)) true)
  (.seq (.assign (.one "piece") (.sub (.var "pieces") (.var "k")))
  (.seq (.assign (.one "before") (.ite (.cmp .gt (.var "k") (.int 0)) (.sub (.sub (.var "pieces") (.bin .sub (.var "k") (.int 1))) (.neg (.int 1))) (.str [10])))
  (.seq (.assign (.one "behind") (.ite (.cmp .lt (.bin .add (.var "k") (.int 1)) (.bcall "len" (.cons (.var "pieces") .nil))) (.sub (.sub (.var "pieces") (.bin .add (.var "k") (.int 1))) (.int 0)) (.str [10])))
  (.seq (.assign (.one "left") (.ands (.cons (.cmp .notin (.var "behind") (.str [32, 10])) (.cons (.ors (.cons (.cmp .eq (.var "behind") (.str [97])) (.cons (.cmp .ne (.var "before") (.str [97])) .nil))) .nil))))
  (.seq (.assign (.one "right") (.ands (.cons (.cmp .notin (.var "before") (.str [32, 10])) (.cons (.ors (.cons (.cmp .eq (.var "before") (.str [97])) (.cons (.cmp .ne (.var "behind") (.str [97])) .nil))) .nil))))
  (.seq (.assign (.one "opens") (.ands (.cons (.cmp .isin (.var "piece") (.tuple (.cons (.var "stars") (.cons (.var "bars") .nil)))) (.cons (.var "left") .nil))))
  (.seq (.assign (.one "closes") (.ands (.cons (.cmp .isin (.var "piece") (.tuple (.cons (.var "stars") (.cons (.var "bars") .nil)))) (.cons (.var "right") .nil))))
  (.seq (.ifS (.cmp .eq (.var "piece") (.var "bars"))
   (.seq (.assign (.one "opens") (.ands (.cons (.var "left") (.cons (.ors (.cons (.lnot (.var "right")) (.cons (.cmp .isin (.var "before") (.str [46, 42, 95])) .nil))) .nil))))
   (.seq (.assign (.one "closes") (.ands (.cons (.var "right") (.cons (.ors (.cons (.lnot (.var "left")) (.cons (.cmp .isin (.var "behind") (.str [46, 42, 95])) .nil))) .nil))))
   .done))
   .done)
  (.seq (.assign (.one "fitting") (.comp ["piece", "pieces", "opened"] (.var "j") (.one "j") (.rng (.int 0) (.bcall "len" (.cons (.var "opened") .nil)) true) (.cmp .eq (.sub (.var "pieces") (.sub (.sub (.var "opened") (.var "j")) (.int 0))) (.var "piece"))))
  (.seq (.ifS (.ands (.cons (.var "closes") (.cons (.var "fitting") .nil)))
   (.seq (.assign (.one "at") (.sub (.sub (.var "opened") (.sub (.var "fitting") (.neg (.int 1)))) (.int 1)))
   (.seq (.assign (.one "ends") (.ite (.cmp .eq (.bcall "len" (.cons (.var "piece") .nil)) (.int 1)) (.str [60, 62]) (.str [123, 125])))
   (.seq (.assign (.one "out") (.bin .add (.slice (.var "out") .nil (.var "at")) (.list (.cons (.bin .add (.bin .add (.sub (.var "ends") (.int 0)) (.bmeth (.str []) "join" (.cons (.slice (.var "out") (.bin .add (.var "at") (.int 1)) .nil) .nil))) (.sub (.var "ends") (.int 1))) .nil))))
   (.seq (.assign (.one "opened") (.slice (.var "opened") .nil (.sub (.var "fitting") (.neg (.int 1)))))
   .done))))
   (.seq (.ifS (.var "opens")
    (.seq (.expr (.bmeth (.var "opened") "append" (.cons (.tuple (.cons (.var "k") (.cons (.bcall "len" (.cons (.var "out") .nil)) .nil))) .nil)))
    .done)
    .done)
   (.seq (.expr (.bmeth (.var "out") "append" (.cons (.var "piece") .nil)))
   .done)))
  .done)))))))))))
 (.seq (.retS (.cmp .eq (.call "_law_told" (.cons (.call "finalize_emphasis_tokens" (.cons (.list (.cons (.dict (.kv "type" (.str [116, 101, 120, 116]) (.kv "raw" (.bmeth (.str []) "join" (.cons (.var "pieces") .nil)) .nil))) .nil)) (.cons (.bool true) (.cons (.int 20) .nil)))) .nil)) (.bmeth (.str []) "join" (.cons (.var "out") .nil))))
 .done)))))))⟩
def ptab : List (String × Fn) := [("token_depth", f_token_depth), ("is_entity_boundary", f_is_entity_boundary), ("_Delimiter.__init__", f_Delimiter___init__), ("_DelimiterIndex.__init__", f_DelimiterIndex___init__), ("_DelimiterIndex.current", f_DelimiterIndex_current), ("_DelimiterIndex.collapse", f_DelimiterIndex_collapse), ("_DelimiterIndex.deactivate", f_DelimiterIndex_deactivate), ("_DelimiterIndex.deactivate_range", f_DelimiterIndex_deactivate_range), ("_DelimiterIndex._find", f_DelimiterIndex__find), ("finalize_emphasis_tokens", f_finalize_emphasis_tokens), ("_process_dense_emphasis", f_process_dense_emphasis), ("_contains_emphasis_marker", f_contains_emphasis_marker), ("_clean_emphasis_token", f_clean_emphasis_token), ("_emphasis_source_text", f_emphasis_source_text), ("_emphasis_source_length", f_emphasis_source_length), ("_split_text_token", f_split_text_token), ("_next_delimiter_run", f_next_delimiter_run), ("_process_emphasis_delimiters", f_process_emphasis_delimiters), ("_find_emphasis_opener", f_find_emphasis_opener), ("_get_emphasis_use_length", f_get_emphasis_use_length), ("_get_emphasis_children", f_get_emphasis_children), ("_apply_emphasis_match", f_apply_emphasis_match), ("_has_strong_enabled", f_has_strong_enabled), ("_has_emphasis_enabled", f_has_emphasis_enabled), ("_text_raw", f_text_raw), ("_has_emphasis_content", f_has_emphasis_content), ("_can_match_emphasis_delimiters", f_can_match_emphasis_delimiters), ("_can_open_emphasis", f_can_open_emphasis), ("_can_close_emphasis", f_can_close_emphasis), ("_is_punctuation", f_is_punctuation), ("_merge_text_tokens", f_merge_text_tokens), ("_law_told", f_law_told), ("law", f_law)]
def prog (g : String) : Option Fn := ptab.lookup g
end Mine.P1
end

/-! W0 -/
section
set_option linter.unusedVariables false
set_option linter.unusedSimpArgs false
namespace Mine
/-! running the small language: one rule for each form -/
theorem params_nil {y : String} : params [] [] y = none := rfl
theorem params_cons {x y : String} {xs : List String} {v : V} {vs : List V} : params (x :: xs) (v :: vs) y = if y = x then some v else params xs vs y := by
  unfold params
  rw [List.zip_cons_cons, List.lookup_cons]
  by_cases h : y = x
  · subst h; simp
  · rw [beq_eq_false_iff_ne.mpr h, if_neg h]
def runS (cf : CallF) (s : S) (ℓ : Loc) (σ : St) : Option (Fl × St) := (execS cf s ℓ σ).map fun r => (r.1, r.2.2)
section
variable {cf : CallF} {ℓ ℓ' : Loc} {σ σ' σ1 σ2 σ3 τ : St} {a b : S} {e i j es d c t f : E} {v w u : V} {vs ws : List V} {x k m g : String} {n p q : Nat} {z y : Int} {o o' : O} {r : V × St} {bb cc : Bool} {fs : List (String × V)} {s s' : List Nat}
theorem run_of {fl : Fl} (h : execS cf a ℓ σ = some (fl, ℓ', σ')) : runS cf a ℓ σ = some (fl, σ') := by unfold runS; rw [h]; rfl
theorem of_run {fl : Fl} (h : runS cf a ℓ σ = some (fl, σ')) : ∃ ℓ', execS cf a ℓ σ = some (fl, ℓ', σ') := by
  unfold runS at h
  cases hx : execS cf a ℓ σ with
  | none => rw [hx] at h; cases h
  | some r => rw [hx] at h; obtain ⟨f, l, s⟩ := r; simp at h; obtain ⟨rfl, rfl⟩ := h; exact ⟨l, rfl⟩
theorem call1 {pr : String → Option Fn} {d : Nat} {f : String} {ps : List String} {bd : S} {args : List V} {v : V} (h : pr f = some ⟨ps, bd⟩) (hl : args.length = ps.length) (he : runS (callN pr d) bd (params ps args) σ = some (.ret v, σ')) :
    callN pr (d + 1) f args σ = some (v, σ') := by
  obtain ⟨l, he⟩ := of_run he
  simp only [callN, h, Option.bind_eq_bind, Option.bind_some, hl, if_true, he]
theorem call0 {pr : String → Option Fn} {d : Nat} {f : String} {ps : List String} {bd : S} {args : List V} (h : pr f = some ⟨ps, bd⟩) (hl : args.length = ps.length) (he : runS (callN pr d) bd (params ps args) σ = some (.next, σ')) :
    callN pr (d + 1) f args σ = some (.none, σ') := by
  obtain ⟨l, he⟩ := of_run he
  simp only [callN, h, Option.bind_eq_bind, Option.bind_some, hl, if_true, he]
theorem seqN0 (h : execS cf a ℓ σ = some (.next, ℓ', σ')) : execS cf (.seq a b) ℓ σ = execS cf b ℓ' σ' := by
  simp only [execS, h, Option.bind_eq_bind, Option.bind_some]
theorem seqX {fl : Fl} (h : execS cf a ℓ σ = some (fl, ℓ', σ')) (hf : fl ≠ .next) : execS cf (.seq a b) ℓ σ = some (fl, ℓ', σ') := by
  cases fl <;> first | exact absurd rfl hf | simp only [execS, h, Option.bind_eq_bind, Option.bind_some]
theorem seqN {R : Option (Fl × Loc × St)} (h : execS cf a ℓ σ = some (.next, ℓ', σ')) (k : execS cf b ℓ' σ' = R) : execS cf (.seq a b) ℓ σ = R := (seqN0 h).trans k
theorem seqC (h : execS cf a ℓ σ = some (.cont, ℓ', σ')) : execS cf (.seq a b) ℓ σ = some (.cont, ℓ', σ') := seqX h (by simp)
theorem seqR (h : execS cf a ℓ σ = some (.ret v, ℓ', σ')) : execS cf (.seq a b) ℓ σ = some (.ret v, ℓ', σ') := seqX h (by simp)
theorem runN {R : Option (Fl × St)} (h : execS cf a ℓ σ = some (.next, ℓ', σ')) (k : runS cf b ℓ' σ' = R) : runS cf (.seq a b) ℓ σ = R := by
  unfold runS at k ⊢; rw [seqN0 h]; exact k
theorem runR (h : runS cf a ℓ σ = some (.ret v, σ')) : runS cf (.seq a b) ℓ σ = some (.ret v, σ') := by
  obtain ⟨l, h⟩ := of_run h
  exact run_of (seqR h)
theorem run_done : runS cf .done ℓ σ = some (.next, σ) := rfl
theorem run_ret (h : evalE cf e ℓ σ = some (v, σ1)) : runS cf (.retS e) ℓ σ = some (.ret v, σ1) := run_of (by simp only [execS, h, Option.bind_eq_bind, Option.bind_some]; rfl)
theorem run_ifT {R : Option (Fl × St)} (h : evalE cf e ℓ σ = some (v, σ1)) (hb : truthy σ1 v = some true) (k : runS cf a ℓ σ1 = R) : runS cf (.ifS e a b) ℓ σ = R := by
  unfold runS at k ⊢; simp only [execS, h, hb, Option.bind_eq_bind, Option.bind_some, if_true]; exact k
/-! expressions -/
theorem e_var (h : ℓ x = some v) : evalE cf (.var x) ℓ σ = some (v, σ) := by simp only [evalE, h, Option.bind_eq_bind, Option.bind_some]
theorem e_nil : evalE cf .nil ℓ σ = some (.none, σ) := by simp only [evalE]
theorem e_non : evalE cf .non ℓ σ = some (.none, σ) := by simp only [evalE]
theorem e_bool : evalE cf (.bool bb) ℓ σ = some (.bool bb, σ) := by simp only [evalE]
theorem e_int : evalE cf (.int z) ℓ σ = some (.int z, σ) := by simp only [evalE]
theorem e_str : evalE cf (.str s) ℓ σ = some (.str s, σ) := by simp only [evalE]
theorem e_list (h : evalL cf es ℓ σ = some (vs, σ1)) : evalE cf (.list es) ℓ σ = some (.ref σ1.length, σ1 ++ [.list vs]) := by simp only [evalE, h, Option.bind_eq_bind, Option.bind_some]
theorem e_tuple (h : evalL cf es ℓ σ = some (vs, σ1)) : evalE cf (.tuple es) ℓ σ = some (.ref σ1.length, σ1 ++ [.tuple vs]) := by simp only [evalE, h, Option.bind_eq_bind, Option.bind_some]
theorem e_dict (h : evalKV cf es ℓ σ = some (fs, σ1)) : evalE cf (.dict es) ℓ σ = some (.ref σ1.length, σ1 ++ [.dict fs]) := by simp only [evalE, h, Option.bind_eq_bind, Option.bind_some]
theorem e_tdict : evalE cf .tdict ℓ σ = some (.ref σ.length, σ ++ [.tdict []]) := by simp only [evalE]
theorem l_nil : evalL cf .nil ℓ σ = some ([], σ) := by simp only [evalL]
theorem l_cons (h : evalE cf e ℓ σ = some (v, σ1)) (h' : evalL cf es ℓ σ1 = some (vs, σ2)) : evalL cf (.cons e es) ℓ σ = some (v :: vs, σ2) := by simp only [evalL, h, h', Option.bind_eq_bind, Option.bind_some]
theorem kv_nil : evalKV cf .nil ℓ σ = some ([], σ) := by simp only [evalKV]
theorem kv_cons (h : evalE cf e ℓ σ = some (v, σ1)) (h' : evalKV cf es ℓ σ1 = some (fs, σ2)) : evalKV cf (.kv k e es) ℓ σ = some ((k, v) :: fs, σ2) := by simp only [evalKV, h, h', Option.bind_eq_bind, Option.bind_some]
theorem e_attr (h : evalE cf e ℓ σ = some (.ref n, σ1)) (hg : σ1[n]? = some (.inst m fs)) (hl : fs.lookup k = some v) : evalE cf (.attr e k) ℓ σ = some (v, σ1) := by
  simp only [evalE, h, getInst, hg, hl, Option.bind_eq_bind, Option.bind_some]
theorem e_sub (h1 : evalE cf e ℓ σ = some (v, σ1)) (h2 : evalE cf i ℓ σ1 = some (w, σ2)) (h3 : index σ2 v w = some u) : evalE cf (.sub e i) ℓ σ = some (u, σ2) := by
  simp only [evalE, h1, h2, h3, Option.bind_eq_bind, Option.bind_some]
theorem e_slice (h1 : evalE cf e ℓ σ = some (v, σ1)) (h2 : evalE cf i ℓ σ1 = some (w, σ2)) (h3 : evalE cf j ℓ σ2 = some (u, σ3)) (h4 : sliceOf σ3 v w u = some r) : evalE cf (.slice e i j) ℓ σ = some r := by
  simp only [evalE, h1, h2, h3, h4, Option.bind_eq_bind, Option.bind_some]
theorem e_dget (h : evalE cf e ℓ σ = some (.ref n, σ1)) (hg : σ1[n]? = some (.dict fs)) (hl : fs.lookup k = some v) : evalE cf (.dget e k) ℓ σ = some (v, σ1) := by
  simp only [evalE, h, getDict, hg, hl, Option.bind_eq_bind, Option.bind_some]
theorem e_dgetd (h : evalE cf e ℓ σ = some (.ref n, σ1)) (hg : σ1[n]? = some (.dict fs)) (hd : evalE cf d ℓ σ1 = some (w, σ1)) (hl : (fs.lookup k).getD w = v) : evalE cf (.dgetd e k d) ℓ σ = some (v, σ1) := by
  simp only [evalE, h, getDict, hg, hl, hd, Option.bind_eq_bind, Option.bind_some]
theorem e_dhas (h : evalE cf e ℓ σ = some (.ref n, σ1)) (hg : σ1[n]? = some (.dict fs)) (hl : (fs.lookup k).isSome = bb) : evalE cf (.dhas k e) ℓ σ = some (.bool bb, σ1) := by
  simp only [evalE, h, getDict, hg, hl, Option.bind_eq_bind, Option.bind_some]
theorem e_dhasnt (h : evalE cf e ℓ σ = some (.ref n, σ1)) (hg : σ1[n]? = some (.dict fs)) (hl : (fs.lookup k).isSome = bb) : evalE cf (.dhasnt k e) ℓ σ = some (.bool !bb, σ1) := by
  simp only [evalE, h, getDict, hg, hl, Option.bind_eq_bind, Option.bind_some]
theorem e_neg (h : evalE cf e ℓ σ = some (.int z, σ1)) : evalE cf (.neg e) ℓ σ = some (.int (-z), σ1) := by simp only [evalE, h, asInt, Option.bind_eq_bind, Option.bind_some]
theorem e_lnot (h : evalE cf e ℓ σ = some (v, σ1)) (hb : truthy σ1 v = some bb) : evalE cf (.lnot e) ℓ σ = some (.bool !bb, σ1) := by simp only [evalE, h, hb, Option.bind_eq_bind, Option.bind_some]
theorem e_bin {o : BOp} (h1 : evalE cf e ℓ σ = some (v, σ1)) (h2 : evalE cf i ℓ σ1 = some (w, σ2)) (h3 : binOp σ2 o v w = some r) : evalE cf (.bin o e i) ℓ σ = some r := by
  simp only [evalE, h1, h2, h3, Option.bind_eq_bind, Option.bind_some]
theorem e_isNone (h : evalE cf e ℓ σ = some (v, σ1)) : evalE cf (.isNone e) ℓ σ = some (.bool (v == .none), σ1) := by simp only [evalE, h, Option.bind_eq_bind, Option.bind_some]
theorem e_cmp {o : COp} (h1 : evalE cf e ℓ σ = some (v, σ1)) (h2 : evalE cf i ℓ σ1 = some (w, σ2)) (h3 : cmpOp σ2 o v w = some bb) : evalE cf (.cmp o e i) ℓ σ = some (.bool bb, σ2) := by
  simp only [evalE, h1, h2, h3, Option.bind_eq_bind, Option.bind_some]
theorem e_ands (h : evalB cf true es ℓ σ = some r) : evalE cf (.ands es) ℓ σ = some r := by simp only [evalE, h]
theorem e_ors (h : evalB cf false es ℓ σ = some r) : evalE cf (.ors es) ℓ σ = some r := by simp only [evalE, h]
theorem b_last (h : evalE cf e ℓ σ = some r) : evalB cf bb (.cons e .nil) ℓ σ = some r := by simp only [evalB, h, Option.bind_eq_bind, Option.bind_some]
theorem b_go (h : evalE cf e ℓ σ = some (v, σ1)) (hb : truthy σ1 v = some bb) (h' : evalB cf bb (.cons i es) ℓ σ1 = some r) : evalB cf bb (.cons e (.cons i es)) ℓ σ = some r := by
  rw [evalB]
  simp only [h, hb, h', Option.bind_eq_bind, Option.bind_some, if_true]
theorem b_stop (h : evalE cf e ℓ σ = some (v, σ1)) (hb : truthy σ1 v = some (!bb)) : evalB cf bb (.cons e (.cons i es)) ℓ σ = some (v, σ1) := by
  rw [evalB]
  simp only [h, hb, Option.bind_eq_bind, Option.bind_some]
  cases bb <;> simp
theorem e_iteT (h : evalE cf c ℓ σ = some (v, σ1)) (hb : truthy σ1 v = some true) (h' : evalE cf t ℓ σ1 = some r) : evalE cf (.ite c t f) ℓ σ = some r := by simp only [evalE, h, hb, h', Option.bind_eq_bind, Option.bind_some, if_true]
theorem e_iteF (h : evalE cf c ℓ σ = some (v, σ1)) (hb : truthy σ1 v = some false) (h' : evalE cf f ℓ σ1 = some r) : evalE cf (.ite c t f) ℓ σ = some r := by
  simp only [evalE, h, hb, h', Option.bind_eq_bind, Option.bind_some, Bool.false_eq_true, if_false]
theorem e_call (h : evalL cf es ℓ σ = some (vs, σ1)) (hc : cf g vs σ1 = some r) : evalE cf (.call g es) ℓ σ = some r := by simp only [evalE, h, hc, Option.bind_eq_bind, Option.bind_some]
theorem e_bcall (h : evalL cf es ℓ σ = some (vs, σ1)) (hc : builtinF σ1 g vs = some r) : evalE cf (.bcall g es) ℓ σ = some r := by simp only [evalE, h, hc, Option.bind_eq_bind, Option.bind_some]
theorem e_umeth (h : evalE cf e ℓ σ = some (.ref n, σ1)) (hg : σ1[n]? = some (.inst x fs)) (hl : (fs.lookup m).isSome = false) (h' : evalL cf es ℓ σ1 = some (vs, σ2)) (hc : cf (x ++ "." ++ m) (.ref n :: vs) σ2 = some r) : evalE cf (.umeth e m es) ℓ σ = some r := by
  simp only [evalE, h, getInst, hg, hl, h', hc, Option.bind_eq_bind, Option.bind_some, Bool.false_eq_true, if_false]
theorem e_bmeth (h : evalE cf e ℓ σ = some (v, σ1)) (hk : mOk σ1 v m = true) (h' : evalL cf es ℓ σ1 = some (vs, σ2)) (hc : builtinM σ2 v m vs = some r) : evalE cf (.bmeth e m es) ℓ σ = some r := by
  simp only [evalE, h, hk, h', hc, Option.bind_eq_bind, Option.bind_some, if_true]
theorem e_new (h : evalL cf es ℓ σ = some (vs, σ1)) (hc : cf (x ++ ".__init__") (.ref σ1.length :: vs) (σ1 ++ [.inst x []]) = some (.none, σ2)) : evalE cf (.new x es) ℓ σ = some (.ref σ1.length, σ2) := by
  simp only [evalE, h, hc, Option.bind_eq_bind, Option.bind_some, if_true]
theorem e_listRng (h : evalE cf e ℓ σ = some (.int z, σ1)) (h0 : 0 ≤ z ∧ z.natAbs ≤ LIM) : evalE cf (.listRng e) ℓ σ = some (.ref σ1.length, σ1 ++ [.list ((List.range z.toNat).map fun i => .int (i : Nat))]) := by
  simp only [evalE, h, asInt, Option.bind_eq_bind, Option.bind_some, if_pos h0]
theorem c_of (hn : e ≠ .nil) (h : evalE cf e ℓ σ = some (v, σ1)) (hb : truthy σ1 v = some bb) : evalC cf e ℓ σ = some (bb, σ1) := by
  unfold evalC
  split
  · exact absurd rfl hn
  · simp only [h, hb, Option.bind_eq_bind, Option.bind_some]
theorem src_var (h : ℓ x = some (.ref n)) : evalSrc cf (.var x) ℓ σ = some (.list n, σ) := by simp only [evalSrc, evalE, h, asRef, Option.bind_eq_bind, Option.bind_some]
theorem src_slice (h : evalE cf (.slice e i j) ℓ σ = some (.ref n, σ1)) : evalSrc cf (.slice e i j) ℓ σ = some (.list n, σ1) := by simp only [evalSrc, h, asRef, Option.bind_eq_bind, Option.bind_some]
theorem src_dget (h : evalE cf (.dget e k) ℓ σ = some (.ref n, σ1)) : evalSrc cf (.dget e k) ℓ σ = some (.list n, σ1) := by simp only [evalSrc, h, asRef, Option.bind_eq_bind, Option.bind_some]
theorem src_rng (h : evalE cf e ℓ σ = some (.int z, σ1)) (h' : evalE cf i ℓ σ1 = some (.int y, σ2)) (hh : z.natAbs ≤ LIM ∧ y.natAbs ≤ LIM) : evalSrc cf (.rng e i bb) ℓ σ = some (.rng z y, σ2) := by
  simp only [evalSrc, h, h', asInt, Option.bind_eq_bind, Option.bind_some, if_pos hh]
theorem src_enum (h : evalE cf e ℓ σ = some (.ref n, σ1)) : evalSrc cf (.enumE e) ℓ σ = some (.enum n, σ1) := by simp only [evalSrc, h, asRef, Option.bind_eq_bind, Option.bind_some]
/-! statements -/
theorem x_done : execS cf .done ℓ σ = some (.next, ℓ, σ) := rfl
theorem x_cont : execS cf .contS ℓ σ = some (.cont, ℓ, σ) := rfl
theorem x_expr (h : evalE cf e ℓ σ = some (v, σ1)) : execS cf (.expr e) ℓ σ = some (.next, ℓ, σ1) := by simp only [execS, h, Option.bind_eq_bind, Option.bind_some]
theorem x_ret (h : evalE cf e ℓ σ = some (v, σ1)) : execS cf (.retS e) ℓ σ = some (.ret v, ℓ, σ1) := by simp only [execS, h, Option.bind_eq_bind, Option.bind_some]
theorem x_ifT {R : Option (Fl × Loc × St)} (h : evalE cf e ℓ σ = some (v, σ1)) (hb : truthy σ1 v = some true) (k : execS cf a ℓ σ1 = R) : execS cf (.ifS e a b) ℓ σ = R := by simp only [execS, h, hb, Option.bind_eq_bind, Option.bind_some, if_true]; exact k
theorem x_ifF {R : Option (Fl × Loc × St)} (h : evalE cf e ℓ σ = some (v, σ1)) (hb : truthy σ1 v = some false) (k : execS cf b ℓ σ1 = R) : execS cf (.ifS e a b) ℓ σ = R := by simp only [execS, h, hb, Option.bind_eq_bind, Option.bind_some, Bool.false_eq_true, if_false]; exact k
theorem x_while : execS cf (.whileS e a) ℓ σ = whileGo (fun ℓ σ => evalC cf e ℓ σ) (fun ℓ σ => execS cf a ℓ σ) WLIM ℓ σ := rfl
theorem x_for {src : Src} {tg : Tgt} (h : evalSrc cf e ℓ σ = some (src, σ1)) (hn : src.size σ1 = some n) : execS cf (.forS tg e a) ℓ σ = forGo src tg n (fun ℓ σ => execS cf a ℓ σ) n 0 ℓ σ1 := by
  simp only [execS, h, hn, Option.bind_eq_bind, Option.bind_some]
theorem x_assign (h : evalE cf e ℓ σ = some (v, σ1)) : execS cf (.assign (.one x) e) ℓ σ = some (.next, ℓ.set x v, σ1) := by simp only [execS, h, bindTgt, Option.bind_eq_bind, Option.bind_some]
theorem x_assignM {xs : List String} (h : evalE cf e ℓ σ = some (.ref n, σ1)) (hg : σ1[n]? = some (.tuple vs)) (hb : bindMany ℓ xs vs = some ℓ') : execS cf (.assign (.many xs) e) ℓ σ = some (.next, ℓ', σ1) := by
  simp only [execS, h, bindTgt, getTuple, hg, hb, Option.bind_eq_bind, Option.bind_some]
theorem x_swapM {xs : List String} (h : evalE cf e ℓ σ = some (.ref n, σ1)) (hg : σ1[n]? = some (.tuple vs)) (hb : bindMany ℓ xs vs = some ℓ') : execS cf (.swap (.many xs) e) ℓ σ = some (.next, ℓ', σ1) := by
  simp only [execS, h, bindTgt, getTuple, hg, hb, Option.bind_eq_bind, Option.bind_some]
theorem x_setAttr (h : evalE cf e ℓ σ = some (v, σ1)) (h2 : evalE cf i ℓ σ1 = some (.ref n, σ2)) (hg : σ2[n]? = some (.inst m fs)) (hp : (setField fs k v).length ≤ 1000 ∧ n ≠ 0) :
    execS cf (.setAttr i k e) ℓ σ = some (.next, ℓ, σ2.set n (.inst m (setField fs k v))) := by
  simp only [execS, h, h2, getInst, hg, putField, if_pos hp, Option.bind_eq_bind, Option.bind_some]
theorem x_dset (h : evalE cf e ℓ σ = some (v, σ1)) (h2 : evalE cf i ℓ σ1 = some (.ref n, σ2)) (hg : σ2[n]? = some (.dict fs)) (hp : (setField fs k v).length ≤ 1000 ∧ n ≠ 0) :
    execS cf (.dset i k e) ℓ σ = some (.next, ℓ, σ2.set n (.dict (setField fs k v))) := by
  simp only [execS, h, h2, getDict, hg, putField, if_pos hp, Option.bind_eq_bind, Option.bind_some]
theorem x_setSub (h : evalE cf e ℓ σ = some (v, σ1)) (h2 : evalE cf i ℓ σ1 = some (w, σ2)) (h3 : evalE cf j ℓ σ2 = some (u, σ3)) (hs : setItemF σ3 w u v = some τ) : execS cf (.setSub i j e) ℓ σ = some (.next, ℓ, τ) := by
  simp only [execS, h, h2, h3, hs, Option.bind_eq_bind, Option.bind_some]
theorem x_setSlice {σ4 : St} {y z : V} (h : evalE cf e ℓ σ = some (v, σ1)) (h2 : evalE cf i ℓ σ1 = some (w, σ2)) (h3 : evalE cf j ℓ σ2 = some (y, σ3)) (h4 : evalE cf d ℓ σ3 = some (z, σ4)) (hs : setSliceF σ4 w y z v = some τ) :
    execS cf (.setSlice i j d e) ℓ σ = some (.next, ℓ, τ) := by
  simp only [execS, h, h2, h3, h4, hs, Option.bind_eq_bind, Option.bind_some]
theorem x_aug {o : BOp} (h1 : ℓ x = some v) (h : evalE cf e ℓ σ = some (w, σ1)) (ho : augOp o v w = some u) : execS cf (.aug x o e) ℓ σ = some (.next, ℓ.set x u, σ1) := by
  simp only [execS, h1, h, ho, Option.bind_eq_bind, Option.bind_some]
theorem x_augAttr {o : BOp} (h : evalE cf i ℓ σ = some (.ref n, σ1)) (hg : σ1[n]? = some (.inst m fs)) (hl : fs.lookup k = some v) (h2 : evalE cf e ℓ σ1 = some (w, σ1)) (ho : augOp o v w = some u) (hp : (setField fs k u).length ≤ 1000 ∧ n ≠ 0) :
    execS cf (.augAttr i k o e) ℓ σ = some (.next, ℓ, σ1.set n (.inst m (setField fs k u))) := by
  simp only [execS, h, getInst, hg, hl, h2, ho, putField, if_pos hp, Option.bind_eq_bind, Option.bind_some]
/-! the store -/
theorem get_app (h : σ[n]? = some o) : (σ ++ τ)[n]? = some o := by rw [List.getElem?_append_left (List.getElem?_eq_some_iff.mp h).1]; exact h
theorem get_last : (σ ++ [o])[σ.length]? = some o := by simp
theorem get_set_eq (h : σ[n]? = some o') : (σ.set n o)[n]? = some o := List.getElem?_set_self (List.getElem?_eq_some_iff.mp h).1
theorem get_set_ne (hne : p ≠ n) (h : σ[n]? = some o) : (σ.set p o')[n]? = some o := by rw [List.getElem?_set_ne hne]; exact h
theorem get_lt (h : σ[n]? = some o) : n < σ.length := (List.getElem?_eq_some_iff.mp h).1
theorem list_of (h : σ[n]? = some (.list vs)) : getList σ (.ref n) = some (n, vs) := by simp only [getList, h]
theorem seq_of (h : σ[n]? = some (.list vs)) : seqAt σ n = some vs := by simp only [seqAt, h]
theorem seq_ofT (h : σ[n]? = some (.tuple vs)) : seqAt σ n = some vs := by simp only [seqAt, h]
theorem len_list (h : σ[n]? = some (.list vs)) : builtinF σ "len" [.ref n] = some (.int vs.length, σ) := by simp only [builtinF, seqAt, h, Option.map_some]
theorem len_str : builtinF σ "len" [.str s] = some (.int s.length, σ) := rfl
theorem truthy_list (h : σ[n]? = some (.list vs)) : truthy σ (.ref n) = some (!vs.isEmpty) := by simp only [truthy, h]
theorem idx_list (h : σ[n]? = some (.list vs)) {k : Nat} (hz : z = k) (hk : vs[k]? = some v) : index σ (.ref n) (.int z) = some v := by
  have hl : k < vs.length := (List.getElem?_eq_some_iff.mp hk).1
  have h1 : (0 : Int) ≤ z := by omega
  have h2 : z < vs.length := by omega
  subst hz
  simp only [index, seqAt, h, seqIdx, if_pos h1, if_pos h2, Option.bind_eq_bind, Option.bind_some, Int.toNat_natCast, hk]
theorem idx_tuple (h : σ[n]? = some (.tuple vs)) {k : Nat} (hz : z = k) (hk : vs[k]? = some v) : index σ (.ref n) (.int z) = some v := by
  have hl : k < vs.length := (List.getElem?_eq_some_iff.mp hk).1
  have h1 : (0 : Int) ≤ z := by omega
  have h2 : z < vs.length := by omega
  subst hz
  simp only [index, seqAt, h, seqIdx, if_pos h1, if_pos h2, Option.bind_eq_bind, Option.bind_some, Int.toNat_natCast, hk]
theorem idx_last (h : σ[n]? = some (.list vs)) (hk : vs.getLast? = some v) : index σ (.ref n) (.int (-1)) = some v := by
  have hne : vs ≠ [] := by rintro rfl; cases hk
  have hl : 0 < vs.length := List.length_pos_iff.mpr hne
  have h2 : (0 : Int) ≤ -1 + vs.length := by omega
  have h3 : (-1 + (vs.length : Int)).toNat = vs.length - 1 := by omega
  rw [List.getLast?_eq_getElem?] at hk
  simp only [index, seqAt, h, seqIdx, show ¬ (0 : Int) ≤ -1 by decide, if_false, if_pos h2, Option.bind_eq_bind, Option.bind_some, h3, hk]
theorem idx_str {k : Nat} {ch : Nat} (hz : z = k) (hk : s[k]? = some ch) : index σ (.str s) (.int z) = some (.str [ch]) := by
  have hl : k < s.length := (List.getElem?_eq_some_iff.mp hk).1
  have h1 : (0 : Int) ≤ z := by omega
  have h2 : z < s.length := by omega
  subst hz
  simp only [index, seqIdx, if_pos h1, if_pos h2, Option.bind_eq_bind, Option.bind_some, Int.toNat_natCast, hk]
theorem bound_nat {n k : Nat} {z : Int} (hz : z = k) (hk : k ≤ n) : bound n z = k := by
  unfold bound; rw [if_neg (by omega)]; omega
theorem slice_list {l h : Nat} (hg : σ[n]? = some (.list vs)) (h1 : bnd vs.length 0 v = some l) (h2 : bnd vs.length vs.length w = some h) : sliceOf σ (.ref n) v w = some (.ref σ.length, σ ++ [.list (cut vs l h)]) := by
  simp only [sliceOf, getList, hg, h1, h2, Option.bind_eq_bind, Option.bind_some]
theorem slice_str {l h : Nat} (h1 : bnd s.length 0 v = some l) (h2 : bnd s.length s.length w = some h) : sliceOf σ (.str s) v w = some (.str (cut s l h), σ) := by
  simp only [sliceOf, h1, h2, Option.bind_eq_bind, Option.bind_some]
theorem bnd_nat {n dflt k : Nat} {z : Int} (hz : z = k) (hk : k ≤ n) (hl : n ≤ LIM) : bnd n dflt (.int z) = some k := by
  show (if z.natAbs ≤ LIM then some (bound n z) else none) = some k
  rw [if_pos (by omega), bound_nat hz hk]
theorem app_list (hg : σ[n]? = some (.list vs)) (h : vs.length < LIM ∧ n ≠ 0) : builtinM σ (.ref n) "append" [v] = some (.none, σ.set n (.list (vs ++ [v]))) := by
  simp only [builtinM, getList, hg, Option.bind_eq_bind, Option.bind_some, if_pos h]
theorem join_list {l : List (List Nat)} (hg : σ[n]? = some (.list vs)) (ha : allStrs vs = some l) (h : l.flatten.length ≤ LIM) : builtinM σ (.str []) "join" [.ref n] = some (.str l.flatten, σ) := by
  simp only [builtinM, getList, hg, ha, Option.bind_eq_bind, Option.bind_some, if_pos h]
theorem mOk_list (hg : σ[n]? = some (.list vs)) (hm : m = "append" ∨ m = "pop" ∨ m = "clear") : mOk σ (.ref n) m = true := by
  simp only [mOk, if_pos hm, getList, hg, Option.isSome_some]
theorem allStrs_map {l : List (List Nat)} : allStrs (l.map V.str) = some l := by
  induction l with
  | nil => rfl
  | cons a l ih => simp only [List.map_cons, allStrs, ih, Option.map_some]
end
theorem for_inv {src : Src} {t : Tgt} {n : Nat} {b : Loc → St → Option (Fl × Loc × St)} (I : Nat → Loc → St → Prop) (Q : Fl → Loc → St → Prop)
    (hs : ∀ i ℓ σ, i ≤ n → I i ℓ σ → src.size σ = some n)
    (step : ∀ i ℓ σ, i < n → I i ℓ σ → ∃ ℓ1 fl ℓ' σ', src.bind σ ℓ t i = some ℓ1 ∧ b ℓ1 σ = some (fl, ℓ', σ') ∧ (((fl = .next ∨ fl = .cont) ∧ I (i + 1) ℓ' σ') ∨ ∃ v, fl = .ret v ∧ Q (.ret v) ℓ' σ'))
    (hend : ∀ ℓ σ, I n ℓ σ → Q .next ℓ σ) : ∀ rem i ℓ σ, i + rem = n → I i ℓ σ → ∃ fl ℓ' σ', forGo src t n b rem i ℓ σ = some (fl, ℓ', σ') ∧ Q fl ℓ' σ'
  | 0, i, ℓ, σ, he, hi => by
    have : i = n := by omega
    subst this
    exact ⟨_, _, _, by simp only [forGo, hs i ℓ σ (Nat.le_refl _) hi, if_true], hend _ _ hi⟩
  | rem + 1, i, ℓ, σ, he, hi => by
    obtain ⟨ℓ1, fl, ℓ', σ', h1, h2, h3⟩ := step i ℓ σ (by omega) hi
    rcases h3 with ⟨h3, h4⟩ | ⟨v, rfl, h4⟩
    · obtain ⟨fl2, ℓ2, σ2, h5, h6⟩ := for_inv I Q hs step hend rem (i + 1) ℓ' σ' (by omega) h4
      refine ⟨fl2, ℓ2, σ2, ?_, h6⟩
      rcases h3 with rfl | rfl <;> simp only [forGo, hs i ℓ σ (by omega) hi, if_true, h1, h2, Option.bind_eq_bind, Option.bind_some, h5]
    · exact ⟨_, _, _, by simp only [forGo, hs i ℓ σ (by omega) hi, if_true, h1, h2, Option.bind_eq_bind, Option.bind_some], h4⟩
theorem while_inv {c : Loc → St → Option (Bool × St)} {b : Loc → St → Option (Fl × Loc × St)} (I : Nat → Loc → St → Prop) (Q : Fl → Loc → St → Prop)
    (step : ∀ m ℓ σ, I m ℓ σ → (∃ σ', c ℓ σ = some (false, σ') ∧ Q .next ℓ σ') ∨ ∃ σ1 fl ℓ' σ', c ℓ σ = some (true, σ1) ∧ b ℓ σ1 = some (fl, ℓ', σ') ∧ (((fl = .next ∨ fl = .cont) ∧ ∃ m', m' < m ∧ I m' ℓ' σ') ∨ ∃ v, fl = .ret v ∧ Q (.ret v) ℓ' σ')) :
    ∀ k m ℓ σ, m < k → I m ℓ σ → ∃ fl ℓ' σ', whileGo c b k ℓ σ = some (fl, ℓ', σ') ∧ Q fl ℓ' σ'
  | 0, m, ℓ, σ, hk, hi => by omega
  | k + 1, m, ℓ, σ, hk, hi => by
    rcases step m ℓ σ hi with ⟨σ', h1, h2⟩ | ⟨σ1, fl, ℓ', σ', h1, h2, h3⟩
    · exact ⟨_, _, _, by simp only [whileGo, h1, Option.bind_eq_bind, Option.bind_some, Bool.false_eq_true, if_false], h2⟩
    · rcases h3 with ⟨h3, m', hm, h4⟩ | ⟨v, rfl, h4⟩
      · obtain ⟨fl2, ℓ2, σ2, h5, h6⟩ := while_inv I Q step k m' ℓ' σ' (by omega) h4
        refine ⟨fl2, ℓ2, σ2, ?_, h6⟩
        rcases h3 with rfl | rfl <;> simp only [whileGo, h1, h2, if_true, Option.bind_eq_bind, Option.bind_some, h5]
      · exact ⟨_, _, _, by simp only [whileGo, h1, h2, if_true, Option.bind_eq_bind, Option.bind_some], h4⟩
theorem size_list {σ : St} {a : Nat} {vs : List V} (h : σ[a]? = some (.list vs)) : (Src.list a).size σ = some vs.length := by simp only [Src.size, lenAt, h]
theorem bind_list {σ : St} {ℓ : Loc} {a i : Nat} {vs : List V} {v : V} {x : String} (h : σ[a]? = some (.list vs)) (hv : vs[i]? = some v) : (Src.list a).bind σ ℓ (.one x) i = some (ℓ.set x v) := by
  simp only [Src.bind, itemAt, h, hv, Option.bind_eq_bind, Option.bind_some]
theorem size_enum {σ : St} {a : Nat} {vs : List V} (h : σ[a]? = some (.list vs)) : (Src.enum a).size σ = some vs.length := by simp only [Src.size, lenAt, h]
theorem bind_enum {σ : St} {ℓ : Loc} {a i : Nat} {vs : List V} {v : V} {x y : String} (h : σ[a]? = some (.list vs)) (hv : vs[i]? = some v) : (Src.enum a).bind σ ℓ (.many [x, y]) i = some ((ℓ.set x (.int i)).set y v) := by
  simp only [Src.bind, itemAt, h, hv, Option.bind_eq_bind, Option.bind_some, bindMany]; rfl
theorem bind_rng {σ : St} {ℓ : Loc} {lo hi : Int} {i : Nat} {x : String} : (Src.rng lo hi).bind σ ℓ (.one x) i = some (ℓ.set x (.int (lo + i))) := rfl
theorem for_one {src : Src} {t : Tgt} {b : Loc → St → Option (Fl × Loc × St)} {ℓ ℓ1 ℓ' : Loc} {σ σ' : St} (h1 : src.size σ = some 1) (h2 : src.bind σ ℓ t 0 = some ℓ1) (h3 : b ℓ1 σ = some (.next, ℓ', σ')) (h4 : src.size σ' = some 1) :
    forGo src t 1 b 1 0 ℓ σ = some (.next, ℓ', σ') := by
  simp only [forGo, h1, h2, h3, h4, if_true, Option.bind_eq_bind, Option.bind_some]
theorem for_oneR {src : Src} {t : Tgt} {b : Loc → St → Option (Fl × Loc × St)} {ℓ ℓ1 ℓ' : Loc} {σ σ' : St} {v : V} (h1 : src.size σ = some 1) (h2 : src.bind σ ℓ t 0 = some ℓ1) (h3 : b ℓ1 σ = some (.ret v, ℓ', σ')) :
    forGo src t 1 b 1 0 ℓ σ = some (.ret v, ℓ', σ') := by
  simp only [forGo, h1, h2, h3, if_true, Option.bind_eq_bind, Option.bind_some]
theorem run_for {cf : CallF} {src : Src} {tg : Tgt} {n : Nat} {e : E} {a : S} {ℓ ℓ' : Loc} {σ σ1 σ' : St} {fl : Fl} (h : evalSrc cf e ℓ σ = some (src, σ1)) (hn : src.size σ1 = some n) (k : forGo src tg n (fun ℓ σ => execS cf a ℓ σ) n 0 ℓ σ1 = some (fl, ℓ', σ')) :
    execS cf (.forS tg e a) ℓ σ = some (fl, ℓ', σ') := (x_for h hn).trans k
theorem mOk_str {σ : St} {s : List Nat} {m : String} (h : m = "join" ∨ m = "isalnum" ∨ m = "isspace" ∨ m = "endswith") : mOk σ (.str s) m = true := by
  rcases h with rfl | rfl | rfl | rfl <;> simp [mOk]
/-- a stretch of the run leaves all as it was but `X` -/
def Fr (X : List Nat) (σ σ' : St) : Prop := σ.length ≤ σ'.length ∧ ∀ a, a < σ.length → a ∉ X → σ'[a]? = σ[a]?
theorem Fr.refl {X : List Nat} {σ : St} : Fr X σ σ := ⟨Nat.le_refl _, fun _ _ _ => rfl⟩
theorem Fr.trans {X : List Nat} {σ σ1 σ2 : St} (h : Fr X σ σ1) (h' : Fr X σ1 σ2) : Fr X σ σ2 :=
  ⟨Nat.le_trans h.1 h'.1, fun a ha hx => (h'.2 a (Nat.lt_of_lt_of_le ha h.1) hx).trans (h.2 a ha hx)⟩
theorem Fr.app {X : List Nat} {σ τ : St} : Fr X σ (σ ++ τ) := ⟨by simp, fun a ha _ => List.getElem?_append_left ha⟩
theorem Fr.set {X : List Nat} {σ : St} {n : Nat} {o : O} (h : n ∈ X ∨ σ.length ≤ n) : Fr X σ (σ.set n o) := by
  refine ⟨by simp, fun a ha hx => List.getElem?_set_ne ?_⟩
  rintro rfl
  rcases h with h | h
  · exact hx h
  · omega
theorem Fr.setNew {X : List Nat} {σ σ1 : St} {n : Nat} {o : O} (h : Fr X σ σ1) (hn : n ∈ X ∨ σ.length ≤ n) : Fr X σ (σ1.set n o) := by
  refine ⟨by simpa using h.1, fun a ha hx => (List.getElem?_set_ne ?_).trans (h.2 a ha hx)⟩
  rintro rfl
  rcases hn with h | h
  · exact hx h
  · omega
theorem Fr.over {X Y : List Nat} {σ σ1 σ2 : St} (h : Fr X σ σ1) (h' : Fr Y σ1 σ2) (hy : ∀ a ∈ Y, a ∈ X ∨ σ.length ≤ a) : Fr X σ σ2 := by
  refine ⟨Nat.le_trans h.1 h'.1, fun a ha hx => (h'.2 a (Nat.lt_of_lt_of_le ha h.1) fun q => ?_).trans (h.2 a ha hx)⟩
  rcases hy a q with q | q
  · exact hx q
  · omega
theorem Fr.mono {X Y : List Nat} {σ σ' : St} (h : Fr X σ σ') (hs : ∀ a ∈ X, a ∈ Y) : Fr Y σ σ' := ⟨h.1, fun a ha hy => h.2 a ha fun q => hy (hs a q)⟩
theorem Fr.get {X : List Nat} {σ σ' : St} {a : Nat} {o : O} (h : Fr X σ σ') (hg : σ[a]? = some o) (hx : a ∉ X) : σ'[a]? = some o := (h.2 a (get_lt hg) hx).trans hg
theorem Fr.get0 {σ σ' : St} {a : Nat} {o : O} (h : Fr [] σ σ') (hg : σ[a]? = some o) : σ'[a]? = some o := h.get hg (by simp)
end Mine
end

/-! W1 -/
section
open PySem PySem.W PyProof.Rows
set_option linter.unusedVariables false
set_option linter.unusedSimpArgs false
namespace Mine
local macro_rules | `(tactic| one_place) => `(tactic| first | assumption | (simp only [Loc.set, params_cons, params_nil, String.reduceEq, if_true, if_false, reduceIte]; first | rfl | assumption))
local macro_rules | `(tactic| one_item) => `(tactic| first | assumption | exact get_last | (apply get_app; (one_item)) | (apply get_set_eq; (one_item)) | (apply get_set_ne; (first | assumption | omega); (one_item)))
local macro_rules | `(tactic| leaf_len) => `(tactic| first | assumption | rfl | (focus (simp; done)))
local macro_rules | `(tactic| l_ints) => `(tactic| first | assumption | (apply idx_list; (one_item); rfl; (assumption)) | (apply idx_tuple; (one_item); rfl; (assumption)) | (apply idx_list (k := 0); (one_item); rfl; rfl) | (apply idx_tuple (k := 0); (one_item); rfl; rfl) | (apply idx_tuple (k := 1); (one_item); rfl; rfl) | exact idx_str rfl (by assumption))
local macro_rules | `(tactic| pv_eval) => `(tactic| first
  | exact e_int | exact e_str | exact e_bool | exact e_non | exact e_nil
  | (apply e_var; (one_place))
  | (apply e_attr; (pv_eval); (one_item); (leaf_len))
  | (apply e_dget; (pv_eval); (one_item); (leaf_len))
  | (apply e_dhas; (pv_eval); (one_item); (leaf_len))
  | (apply e_dhasnt; (pv_eval); (one_item); (leaf_len))
  | (apply e_dgetd; (pv_eval); (one_item); (pv_eval); (leaf_len))
  | (apply e_sub; (pv_eval); (pv_eval); (l_ints))
  | (apply e_cmp; (pv_eval); (pv_eval); (leaf_len))
  | (apply e_bin; (pv_eval); (pv_eval); (leaf_len))
  | (apply e_lnot; (pv_eval); (one_sign))
  | (apply e_neg; (pv_eval))
  | (apply e_isNone; (pv_eval))
  | (apply e_ands; (modx_arm))
  | (apply e_ors; (modx_arm))
  | (apply e_iteT; (pv_eval); (one_sign); (pv_eval))
  | (apply e_iteF; (pv_eval); (one_sign); (pv_eval))
  | (apply e_list; (mod_arm))
  | (apply e_tuple; (mod_arm))
  | (apply e_dict; (o_shape))
  | exact e_tdict
  | (apply e_bcall; (mod_arm); (first | assumption | (apply len_list; (one_item)) | rfl))
  | (apply e_call; (mod_arm); (assumption))
  | (apply e_slice; (pv_eval); (pv_eval); (pv_eval); (assumption))
  | (apply e_bmeth; (pv_eval); (first | assumption | (apply mOk_str; (focus (simp; done))) | (apply mOk_list; (one_item); (focus (simp; done)))); (mod_arm); (first | assumption | rfl)))
local macro_rules | `(tactic| modx_arm) => `(tactic| first
  | (apply b_last; (pv_eval))
  | (apply b_go; (pv_eval); (one_sign); (modx_arm))
  | (apply b_stop; (pv_eval); (one_sign)))
local macro_rules | `(tactic| mod_arm) => `(tactic| first | exact l_nil | (apply l_cons; (pv_eval); (mod_arm)))
local macro_rules | `(tactic| o_shape) => `(tactic| first | exact kv_nil | (apply kv_cons; (pv_eval); (o_shape)))
local macro_rules | `(tactic| one_sign) => `(tactic| first | rfl | assumption | exact (truthy_list (by one_item)).trans rfl | (refine congrArg some ?_; first | (apply decide_eq_true; (omega)) | (apply decide_eq_false; (omega)) | assumption | (focus (simp; done)) | (focus (simp; omega)) | (focus (simp [*]; done))))
namespace P1
abbrev T_text : List Nat := [116, 101, 120, 116]
theorem s_text_raw {d : Nat} {σ : St} {r : Nat} {es : List (String × V)} {w : V} (hσ : σ[r]? = some (.dict es)) (ht : es.lookup "type" = some (.str T_text)) (hr : es.lookup "raw" = some w) :
    callN prog (d + 1) "_text_raw" [.ref r] σ = some (w, σ) :=
  call1 rfl rfl (runR (run_ifT (by pv_eval) (by one_sign) (runR (run_ret (by pv_eval)))))
theorem s_text_raw' {d : Nat} {σ : St} {r : Nat} {es : List (String × V)} {t : List Nat} (hσ : σ[r]? = some (.dict es)) (ht : es.lookup "type" = some (.str t)) (h : (t == T_text) = false) :
    callN prog (d + 1) "_text_raw" [.ref r] σ = some (.str [], σ) :=
  call1 rfl rfl (runN (x_ifF (by pv_eval) (by one_sign) x_done) (runR (run_ret (by pv_eval))))
theorem s_can_match {d : Nat} {σ : St} {p q : Nat} {fs gs : List (String × V)} {a b : Bool} {L : Int} (hp : σ[p]? = some (.inst "_Delimiter" fs)) (hq : σ[q]? = some (.inst "_Delimiter" gs))
    (h1 : fs.lookup "can_close" = some (.bool a)) (h2 : gs.lookup "can_open" = some (.bool b)) (h3 : fs.lookup "orig_length" = some (.int L)) (h4 : gs.lookup "orig_length" = some (.int L)) (hL : L = 1 ∨ L = 2) :
    callN prog (d + 1) "_can_match_emphasis_delimiters" [.ref p, .ref q] σ = some (.bool true, σ) := by
  refine call1 rfl rfl ?_
  by_cases h : (a || b) = true
  · rcases hL with rfl | rfl <;> cases a <;> cases b <;> first | exact absurd h (by decide) | exact runR (run_ifT (by pv_eval) (by one_sign) (runN (x_assign (by pv_eval)) (runN (x_assign (by pv_eval)) (runR (run_ret (by pv_eval))))))
  · have ha : a = false := by cases a <;> simp_all
    have hb : b = false := by cases b <;> simp_all
    subst ha; subst hb
    exact runN (x_ifF (by pv_eval) (by one_sign) x_done) (runR (run_ret (by pv_eval)))
abbrev dText (s : List Nat) : O := .dict [("type", .str T_text), ("raw", .str s)]
abbrev dNode (ty : List Nat) (c : Nat) : O := .dict [("type", .str ty), ("children", .ref c)]
abbrev T_emph : List Nat := [101, 109, 112, 104, 97, 115, 105, 115]
abbrev T_strong : List Nat := [115, 116, 114, 111, 110, 103]
abbrev Dlm (x : Nat) (m : Nat) (len : Int) (co cc : Bool) (L : Int) (ord : Nat) : O :=
  .inst "_Delimiter" [("index", .int x), ("marker", .str [m]), ("length", .int len), ("can_open", .bool co), ("can_close", .bool cc), ("orig_length", .int L), ("order", .int ord)]
variable {d : Nat} {σ : St}
theorem s_text {r : Nat} {s : List Nat} (h : σ[r]? = some (dText s)) : callN prog (d + 1) "_text_raw" [.ref r] σ = some (.str s, σ) := s_text_raw h rfl rfl
theorem s_strong {p i j a b : Nat} {vs : List V} {ra rb : List Nat} (hp : σ[p]? = some (.list vs)) (hi : vs[i]? = some (.ref a)) (hj : vs[j]? = some (.ref b)) (ha : σ[a]? = some (dText ra)) (hb : σ[b]? = some (dText rb)) (l1 : 2 ≤ ra.length) (l2 : 2 ≤ rb.length) :
    callN prog (d + 2) "_has_strong_enabled" [.ref p, .int i, .int j] σ = some (.bool true, σ) := by
  have h1 := s_text (d := d) ha
  have h2 := s_text (d := d) hb
  have e : (decide ((rb.length : Int) ≥ 2)) = true := decide_eq_true (by omega)
  rw [← e]
  exact call1 rfl rfl (runR (run_ret (by pv_eval)))
theorem s_strong' {p i j a b c : Nat} {vs : List V} {rb ty : List Nat} (hp : σ[p]? = some (.list vs)) (hi : vs[i]? = some (.ref a)) (hj : vs[j]? = some (.ref b)) (ha : σ[a]? = some (dNode ty c)) (ht : (ty == T_text) = false) :
    callN prog (d + 2) "_has_strong_enabled" [.ref p, .int i, .int j] σ = some (.bool false, σ) := by
  have h1 := s_text_raw' (d := d) ha rfl ht
  exact call1 rfl rfl (runR (run_ret (by pv_eval)))
theorem s_emph {p i j a b : Nat} {vs : List V} {ra rb : List Nat} (hp : σ[p]? = some (.list vs)) (hi : vs[i]? = some (.ref a)) (hj : vs[j]? = some (.ref b)) (ha : σ[a]? = some (dText ra)) (hb : σ[b]? = some (dText rb)) (l1 : ra ≠ []) (l2 : rb ≠ []) :
    callN prog (d + 2) "_has_emphasis_enabled" [.ref p, .int i, .int j] σ = some (.bool true, σ) := by
  have h1 := s_text (d := d) ha
  have h2 := s_text (d := d) hb
  have e1 : truthy σ (.str ra) = some true := by cases ra <;> simp_all [truthy]
  have e2 : truthy σ (.str rb) = some true := by cases rb <;> simp_all [truthy]
  have e3 : builtinF σ "bool" [.str rb] = some (.bool true, σ) := by simp only [builtinF, isRef, e2, Option.map_some]; rfl
  exact call1 rfl rfl (runR (run_ret (by pv_eval)))
theorem s_emph' {p i j a b c : Nat} {vs : List V} {rb ty : List Nat} (hp : σ[p]? = some (.list vs)) (hi : vs[i]? = some (.ref a)) (hj : vs[j]? = some (.ref b)) (ha : σ[a]? = some (dNode ty c)) (ht : (ty == T_text) = false) :
    callN prog (d + 2) "_has_emphasis_enabled" [.ref p, .int i, .int j] σ = some (.bool false, σ) := by
  have h1 := s_text_raw' (d := d) ha rfl ht
  exact call1 rfl rfl (runR (run_ret (by pv_eval)))
theorem s_use {p i j a b oa ob x m x' m' o o' : Nat} {co cc co' cc' : Bool} {L : Int} {vs : List V} {ra rb : List Nat} (hp : σ[p]? = some (.list vs)) (hi : vs[i]? = some (.ref a)) (hj : vs[j]? = some (.ref b)) (ha : σ[a]? = some (dText ra)) (hb : σ[b]? = some (dText rb))
    (h1 : σ[oa]? = some (Dlm x m L co cc L o)) (h2 : σ[ob]? = some (Dlm x' m' L co' cc' L o')) (hL : L = 1 ∨ L = 2) (l1 : (ra.length : Int) = L) (l2 : (rb.length : Int) = L) :
    callN prog (d + 3) "_get_emphasis_use_length" [.ref p, .ref oa, .ref ob, .int i, .int j] σ = some (.int L, σ) := by
  refine call1 rfl rfl ?_
  rcases hL with rfl | rfl
  · have h3 := s_emph (d := d) hp hi hj ha hb (by rintro rfl; simp at l1) (by rintro rfl; simp at l2)
    exact runN (x_assign (by pv_eval)) (runN (x_ifF (by pv_eval) (by one_sign) x_done) (runN (x_ifF (by pv_eval) (by one_sign) x_done) (runR (run_ret (by pv_eval)))))
  · have h3 := s_strong (d := d) hp hi hj ha hb (by omega) (by omega)
    exact runN (x_assign (by pv_eval)) (runN (x_ifF (by pv_eval) (by one_sign) x_done) (runN (x_ifF (by pv_eval) (by one_sign) x_done) (runR (run_ret (by pv_eval)))))
theorem s_use' {p i j a b c oa ob x m x' m' o o' L1 L2 : Nat} {co cc co' cc' : Bool} {l1 l2 : Int} {vs : List V} {ty : List Nat} (hp : σ[p]? = some (.list vs)) (hi : vs[i]? = some (.ref a)) (hj : vs[j]? = some (.ref b)) (ha : σ[a]? = some (dNode ty c)) (ht : (ty == T_text) = false)
    (h1 : σ[oa]? = some (Dlm x m l1 co cc L1 o)) (h2 : σ[ob]? = some (Dlm x' m' l2 co' cc' L2 o')) :
    callN prog (d + 3) "_get_emphasis_use_length" [.ref p, .ref oa, .ref ob, .int i, .int j] σ = some (.none, σ) := by
  refine call1 rfl rfl ?_
  have h3 := s_emph' (b := b) (rb := []) (d := d) hp hi hj ha ht
  have h4 := s_strong' (b := b) (rb := []) (d := d) hp hi hj ha ht
  by_cases g1 : l1 ≥ 2
  · have q1 : cmpOp σ .ge (.int l1) (.int 2) = some true := congrArg some (decide_eq_true g1)
    by_cases g2 : l2 ≥ 2
    · have q2 : cmpOp σ .ge (.int l2) (.int 2) = some true := congrArg some (decide_eq_true g2)
      exact runN (x_assign (by pv_eval)) (runN (x_ifT (by pv_eval) (by one_sign) (seqN (x_assign (by pv_eval)) x_done)) (runR (run_ifT (by pv_eval) (by one_sign) (runR (run_ret (by pv_eval))))))
    · have q2 : cmpOp σ .ge (.int l2) (.int 2) = some false := congrArg some (decide_eq_false g2)
      exact runN (x_assign (by pv_eval)) (runN (x_ifF (by pv_eval) (by one_sign) x_done) (runR (run_ifT (by pv_eval) (by one_sign) (runR (run_ret (by pv_eval))))))
  · have q1 : cmpOp σ .ge (.int l1) (.int 2) = some false := congrArg some (decide_eq_false g1)
    exact runN (x_assign (by pv_eval)) (runN (x_ifF (by pv_eval) (by one_sign) x_done) (runR (run_ifT (by pv_eval) (by one_sign) (runR (run_ret (by pv_eval))))))
end P1
end Mine
end

/-! W2 -/
section
open PySem PySem.W PyProof.Rows
set_option linter.unusedVariables false
set_option linter.unusedSimpArgs false
namespace Mine
local macro_rules | `(tactic| one_place) => `(tactic| first | assumption | (simp only [Loc.set, params_cons, params_nil, String.reduceEq, if_true, if_false, reduceIte]; first | rfl | assumption))
local macro_rules | `(tactic| one_item) => `(tactic| first | assumption | exact get_last | (apply get_app; (one_item)) | (apply get_set_eq; (one_item)) | (apply get_set_ne; (first | assumption | omega); (one_item)))
local macro_rules | `(tactic| leaf_len) => `(tactic| first | assumption | rfl | (focus (simp; done)))
local macro_rules | `(tactic| l_ints) => `(tactic| first | assumption | (apply idx_list; (one_item); rfl; (assumption)) | (apply idx_tuple; (one_item); rfl; (assumption)) | (apply idx_list (k := 0); (one_item); rfl; rfl) | (apply idx_tuple (k := 0); (one_item); rfl; rfl) | (apply idx_tuple (k := 1); (one_item); rfl; rfl) | exact idx_str rfl (by assumption))
local macro_rules | `(tactic| pv_eval) => `(tactic| first
  | exact e_int | exact e_str | exact e_bool | exact e_non | exact e_nil
  | (apply e_var; (one_place))
  | (apply e_attr; (pv_eval); (one_item); (leaf_len))
  | (apply e_dget; (pv_eval); (one_item); (leaf_len))
  | (apply e_dhas; (pv_eval); (one_item); (leaf_len))
  | (apply e_dhasnt; (pv_eval); (one_item); (leaf_len))
  | (apply e_dgetd; (pv_eval); (one_item); (pv_eval); (leaf_len))
  | (apply e_sub; (pv_eval); (pv_eval); (l_ints))
  | (apply e_cmp; (pv_eval); (pv_eval); (leaf_len))
  | (apply e_bin; (pv_eval); (pv_eval); (leaf_len))
  | (apply e_lnot; (pv_eval); (one_sign))
  | (apply e_neg; (pv_eval))
  | (apply e_isNone; (pv_eval))
  | (apply e_ands; (modx_arm))
  | (apply e_ors; (modx_arm))
  | (apply e_iteT; (pv_eval); (one_sign); (pv_eval))
  | (apply e_iteF; (pv_eval); (one_sign); (pv_eval))
  | (apply e_list; (mod_arm))
  | (apply e_tuple; (mod_arm))
  | (apply e_dict; (o_shape))
  | exact e_tdict
  | (apply e_bcall; (mod_arm); (first | assumption | (apply len_list; (one_item)) | rfl))
  | (apply e_call; (mod_arm); (assumption))
  | (apply e_slice; (pv_eval); (pv_eval); (pv_eval); (assumption))
  | (apply e_bmeth; (pv_eval); (first | assumption | (apply mOk_str; (focus (simp; done))) | (apply mOk_list; (one_item); (focus (simp; done)))); (mod_arm); (first | assumption | rfl)))
local macro_rules | `(tactic| modx_arm) => `(tactic| first
  | (apply b_last; (pv_eval))
  | (apply b_go; (pv_eval); (one_sign); (modx_arm))
  | (apply b_stop; (pv_eval); (one_sign)))
local macro_rules | `(tactic| mod_arm) => `(tactic| first | exact l_nil | (apply l_cons; (pv_eval); (mod_arm)))
local macro_rules | `(tactic| o_shape) => `(tactic| first | exact kv_nil | (apply kv_cons; (pv_eval); (o_shape)))
local macro_rules | `(tactic| one_sign) => `(tactic| first | rfl | assumption | exact (truthy_list (by one_item)).trans rfl | (refine congrArg some ?_; first | (apply decide_eq_true; (omega)) | (apply decide_eq_false; (omega)) | assumption | (focus (simp; done)) | (focus (simp; omega)) | (focus (simp [*]; done))))
namespace P1
variable {d : Nat} {σ : St}
theorem s_contains {c a : Nat} {s : List Nat} (hc : σ[c]? = some (.list [.ref a])) (ha : σ[a]? = some (dText s)) :
    callN prog (d + 1) "_contains_emphasis_marker" [.ref c] σ = some (.bool (s.contains 42 || s.contains 95), σ) := by
  refine call1 rfl rfl ?_
  have i1 : cmpOp σ .isin (.str [42]) (.str s) = some (s.contains 42) := rfl
  have i2 : cmpOp σ .isin (.str [95]) (.str s) = some (s.contains 95) := rfl
  by_cases h1 : s.contains 42 = true
  · rw [h1] at i1 ⊢
    exact runR (run_of (run_for (src_var (by one_place)) (size_list hc) (for_oneR (size_list hc) (bind_list hc rfl) (seqR (x_ifT (by pv_eval) (by one_sign) (seqN (x_assign (by pv_eval)) (seqR (x_ifT (by pv_eval) (by one_sign) (seqR (x_ret (by pv_eval)))))))))))
  · have h1 : s.contains 42 = false := by simpa using h1
    rw [h1] at i1 ⊢
    by_cases h2 : s.contains 95 = true
    · rw [h2] at i2 ⊢
      exact runR (run_of (run_for (src_var (by one_place)) (size_list hc) (for_oneR (size_list hc) (bind_list hc rfl) (seqR (x_ifT (by pv_eval) (by one_sign) (seqN (x_assign (by pv_eval)) (seqR (x_ifT (by pv_eval) (by one_sign) (seqR (x_ret (by pv_eval)))))))))))
    · have h2 : s.contains 95 = false := by simpa using h2
      rw [h2] at i2 ⊢
      exact runN (run_for (src_var (by one_place)) (size_list hc) (for_one (size_list hc) (bind_list hc rfl) (seqN (x_ifT (by pv_eval) (by one_sign) (seqN (x_assign (by pv_eval)) (seqN (x_ifF (by pv_eval) (by one_sign) x_done) x_done))) x_done) (size_list hc))) (runR (run_ret (by pv_eval)))
theorem s_clean {a : Nat} {fs : List (String × V)} (ha : σ[a]? = some (.dict fs)) (h1 : (fs.lookup "_emphasis").isSome = false) (h2 : (fs.lookup "_autolink").isSome = false) : callN prog (d + 1) "_clean_emphasis_token" [.ref a] σ = some (.ref a, σ) :=
  call1 rfl rfl (runR (run_ifT (by pv_eval) (by one_sign) (runR (run_ret (by pv_eval)))))
theorem s_srclen {a : Nat} {s : List Nat} (ha : σ[a]? = some (dText s)) : callN prog (d + 1) "_emphasis_source_length" [.ref a] σ = some (.int s.length, σ) :=
  call1 rfl rfl (runR (run_ifT (by pv_eval) (by one_sign) (runR (run_ret (by pv_eval)))))
theorem s_source {c a : Nat} {s : List Nat} (hc : σ[c]? = some (.list [.ref a])) (ha : σ[a]? = some (dText s)) (hs : s.length ≤ 1000) (h0 : σ ≠ []) :
    ∃ σ', callN prog (d + 1) "_emphasis_source_text" [.ref c] σ = some (.str s, σ') ∧ Fr [] σ σ' := by
  have hn : σ.length ≠ 0 := by simpa using h0
  have hne : σ.length ≠ c := Nat.ne_of_gt (get_lt hc)
  have ha' : (σ ++ [O.list []])[a]? = some (dText s) := get_app ha
  have e0 : builtinM (σ ++ [O.list []]) (.ref σ.length) "append" [.str s] = some (.none, (σ ++ [O.list []]).set σ.length (.list [.str s])) := app_list get_last ⟨by decide, hn⟩
  have e1 : builtinM ((σ ++ [O.list []]).set σ.length (.list [.str s])) (.str []) "join" [.ref σ.length] = some (.str s, (σ ++ [O.list []]).set σ.length (.list [.str s])) := by
    have := join_list (σ := (σ ++ [O.list []]).set σ.length (.list [.str s])) (n := σ.length) (vs := [.str s]) (l := [s]) (get_set_eq get_last) rfl (by simp [LIM]; omega)
    simpa using this
  have hc' : ((σ ++ [O.list []]).set σ.length (.list [.str s]))[c]? = some (.list [.ref a]) := get_set_ne hne (get_app hc)
  exact ⟨_, call1 rfl rfl (runN (x_assign (by pv_eval)) (runN (run_for (src_var (by one_place)) (size_list (get_app hc)) (for_one (size_list (get_app hc)) (bind_list (get_app hc) rfl) (seqN (x_ifT (by pv_eval) (by one_sign) (seqN (x_expr (by pv_eval)) x_done)) x_done) (size_list hc'))) (runR (run_ret (by pv_eval))))),
    Fr.app.setNew (.inr (Nat.le_refl _))⟩
theorem s_entity {l : List Nat} {v : V} (h : endsS l [38] = false) : callN prog (d + 1) "is_entity_boundary" [.str l, v] σ = some (.bool false, σ) := by
  have e : builtinM σ (.str l) "endswith" [.str [38]] = some (.bool false, σ) := by rw [← h]; rfl
  exact call1 rfl rfl (runR (run_ret (by pv_eval)))
def punct (c : Nat) : Bool := !spaceS [c] && !alnumS [c]
theorem s_punct {c : Nat} : callN prog (d + 1) "_is_punctuation" [.str [c]] σ = some (.bool (punct c), σ) := by
  have e1 : builtinM σ (.str [c]) "isspace" [] = some (.bool (spaceS [c]), σ) := rfl
  have e2 : builtinM σ (.str [c]) "isalnum" [] = some (.bool (alnumS [c]), σ) := rfl
  unfold punct
  cases h : spaceS [c]
  · rw [h] at e1
    exact call1 rfl rfl (runR (run_ret (by pv_eval)))
  · rw [h] at e1
    exact (show _ = some (V.bool (!true), σ) from call1 rfl rfl (runR (run_ret (by pv_eval))))
def canO (m p q : Nat) : Bool := if m = 95 ∧ alnumS [p] = true ∧ alnumS [q] = true then false else if spaceS [q] = true then false else if punct q = true ∧ spaceS [p] = false ∧ punct p = false then false else true
def canC (m p q : Nat) : Bool := if m = 95 ∧ alnumS [p] = true ∧ alnumS [q] = true then false else if spaceS [p] = true then false else if punct p = true ∧ spaceS [q] = false ∧ punct q = false then false else true
/-- the sign before a run and the sign behind it -/
def chBefore (t : List Nat) (start : Nat) : Nat := if start = 0 then 10 else t.getD (start - 1) 10
def chBehind (t : List Nat) (stop : Nat) : Nat := t.getD stop 10
theorem b_ands {cf : CallF} {ℓ : Loc} {e1 e2 e3 : E} {b1 b2 b3 : Bool} (h1 : evalE cf e1 ℓ σ = some (.bool b1, σ)) (h2 : evalE cf e2 ℓ σ = some (.bool b2, σ)) (h3 : evalE cf e3 ℓ σ = some (.bool b3, σ)) :
    evalE cf (.ands (.cons e1 (.cons e2 (.cons e3 .nil)))) ℓ σ = some (.bool (b1 && (b2 && b3)), σ) := by
  cases b1
  · exact e_ands (b_stop h1 rfl)
  · cases b2
    · exact e_ands (b_go h1 rfl (b_stop h2 rfl))
    · exact e_ands (b_go h1 rfl (b_go h2 rfl (b_last h3)))
theorem before_eval {cf : CallF} {ℓ : Loc} {t : List Nat} {start : Nat} (h1 : ℓ "text" = some (.str t)) (h2 : ℓ "start" = some (.int start)) (hs : start ≤ t.length) :
    evalE cf (.ite (.cmp .gt (.var "start") (.int 0)) (.sub (.var "text") (.bin .sub (.var "start") (.int 1))) (.str [10])) ℓ σ = some (.str [chBefore t start], σ) := by
  unfold chBefore
  by_cases h : start = 0
  · subst h; rw [if_pos rfl]; pv_eval
  · rw [if_neg h]
    have hi : index σ (.str t) (.int ((start : Int) - 1)) = some (.str [t.getD (start - 1) 10]) :=
      idx_str (k := start - 1) (by omega) (by rw [List.getD_eq_getElem?_getD, List.getElem?_eq_getElem (by omega)]; rfl)
    have hg : decide ((start : Int) > 0) = true := decide_eq_true (by omega)
    pv_eval
theorem behind_eval {cf : CallF} {ℓ : Loc} {t : List Nat} {start size : Nat} (h1 : ℓ "text" = some (.str t)) (h2 : ℓ "start" = some (.int start)) (h3 : ℓ "size" = some (.int size)) :
    evalE cf (.ite (.cmp .lt (.bin .add (.var "start") (.var "size")) (.bcall "len" (.cons (.var "text") .nil))) (.sub (.var "text") (.bin .add (.var "start") (.var "size"))) (.str [10])) ℓ σ = some (.str [chBehind t (start + size)], σ) := by
  unfold chBehind
  have hz : ((start + size : Nat) : Int) = (start : Int) + size := by omega
  by_cases h : start + size < t.length
  · have hi : index σ (.str t) (.int ((start : Int) + size)) = some (.str [t.getD (start + size) 10]) :=
      idx_str (k := start + size) (by omega) (by rw [List.getD_eq_getElem?_getD, List.getElem?_eq_getElem h]; rfl)
    have hg : decide ((start : Int) + size < t.length) = true := decide_eq_true (by omega)
    pv_eval
  · have hg : decide ((start : Int) + size < t.length) = false := decide_eq_false (by omega)
    rw [List.getD_eq_getElem?_getD, List.getElem?_eq_none (by omega)]
    pv_eval
theorem s_can_open {t : List Nat} {start size m : Nat} (hs : start ≤ t.length) :
    callN prog (d + 2) "_can_open_emphasis" [.str t, .int start, .int size, .str [m]] σ = some (.bool (canO m (chBefore t start) (chBehind t (start + size))), σ) := by
  refine call1 rfl rfl (runN (x_assign (before_eval (by one_place) (by one_place) hs)) (runN (x_assign (behind_eval (by one_place) (by one_place) (by one_place))) ?_))
  generalize chBefore t start = p
  generalize chBehind t (start + size) = q
  have e1 : ∀ c, builtinM σ (.str [c]) "isspace" [] = some (.bool (spaceS [c]), σ) := fun _ => rfl
  have e2 : ∀ c, builtinM σ (.str [c]) "isalnum" [] = some (.bool (alnumS [c]), σ) := fun _ => rfl
  have e1p := e1 p
  have e1q := e1 q
  have e2p := e2 p
  have e2q := e2 q
  have hpp := s_punct (d := d) (σ := σ) (c := p)
  have hpq := s_punct (d := d) (σ := σ) (c := q)
  have hm : cmpOp σ .eq (.str [m]) (.str [95]) = some (decide (m = 95)) := by
    show some ([m] == [95]) = _
    by_cases h : m = 95
    · subst h; rfl
    · rw [decide_eq_false h]; simp [h]
  have q1 := b_ands (cf := callN prog (d + 1)) (σ := σ) (ℓ := (((params ["text", "start", "size", "marker"] [V.str t, V.int start, V.int size, V.str [m]]).set "previous" (V.str [p])).set "next_char" (V.str [q])))
    (e1 := .cmp .eq (.var "marker") (.str [95])) (e2 := .bmeth (.var "previous") "isalnum" .nil) (e3 := .bmeth (.var "next_char") "isalnum" .nil) (b1 := decide (m = 95)) (b2 := alnumS [p]) (b3 := alnumS [q]) (by pv_eval) (by pv_eval) (by pv_eval)
  have q2 := b_ands (cf := callN prog (d + 1)) (σ := σ) (ℓ := (((params ["text", "start", "size", "marker"] [V.str t, V.int start, V.int size, V.str [m]]).set "previous" (V.str [p])).set "next_char" (V.str [q])))
    (e1 := .call "_is_punctuation" (.cons (.var "next_char") .nil)) (e2 := .lnot (.bmeth (.var "previous") "isspace" .nil)) (e3 := .lnot (.call "_is_punctuation" (.cons (.var "previous") .nil))) (b1 := punct q) (b2 := !spaceS [p]) (b3 := !punct p) (by pv_eval) (by pv_eval) (by pv_eval)
  unfold canO
  by_cases c1 : m = 95 ∧ alnumS [p] = true ∧ alnumS [q] = true
  · rw [if_pos c1]
    exact runR (run_ifT q1 (by simp [truthy, c1]) (runR (run_ret (by pv_eval))))
  · rw [if_neg c1]
    refine runN (x_ifF q1 (by simp only [truthy, Option.some.injEq]; by_cases h0 : m = 95 <;> cases h2 : alnumS [p] <;> cases h3 : alnumS [q] <;> simp_all) x_done) ?_
    by_cases c2 : spaceS [q] = true
    · rw [if_pos c2]
      exact runR (run_ifT (v := .bool (spaceS [q])) (by pv_eval) (by rw [c2]; rfl) (runR (run_ret (by pv_eval))))
    · rw [if_neg c2]
      refine runN (x_ifF (v := .bool (spaceS [q])) (by pv_eval) (by simp at c2; rw [c2]; rfl) x_done) ?_
      by_cases c3 : punct q = true ∧ spaceS [p] = false ∧ punct p = false
      · rw [if_pos c3]
        exact runR (run_ifT q2 (by simp [truthy, c3]) (runR (run_ret (by pv_eval))))
      · rw [if_neg c3]
        exact runN (x_ifF q2 (by simp only [truthy, Option.some.injEq]; simp at c3; cases h1 : punct q <;> cases h2 : spaceS [p] <;> cases h3 : punct p <;> simp_all) x_done) (runR (run_ret (by pv_eval)))
theorem s_can_close {t : List Nat} {start size m : Nat} (hs : start ≤ t.length) :
    callN prog (d + 2) "_can_close_emphasis" [.str t, .int start, .int size, .str [m]] σ = some (.bool (canC m (chBefore t start) (chBehind t (start + size))), σ) := by
  refine call1 rfl rfl (runN (x_assign (before_eval (by one_place) (by one_place) hs)) (runN (x_assign (behind_eval (by one_place) (by one_place) (by one_place))) ?_))
  generalize chBefore t start = p
  generalize chBehind t (start + size) = q
  have e1 : ∀ c, builtinM σ (.str [c]) "isspace" [] = some (.bool (spaceS [c]), σ) := fun _ => rfl
  have e2 : ∀ c, builtinM σ (.str [c]) "isalnum" [] = some (.bool (alnumS [c]), σ) := fun _ => rfl
  have e1p := e1 p
  have e1q := e1 q
  have e2p := e2 p
  have e2q := e2 q
  have hpp := s_punct (d := d) (σ := σ) (c := p)
  have hpq := s_punct (d := d) (σ := σ) (c := q)
  have hm : cmpOp σ .eq (.str [m]) (.str [95]) = some (decide (m = 95)) := by
    show some ([m] == [95]) = _
    by_cases h : m = 95
    · subst h; rfl
    · rw [decide_eq_false h]; simp [h]
  have q1 := b_ands (cf := callN prog (d + 1)) (σ := σ) (ℓ := (((params ["text", "start", "size", "marker"] [V.str t, V.int start, V.int size, V.str [m]]).set "previous" (V.str [p])).set "next_char" (V.str [q])))
    (e1 := .cmp .eq (.var "marker") (.str [95])) (e2 := .bmeth (.var "previous") "isalnum" .nil) (e3 := .bmeth (.var "next_char") "isalnum" .nil) (b1 := decide (m = 95)) (b2 := alnumS [p]) (b3 := alnumS [q]) (by pv_eval) (by pv_eval) (by pv_eval)
  have q2 := b_ands (cf := callN prog (d + 1)) (σ := σ) (ℓ := (((params ["text", "start", "size", "marker"] [V.str t, V.int start, V.int size, V.str [m]]).set "previous" (V.str [p])).set "next_char" (V.str [q])))
    (e1 := .call "_is_punctuation" (.cons (.var "previous") .nil)) (e2 := .lnot (.bmeth (.var "next_char") "isspace" .nil)) (e3 := .lnot (.call "_is_punctuation" (.cons (.var "next_char") .nil))) (b1 := punct p) (b2 := !spaceS [q]) (b3 := !punct q) (by pv_eval) (by pv_eval) (by pv_eval)
  unfold canC
  by_cases c1 : m = 95 ∧ alnumS [p] = true ∧ alnumS [q] = true
  · rw [if_pos c1]
    exact runR (run_ifT q1 (by simp [truthy, c1]) (runR (run_ret (by pv_eval))))
  · rw [if_neg c1]
    refine runN (x_ifF q1 (by simp only [truthy, Option.some.injEq]; by_cases h0 : m = 95 <;> cases h2 : alnumS [p] <;> cases h3 : alnumS [q] <;> simp_all) x_done) ?_
    by_cases c2 : spaceS [p] = true
    · rw [if_pos c2]
      exact runR (run_ifT (v := .bool (spaceS [p])) (by pv_eval) (by rw [c2]; rfl) (runR (run_ret (by pv_eval))))
    · rw [if_neg c2]
      refine runN (x_ifF (v := .bool (spaceS [p])) (by pv_eval) (by simp at c2; rw [c2]; rfl) x_done) ?_
      by_cases c3 : punct p = true ∧ spaceS [q] = false ∧ punct q = false
      · rw [if_pos c3]
        exact runR (run_ifT q2 (by simp [truthy, c3]) (runR (run_ret (by pv_eval))))
      · rw [if_neg c3]
        exact runN (x_ifF q2 (by simp only [truthy, Option.some.injEq]; simp at c3; cases h1 : punct p <;> cases h2 : spaceS [q] <;> cases h3 : punct q <;> simp_all) x_done) (runR (run_ret (by pv_eval)))
end P1
end Mine
end

/-! W3 -/
section
open PySem PySem.W PyProof.Rows
set_option linter.unusedVariables false
set_option linter.unusedSimpArgs false
namespace Mine
local macro_rules | `(tactic| one_place) => `(tactic| first | assumption | (simp only [Loc.set, params_cons, params_nil, String.reduceEq, if_true, if_false, reduceIte]; first | rfl | assumption))
local macro_rules | `(tactic| one_item) => `(tactic| first | assumption | exact get_last | (apply get_app; (one_item)) | (apply get_set_eq; (one_item)) | (apply get_set_ne; (first | assumption | omega); (one_item)))
local macro_rules | `(tactic| leaf_len) => `(tactic| first | assumption | rfl | (focus (simp; done)))
local macro_rules | `(tactic| l_ints) => `(tactic| first | assumption | (apply idx_list; (one_item); rfl; (assumption)) | (apply idx_tuple; (one_item); rfl; (assumption)) | (apply idx_list (k := 0); (one_item); rfl; rfl) | (apply idx_tuple (k := 0); (one_item); rfl; rfl) | (apply idx_tuple (k := 1); (one_item); rfl; rfl) | exact idx_str rfl (by assumption))
local macro_rules | `(tactic| pv_eval) => `(tactic| first
  | exact e_int | exact e_str | exact e_bool | exact e_non | exact e_nil
  | (apply e_var; (one_place))
  | (apply e_attr; (pv_eval); (one_item); (leaf_len))
  | (apply e_dget; (pv_eval); (one_item); (leaf_len))
  | (apply e_dhas; (pv_eval); (one_item); (leaf_len))
  | (apply e_dhasnt; (pv_eval); (one_item); (leaf_len))
  | (apply e_dgetd; (pv_eval); (one_item); (pv_eval); (leaf_len))
  | (apply e_sub; (pv_eval); (pv_eval); (l_ints))
  | (apply e_cmp; (pv_eval); (pv_eval); (leaf_len))
  | (apply e_bin; (pv_eval); (pv_eval); (leaf_len))
  | (apply e_lnot; (pv_eval); (one_sign))
  | (apply e_neg; (pv_eval))
  | (apply e_isNone; (pv_eval))
  | (apply e_ands; (modx_arm))
  | (apply e_ors; (modx_arm))
  | (apply e_iteT; (pv_eval); (one_sign); (pv_eval))
  | (apply e_iteF; (pv_eval); (one_sign); (pv_eval))
  | (apply e_list; (mod_arm))
  | (apply e_tuple; (mod_arm))
  | (apply e_dict; (o_shape))
  | exact e_tdict
  | (apply e_bcall; (mod_arm); (first | assumption | (apply len_list; (one_item)) | rfl))
  | (apply e_call; (mod_arm); (assumption))
  | (apply e_slice; (pv_eval); (pv_eval); (pv_eval); (assumption))
  | (apply e_bmeth; (pv_eval); (first | assumption | (apply mOk_str; (focus (simp; done))) | (apply mOk_list; (one_item); (focus (simp; done)))); (mod_arm); (first | assumption | rfl)))
local macro_rules | `(tactic| modx_arm) => `(tactic| first
  | (apply b_last; (pv_eval))
  | (apply b_go; (pv_eval); (one_sign); (modx_arm))
  | (apply b_stop; (pv_eval); (one_sign)))
local macro_rules | `(tactic| mod_arm) => `(tactic| first | exact l_nil | (apply l_cons; (pv_eval); (mod_arm)))
local macro_rules | `(tactic| o_shape) => `(tactic| first | exact kv_nil | (apply kv_cons; (pv_eval); (o_shape)))
local macro_rules | `(tactic| one_sign) => `(tactic| first | rfl | assumption | exact (truthy_list (by one_item)).trans rfl | (refine congrArg some ?_; first | (apply decide_eq_true; (omega)) | (apply decide_eq_false; (omega)) | assumption | (focus (simp; done)) | (focus (simp; omega)) | (focus (simp [*]; done))))
namespace P1
variable {d : Nat} {σ : St}
theorem Loc.set_set {ℓ : Loc} {x : String} {a b : V} : (ℓ.set x a).set x b = ℓ.set x b := by
  funext y; unfold Loc.set; split <;> rfl
theorem scan_while {cf : CallF} {ℓ : Loc} {σ : St} {x : String} {c : E} (test : Nat → Bool) (hc : ∀ k : Nat, evalC cf c (ℓ.set x (.int k)) σ = some (test k, σ)) :
    ∀ r a n fuel, a + r = n → (∀ k, a ≤ k → k < n → test k = true) → test n = false → r < fuel →
    whileGo (fun ℓ σ => evalC cf c ℓ σ) (fun ℓ σ => execS cf (.seq (.aug x .add (.int 1)) .done) ℓ σ) fuel (ℓ.set x (.int a)) σ = some (.next, ℓ.set x (.int n), σ)
  | 0, a, n, 0, _, _, _, hf => by omega
  | 0, a, n, f + 1, e, _, hn, hf => by
    have : a = n := by omega
    subst this
    simp only [whileGo, hc, hn, Option.bind_eq_bind, Option.bind_some, Bool.false_eq_true, if_false]
  | r + 1, a, n, 0, _, _, _, hf => by omega
  | r + 1, a, n, f + 1, e, hk, hn, hf => by
    have hb : execS cf (.seq (.aug x .add (.int 1)) .done) (ℓ.set x (.int a)) σ = some (.next, ℓ.set x (.int (a + 1 : Nat)), σ) := by
      have h0 : (ℓ.set x (.int a)) x = some (.int a) := by simp [Loc.set]
      have := seqN (b := .done) (x_aug (cf := cf) (o := .add) (e := .int 1) (u := .int (a + 1)) h0 (e_int (σ := σ)) rfl) x_done
      rw [Loc.set_set] at this
      exact this
    have ih := scan_while test hc r (a + 1) n f (by omega) (fun k h1 h2 => hk k (by omega) h2) hn (by omega)
    simp only [whileGo, hc, hk a (Nat.le_refl _) (by omega), if_true, hb, Option.bind_eq_bind, Option.bind_some, ih]
def isMk (c : Nat) : Bool := c == 42 || c == 95
theorem notin_mk {c : Nat} : cmpOp σ .notin (.str [c]) (.str [42, 95]) = some (!isMk c) := by
  show some (!([42, 95] : List Nat).contains c) = _
  have : ([42, 95] : List Nat).contains c = isMk c := by simp [isMk]; rfl
  rw [this]
theorem idx_at {t : List Nat} {k : Nat} (h : k < t.length) : index σ (.str t) (.int k) = some (.str [t.getD k 10]) :=
  idx_str rfl (by rw [List.getD_eq_getElem?_getD, List.getElem?_eq_getElem h]; rfl)
theorem s_next {t : List Nat} {a n : Nat} (han : a ≤ n) (hn : n ≤ t.length) (hl : t.length ≤ 1000) (h1 : ∀ k, a ≤ k → k < n → isMk (t.getD k 10) = false) (h2 : n < t.length → isMk (t.getD n 10) = true) :
    callN prog (d + 1) "_next_delimiter_run" [.str t, .int a] σ = some (.int n, σ) := by
  refine call1 rfl rfl ?_
  have hp : params ["text", "pos"] [V.str t, .int a] = (params ["text"] [V.str t]).set "pos" (.int a) := by
    funext y
    simp only [params_cons, params_nil, Loc.set]
    by_cases h : y = "text"
    · subst h; simp
    · simp [h]
  rw [hp]
  have hc : ∀ k : Nat, evalC (callN prog d) (.ands (.cons (.cmp .lt (.var "pos") (.bcall "len" (.cons (.var "text") .nil))) (.cons (.cmp .notin (.sub (.var "text") (.var "pos")) (.str [42, 95])) .nil))) ((params ["text"] [V.str t]).set "pos" (.int k)) σ = some (decide (k < t.length) && !isMk (t.getD k 10), σ) := by
    intro k
    by_cases h : k < t.length
    · have hi := idx_at (σ := σ) h
      have hm := notin_mk (σ := σ) (c := t.getD k 10)
      have hg : decide ((k : Int) < t.length) = true := decide_eq_true (by omega)
      refine c_of (v := .bool (!isMk (t.getD k 10))) (by simp) (by pv_eval) ?_
      simp [truthy, h]
    · have hg : decide ((k : Int) < t.length) = false := decide_eq_false (by omega)
      refine c_of (v := .bool (decide ((k : Int) < t.length))) (by simp) (by pv_eval) ?_
      simp [truthy, h]
  refine runN ((x_while).trans (scan_while (fun k => decide (k < t.length) && !isMk (t.getD k 10)) hc (n - a) a n WLIM (by omega) ?_ ?_ (by unfold WLIM; omega))) (runR (run_ret (by pv_eval)))
  · intro k h3 h4
    show (decide (k < t.length) && !isMk (t.getD k 10)) = true
    rw [h1 k h3 h4, decide_eq_true (show k < t.length by omega)]; rfl
  · by_cases h : n < t.length
    · show (decide (n < t.length) && !isMk (t.getD n 10)) = false
      rw [h2 h]; simp
    · simp [h]
theorem s_init {a x m ord : Nat} {L : Int} {co cc : Bool} (ha : σ[a]? = some (.inst "_Delimiter" [])) (h0 : a ≠ 0) :
    callN prog (d + 1) "_Delimiter.__init__" [.ref a, .int x, .str [m], .int L, .bool co, .bool cc, .int L, .int ord] σ = some (.none, σ.set a (Dlm x m L co cc L ord)) := by
  have e : ((((((σ.set a (O.inst "_Delimiter" (setField [] "index" (.int x)))).set a (O.inst "_Delimiter" (setField (setField [] "index" (.int x)) "marker" (.str [m])))).set a (O.inst "_Delimiter" (setField (setField (setField [] "index" (.int x)) "marker" (.str [m])) "length" (.int L)))).set a (O.inst "_Delimiter" (setField (setField (setField (setField [] "index" (.int x)) "marker" (.str [m])) "length" (.int L)) "can_open" (.bool co)))).set a (O.inst "_Delimiter" (setField (setField (setField (setField (setField [] "index" (.int x)) "marker" (.str [m])) "length" (.int L)) "can_open" (.bool co)) "can_close" (.bool cc)))).set a (O.inst "_Delimiter" (setField (setField (setField (setField (setField (setField [] "index" (.int x)) "marker" (.str [m])) "length" (.int L)) "can_open" (.bool co)) "can_close" (.bool cc)) "orig_length" (.int L)))).set a (O.inst "_Delimiter" (setField (setField (setField (setField (setField (setField (setField [] "index" (.int x)) "marker" (.str [m])) "length" (.int L)) "can_open" (.bool co)) "can_close" (.bool cc)) "orig_length" (.int L)) "order" (.int ord))) = σ.set a (Dlm x m L co cc L ord) := by
    simp only [List.set_set, setField, String.reduceBEq, Bool.false_eq_true, if_false]
  rw [← e]
  exact call0 rfl rfl (runN (x_setAttr (by pv_eval) (by pv_eval) (by one_item) ⟨by simp [setField], h0⟩) (runN (x_setAttr (by pv_eval) (by pv_eval) (by one_item) ⟨by simp [setField], h0⟩) (runN (x_setAttr (by pv_eval) (by pv_eval) (by one_item) ⟨by simp [setField], h0⟩) (runN (x_setAttr (by pv_eval) (by pv_eval) (by one_item) ⟨by simp [setField], h0⟩)
    (runN (x_setAttr (by pv_eval) (by pv_eval) (by one_item) ⟨by simp [setField], h0⟩) (runN (x_setAttr (by pv_eval) (by pv_eval) (by one_item) ⟨by simp [setField], h0⟩) (runN (x_setAttr (by pv_eval) (by pv_eval) (by one_item) ⟨by simp [setField], h0⟩) run_done)))))))
end P1
end Mine
end

/-! W4 -/
section
open PySem PySem.W PyProof.Rows
set_option linter.unusedVariables false
set_option linter.unusedSimpArgs false
namespace Mine
local macro_rules | `(tactic| one_place) => `(tactic| first | assumption | (simp only [Loc.set, params_cons, params_nil, String.reduceEq, if_true, if_false, reduceIte]; first | rfl | assumption))
local macro_rules | `(tactic| one_item) => `(tactic| first | assumption | exact get_last | (apply get_app; (one_item)) | (apply get_set_eq; (one_item)) | (apply get_set_ne; (first | assumption | omega); (one_item)))
local macro_rules | `(tactic| leaf_len) => `(tactic| first | assumption | rfl | (focus (simp; done)))
local macro_rules | `(tactic| l_ints) => `(tactic| first | assumption | (apply idx_list; (one_item); rfl; (assumption)) | (apply idx_tuple; (one_item); rfl; (assumption)) | (apply idx_list (k := 0); (one_item); rfl; rfl) | (apply idx_tuple (k := 0); (one_item); rfl; rfl) | (apply idx_tuple (k := 1); (one_item); rfl; rfl) | exact idx_str rfl (by assumption))
local macro_rules | `(tactic| pv_eval) => `(tactic| first
  | exact e_int | exact e_str | exact e_bool | exact e_non | exact e_nil
  | (apply e_var; (one_place))
  | (apply e_attr; (pv_eval); (one_item); (leaf_len))
  | (apply e_dget; (pv_eval); (one_item); (leaf_len))
  | (apply e_dhas; (pv_eval); (one_item); (leaf_len))
  | (apply e_dhasnt; (pv_eval); (one_item); (leaf_len))
  | (apply e_dgetd; (pv_eval); (one_item); (pv_eval); (leaf_len))
  | (apply e_sub; (pv_eval); (pv_eval); (l_ints))
  | (apply e_cmp; (pv_eval); (pv_eval); (leaf_len))
  | (apply e_bin; (pv_eval); (pv_eval); (leaf_len))
  | (apply e_lnot; (pv_eval); (one_sign))
  | (apply e_neg; (pv_eval))
  | (apply e_isNone; (pv_eval))
  | (apply e_ands; (modx_arm))
  | (apply e_ors; (modx_arm))
  | (apply e_iteT; (pv_eval); (one_sign); (pv_eval))
  | (apply e_iteF; (pv_eval); (one_sign); (pv_eval))
  | (apply e_list; (mod_arm))
  | (apply e_tuple; (mod_arm))
  | (apply e_dict; (o_shape))
  | exact e_tdict
  | (apply e_bcall; (mod_arm); (first | assumption | (apply len_list; (one_item)) | rfl))
  | (apply e_call; (mod_arm); (assumption))
  | (apply e_slice; (pv_eval); (pv_eval); (pv_eval); (assumption))
  | (apply e_bmeth; (pv_eval); (first | assumption | (apply mOk_str; (focus (simp; done))) | (apply mOk_list; (one_item); (focus (simp; done)))); (mod_arm); (first | assumption | rfl)))
local macro_rules | `(tactic| modx_arm) => `(tactic| first
  | (apply b_last; (pv_eval))
  | (apply b_go; (pv_eval); (one_sign); (modx_arm))
  | (apply b_stop; (pv_eval); (one_sign)))
local macro_rules | `(tactic| mod_arm) => `(tactic| first | exact l_nil | (apply l_cons; (pv_eval); (mod_arm)))
local macro_rules | `(tactic| o_shape) => `(tactic| first | exact kv_nil | (apply kv_cons; (pv_eval); (o_shape)))
local macro_rules | `(tactic| one_sign) => `(tactic| first | rfl | assumption | exact (truthy_list (by one_item)).trans rfl | (refine congrArg some ?_; first | (apply decide_eq_true; (omega)) | (apply decide_eq_false; (omega)) | assumption | (focus (simp; done)) | (focus (simp; omega)) | (focus (simp [*]; done))))
namespace P1
variable {d : Nat}
/-- a stretch of the text: a run of one sign, or what lies between -/
structure Grp where
  raw : List Nat
  run : Bool
structure DI where
  x : Nat
  m : Nat
  L : Nat
  co : Bool
  cc : Bool
def flat (gs : List Grp) : List Nat := (gs.map (·.raw)).flatten
theorem flat_cons {g : Grp} {r : List Grp} : flat (g :: r) = g.raw ++ flat r := rfl
theorem flat_app {a b : List Grp} : flat (a ++ b) = flat a ++ flat b := by simp [flat]
def dlms (t : List Nat) : Nat → Nat → List Grp → List DI
  | _, _, [] => []
  | x, pos, g :: r =>
    if g.run ∧ (canO (g.raw.headD 0) (chBefore t pos) (chBehind t (pos + g.raw.length)) || canC (g.raw.headD 0) (chBefore t pos) (chBehind t (pos + g.raw.length))) = true then
      ⟨x, g.raw.headD 0, g.raw.length, canO (g.raw.headD 0) (chBefore t pos) (chBehind t (pos + g.raw.length)), canC (g.raw.headD 0) (chBefore t pos) (chBehind t (pos + g.raw.length))⟩ :: dlms t (x + 1) (pos + g.raw.length) r
    else dlms t (x + 1) (pos + g.raw.length) r
def GOK : List Grp → Prop
  | [] => True
  | g :: r => g.raw ≠ [] ∧ (if g.run = true then (∃ m n, isMk m = true ∧ g.raw = List.replicate n m ∧ (flat r).head? ≠ some m) else ((∀ c ∈ g.raw, isMk c = false) ∧ ∀ c, (flat r).head? = some c → isMk c = true)) ∧ GOK r
theorem cut_mid {A G B : List Nat} : cut (A ++ (G ++ B)) A.length (A.length + G.length) = G := by
  unfold cut
  rw [List.drop_left, show A.length + G.length - A.length = G.length by omega, List.take_left]
theorem getD_mid {A G B : List Nat} {k : Nat} (h1 : A.length ≤ k) (h2 : k < A.length + G.length) : (A ++ (G ++ B)).getD k 10 = G.getD (k - A.length) 10 := by
  rw [List.getD_eq_getElem?_getD, List.getD_eq_getElem?_getD, List.getElem?_append_right h1, List.getElem?_append_left (by omega)]
theorem getD_behind {A G B : List Nat} : (A ++ (G ++ B)).getD (A.length + G.length) 10 = B.headD 10 := by
  rw [List.getD_eq_getElem?_getD, List.getElem?_append_right (by omega), List.getElem?_append_right (by omega)]
  rw [show A.length + G.length - A.length - G.length = 0 by omega]
  cases B <;> rfl
theorem part_app {cf : CallF} {ℓ : Loc} {σ : St} {pA a b : Nat} {ps : List V} {t g : List Nat} (l1 : ℓ "parts" = some (.ref pA)) (l2 : ℓ "text" = some (.str t)) (l3 : ℓ "pos" = some (.int a)) (l4 : ℓ "end" = some (.int b))
    (hp : σ[pA]? = some (.list ps)) (hc : cut t a b = g) (ha : a ≤ t.length) (hb : b ≤ t.length) (ht : t.length ≤ 1000) (h0 : pA ≠ 0) (hl : ps.length < LIM) :
    execS cf (.expr (.bmeth (.var "parts") "append" (.cons (.dict (.kv "type" (.str [116, 101, 120, 116]) (.kv "raw" (.slice (.var "text") (.var "pos") (.var "end")) .nil))) .nil))) ℓ σ = some (.next, ℓ, (σ ++ [dText g]).set pA (.list (ps ++ [.ref σ.length]))) := by
  have hL : t.length ≤ LIM := by unfold LIM; omega
  have hs : sliceOf σ (.str t) (.int a) (.int b) = some (.str g, σ) := by rw [← hc]; exact slice_str (bnd_nat rfl ha hL) (bnd_nat rfl hb hL)
  have hb : builtinM (σ ++ [dText g]) (.ref pA) "append" [.ref σ.length] = some (.none, (σ ++ [dText g]).set pA (.list (ps ++ [.ref σ.length]))) := app_list (get_app hp) ⟨hl, h0⟩
  exact x_expr (by pv_eval)
theorem init_name : ("_Delimiter" : String) ++ ".__init__" = "_Delimiter.__init__" := by decide
theorem del_app {ℓ : Loc} {σ : St} {qA x m n : Nat} {co cc : Bool} {ds : List V} (l1 : ℓ "delimiters" = some (.ref qA)) (l2 : ℓ "index" = some (.int x)) (l3 : ℓ "marker" = some (.str [m])) (l4 : ℓ "length" = some (.int n))
    (l5 : ℓ "can_open" = some (.bool co)) (l6 : ℓ "can_close" = some (.bool cc)) (hq : σ[qA]? = some (.list ds)) (h0 : qA ≠ 0) (hl : ds.length < LIM) :
    execS (callN prog (d + 1)) (.expr (.bmeth (.var "delimiters") "append" (.cons (.new "_Delimiter" (.cons (.var "index") (.cons (.var "marker") (.cons (.var "length") (.cons (.var "can_open") (.cons (.var "can_close") (.cons (.var "length") (.cons (.bcall "len" (.cons (.var "delimiters") .nil)) .nil)))))))) .nil))) ℓ σ =
      some (.next, ℓ, (σ ++ [Dlm x m n co cc n ds.length]).set qA (.list (ds ++ [.ref σ.length]))) := by
  have hn : σ.length ≠ 0 := by have := get_lt hq; omega
  have hi := s_init (d := d) (σ := σ ++ [.inst "_Delimiter" []]) (a := σ.length) (x := x) (m := m) (ord := ds.length) (L := n) (co := co) (cc := cc) get_last hn
  have e : (σ ++ [O.inst "_Delimiter" []]).set σ.length (Dlm x m n co cc n ds.length) = σ ++ [Dlm x m n co cc n ds.length] := by simp
  rw [e] at hi
  have hl' := len_list hq
  have hnew : evalE (callN prog (d + 1)) (.new "_Delimiter" (.cons (.var "index") (.cons (.var "marker") (.cons (.var "length") (.cons (.var "can_open") (.cons (.var "can_close") (.cons (.var "length") (.cons (.bcall "len" (.cons (.var "delimiters") .nil)) .nil)))))))) ℓ σ = some (.ref σ.length, σ ++ [Dlm x m n co cc n ds.length]) :=
    e_new (by mod_arm) (by rw [init_name]; exact hi)
  have hb : builtinM (σ ++ [Dlm x m n co cc n ds.length]) (.ref qA) "append" [.ref σ.length] = some (.none, (σ ++ [Dlm x m n co cc n ds.length]).set qA (.list (ds ++ [.ref σ.length]))) := app_list (get_app hq) ⟨hl, h0⟩
  exact x_expr (e_bmeth (e_var l1) (mOk_list hq (by simp)) (l_cons hnew l_nil) hb)
/-- the parts so far, and the delimiters -/
structure SpI (σ0 : St) (pA qA : Nat) (gs : List Grp) (dis : List DI) (ps ds : List Nat) (σ : St) : Prop where
  fr : Fr [pA, qA] σ0 σ
  pl : σ[pA]? = some (.list (ps.map .ref))
  ql : σ[qA]? = some (.list (ds.map .ref))
  plen : ps.length = gs.length
  dlen : ds.length = dis.length
  po : ∀ (k : Nat) (g : Grp), gs[k]? = some g → ∃ a, ps[k]? = some a ∧ σ[a]? = some (dText g.raw)
  dobj : ∀ (k : Nat) (D : DI), dis[k]? = some D → ∃ a, ds[k]? = some a ∧ σ[a]? = some (Dlm D.x D.m D.L D.co D.cc D.L k)
  pf : ∀ a ∈ ps, σ0.length ≤ a ∧ a < σ.length
  df : ∀ a ∈ ds, σ0.length ≤ a ∧ a < σ.length
  pnd : ps.Nodup
  dnd : ds.Nodup
theorem snoc_get {α : Type} {l : List α} {x y : α} {k : Nat} (h : (l ++ [x])[k]? = some y) : l[k]? = some y ∨ (k = l.length ∧ y = x) := by
  by_cases hk : k < l.length
  · rw [List.getElem?_append_left hk] at h; exact .inl h
  · rw [List.getElem?_append_right (by omega)] at h
    cases hz : k - l.length with
    | zero => rw [hz] at h; simp at h; exact .inr ⟨by omega, h.symm⟩
    | succ j => rw [hz] at h; simp at h
theorem snoc_old {α : Type} {l : List α} {x y : α} {k : Nat} (h : l[k]? = some y) : (l ++ [x])[k]? = some y := by
  rw [List.getElem?_append_left (List.getElem?_eq_some_iff.mp h).1]; exact h
theorem nodup_snoc {l : List Nat} {a n : Nat} (h : l.Nodup) (hl : ∀ b ∈ l, b < n) (ha : n ≤ a) : (l ++ [a]).Nodup := by
  refine List.nodup_append.mpr ⟨h, by simp, fun x hx y hy => ?_⟩
  simp at hy; subst hy
  have := hl x hx
  omega
theorem SpI.addPart {σ0 σ : St} {pA qA : Nat} {gs : List Grp} {dis : List DI} {ps ds : List Nat} (I : SpI σ0 pA qA gs dis ps ds σ) (hpq : pA ≠ qA) (hlt : pA < σ0.length ∧ qA < σ0.length) (g : Grp) :
    SpI σ0 pA qA (gs ++ [g]) dis (ps ++ [σ.length]) ds ((σ ++ [dText g.raw]).set pA (.list (ps.map .ref ++ [.ref σ.length]))) := by
  have np : ∀ {a}, σ0.length ≤ a → pA ≠ a := fun h e => by omega
  refine ⟨?_, ?_, ?_, by simp [I.plen], I.dlen, ?_, ?_, ?_, ?_, ?_, I.dnd⟩
  · exact (I.fr.trans Fr.app).setNew (.inl (by simp))
  · rw [List.map_append]; exact get_set_eq (get_app I.pl)
  · exact get_set_ne hpq (get_app I.ql)
  · intro k g' h
    rcases snoc_get h with h | ⟨rfl, rfl⟩
    · obtain ⟨a, h1, h2⟩ := I.po k g' h
      exact ⟨a, snoc_old h1, get_set_ne (np (I.pf a (List.mem_of_getElem? h1)).1) (get_app h2)⟩
    · refine ⟨σ.length, by rw [← I.plen]; simp, get_set_ne (np I.fr.1) get_last⟩
  · intro k D h
    obtain ⟨a, h1, h2⟩ := I.dobj k D h
    exact ⟨a, h1, get_set_ne (np (I.df a (List.mem_of_getElem? h1)).1) (get_app h2)⟩
  · intro a ha
    simp only [List.mem_append, List.mem_singleton] at ha
    rcases ha with ha | rfl
    · have := I.pf a ha; simp; omega
    · have := I.fr.1; simp; omega
  · intro a ha
    have := I.df a ha; simp; omega
  · exact nodup_snoc I.pnd (fun b hb => (I.pf b hb).2) (Nat.le_refl _)
theorem SpI.addDel {σ0 σ : St} {pA qA : Nat} {gs : List Grp} {dis : List DI} {ps ds : List Nat} (I : SpI σ0 pA qA gs dis ps ds σ) (hpq : pA ≠ qA) (hlt : pA < σ0.length ∧ qA < σ0.length) (D : DI) :
    SpI σ0 pA qA gs (dis ++ [D]) ps (ds ++ [σ.length]) ((σ ++ [Dlm D.x D.m D.L D.co D.cc D.L (ds.map V.ref).length]).set qA (.list (ds.map .ref ++ [.ref σ.length]))) := by
  have np : ∀ {a}, σ0.length ≤ a → qA ≠ a := fun h e => by omega
  refine ⟨?_, ?_, ?_, I.plen, by simp [I.dlen], ?_, ?_, ?_, ?_, I.pnd, ?_⟩
  · exact (I.fr.trans Fr.app).setNew (.inl (by simp))
  · exact get_set_ne (Ne.symm hpq) (get_app I.pl)
  · rw [List.map_append]; exact get_set_eq (get_app I.ql)
  · intro k g h
    obtain ⟨a, h1, h2⟩ := I.po k g h
    exact ⟨a, h1, get_set_ne (np (I.pf a (List.mem_of_getElem? h1)).1) (get_app h2)⟩
  · intro k D' h
    rcases snoc_get h with h | ⟨rfl, rfl⟩
    · obtain ⟨a, h1, h2⟩ := I.dobj k D' h
      exact ⟨a, snoc_old h1, get_set_ne (np (I.df a (List.mem_of_getElem? h1)).1) (get_app h2)⟩
    · refine ⟨σ.length, by rw [← I.dlen]; simp, ?_⟩
      rw [List.length_map, I.dlen]
      exact get_set_ne (np I.fr.1) get_last
  · intro a ha
    have := I.pf a ha; simp; omega
  · intro a ha
    simp only [List.mem_append, List.mem_singleton] at ha
    rcases ha with ha | rfl
    · have := I.df a ha; simp; omega
    · have := I.fr.1; simp; omega
  · exact nodup_snoc I.dnd (fun b hb => (I.df b hb).2) (Nat.le_refl _)
end P1
end Mine
end

/-! W5 -/
section
open PySem PySem.W PyProof.Rows
set_option linter.unusedVariables false
set_option linter.unusedSimpArgs false
namespace Mine
local macro_rules | `(tactic| one_place) => `(tactic| first | assumption | (simp only [Loc.set, params_cons, params_nil, String.reduceEq, if_true, if_false, reduceIte]; first | rfl | assumption))
local macro_rules | `(tactic| one_item) => `(tactic| first | assumption | exact get_last | (apply get_app; (one_item)) | (apply get_set_eq; (one_item)) | (apply get_set_ne; (first | assumption | omega); (one_item)))
local macro_rules | `(tactic| leaf_len) => `(tactic| first | assumption | rfl | (focus (simp; done)))
local macro_rules | `(tactic| l_ints) => `(tactic| first | assumption | (apply idx_list; (one_item); rfl; (assumption)) | (apply idx_tuple; (one_item); rfl; (assumption)) | (apply idx_list (k := 0); (one_item); rfl; rfl) | (apply idx_tuple (k := 0); (one_item); rfl; rfl) | (apply idx_tuple (k := 1); (one_item); rfl; rfl) | exact idx_str rfl (by assumption))
local macro_rules | `(tactic| pv_eval) => `(tactic| first
  | exact e_int | exact e_str | exact e_bool | exact e_non | exact e_nil
  | (apply e_var; (one_place))
  | (apply e_attr; (pv_eval); (one_item); (leaf_len))
  | (apply e_dget; (pv_eval); (one_item); (leaf_len))
  | (apply e_dhas; (pv_eval); (one_item); (leaf_len))
  | (apply e_dhasnt; (pv_eval); (one_item); (leaf_len))
  | (apply e_dgetd; (pv_eval); (one_item); (pv_eval); (leaf_len))
  | (apply e_sub; (pv_eval); (pv_eval); (l_ints))
  | (apply e_cmp; (pv_eval); (pv_eval); (leaf_len))
  | (apply e_bin; (pv_eval); (pv_eval); (leaf_len))
  | (apply e_lnot; (pv_eval); (one_sign))
  | (apply e_neg; (pv_eval))
  | (apply e_isNone; (pv_eval))
  | (apply e_ands; (modx_arm))
  | (apply e_ors; (modx_arm))
  | (apply e_iteT; (pv_eval); (one_sign); (pv_eval))
  | (apply e_iteF; (pv_eval); (one_sign); (pv_eval))
  | (apply e_list; (mod_arm))
  | (apply e_tuple; (mod_arm))
  | (apply e_dict; (o_shape))
  | exact e_tdict
  | (apply e_bcall; (mod_arm); (first | assumption | (apply len_list; (one_item)) | rfl))
  | (apply e_call; (mod_arm); (assumption))
  | (apply e_slice; (pv_eval); (pv_eval); (pv_eval); (assumption))
  | (apply e_bmeth; (pv_eval); (first | assumption | (apply mOk_str; (focus (simp; done))) | (apply mOk_list; (one_item); (focus (simp; done)))); (mod_arm); (first | assumption | rfl)))
local macro_rules | `(tactic| modx_arm) => `(tactic| first
  | (apply b_last; (pv_eval))
  | (apply b_go; (pv_eval); (one_sign); (modx_arm))
  | (apply b_stop; (pv_eval); (one_sign)))
local macro_rules | `(tactic| mod_arm) => `(tactic| first | exact l_nil | (apply l_cons; (pv_eval); (mod_arm)))
local macro_rules | `(tactic| o_shape) => `(tactic| first | exact kv_nil | (apply kv_cons; (pv_eval); (o_shape)))
local macro_rules | `(tactic| one_sign) => `(tactic| first | rfl | assumption | exact (truthy_list (by one_item)).trans rfl | (refine congrArg some ?_; first | (apply decide_eq_true; (omega)) | (apply decide_eq_false; (omega)) | assumption | (focus (simp; done)) | (focus (simp; omega)) | (focus (simp [*]; done))))
namespace P1
variable {d : Nat}
theorem head_mid {A G B : List Nat} (h : G ≠ []) : (A ++ (G ++ B)).getD A.length 10 = G.headD 0 := by
  rw [getD_mid (Nat.le_refl _) (by have := List.length_pos_iff.mpr h; omega), Nat.sub_self]
  cases G with
  | nil => exact absurd rfl h
  | cons a r => rfl
theorem mem_mid {A G B : List Nat} {k : Nat} (h1 : A.length ≤ k) (h2 : k < A.length + G.length) : (A ++ (G ++ B)).getD k 10 ∈ G := by
  rw [getD_mid h1 h2, List.getD_eq_getElem?_getD, List.getElem?_eq_getElem (by omega)]
  exact List.getElem_mem _
theorem headD_of_head? {B : List Nat} (h : B ≠ []) : B.head? = some (B.headD 10) := by cases B with
  | nil => exact absurd rfl h
  | cons a r => rfl
/-- the loop's state at the head -/
structure SpL (σ0 : St) (pA qA : Nat) (t : List Nat) (all : List Grp) (m : Nat) (ℓ : Loc) (σ : St) : Prop where
  w : ∃ pre suf dis ps ds, all = pre ++ suf ∧ m = suf.length ∧ SpI σ0 pA qA pre dis ps ds σ ∧ GOK suf ∧ dlms t 0 0 all = dis ++ dlms t pre.length (flat pre).length suf ∧ ℓ "pos" = some (.int (flat pre).length) ∧ dis.length ≤ pre.length
  l1 : ℓ "text" = some (.str t)
  l2 : ℓ "source" = some (.str t)
  l3 : ℓ "source_start" = some (.int 0)
  l4 : ℓ "parts" = some (.ref pA)
  l5 : ℓ "delimiters" = some (.ref qA)
theorem s_split {σ0 : St} {tok pA qA : Nat} {t : List Nat} {all : List Grp} (ht : t = flat all) (hok : GOK all) (hlen : t.length ≤ 1000) (hall : all.length ≤ 1000) (htok : σ0[tok]? = some (dText t)) (hp : σ0[pA]? = some (.list [])) (hq : σ0[qA]? = some (.list [])) (hpq : pA ≠ qA) (hp0 : pA ≠ 0) (hq0 : qA ≠ 0) :
    ∃ σ' ps ds, callN prog (d + 3) "_split_text_token" [.ref tok, .str t, .int 0, .ref pA, .ref qA] σ0 = some (.none, σ') ∧ SpI σ0 pA qA all (dlms t 0 0 all) ps ds σ' := by
  have hlt : pA < σ0.length ∧ qA < σ0.length := ⟨get_lt hp, get_lt hq⟩
  let I : Nat → Loc → St → Prop := SpL σ0 pA qA t all
  let Q : Fl → Loc → St → Prop := fun fl ℓ σ => fl = .next ∧ ∃ ps ds, SpI σ0 pA qA all (dlms t 0 0 all) ps ds σ
  have start : I all.length (((params ["token", "source", "source_start", "parts", "delimiters"] [.ref tok, .str t, .int 0, .ref pA, .ref qA]).set "text" (.str t)).set "pos" (.int 0)) σ0 := by
    refine ⟨⟨[], all, [], [], [], rfl, rfl, ⟨Fr.refl, hp, hq, rfl, rfl, by simp, by simp, by simp, by simp, List.nodup_nil, List.nodup_nil⟩, hok, rfl, by simp [Loc.set, flat], by simp⟩, by one_place, by one_place, by one_place, by one_place, by one_place⟩
  suffices hw : ∃ fl ℓ' σ', execS (callN prog (d + 2)) (match f_split_text_token.body with | .seq _ (.seq _ (.seq w _)) => w | s => s) (((params ["token", "source", "source_start", "parts", "delimiters"] [.ref tok, .str t, .int 0, .ref pA, .ref qA]).set "text" (.str t)).set "pos" (.int 0)) σ0 = some (fl, ℓ', σ') ∧ Q fl ℓ' σ' by
    obtain ⟨fl, ℓ', σ', h1, rfl, ps, ds, h2⟩ := hw
    exact ⟨σ', ps, ds, call0 rfl rfl (runN (x_assign (by pv_eval)) (runN (x_assign (by pv_eval)) (runN h1 run_done))), h2⟩
  refine while_inv I Q (fun m ℓ σ hi => ?_) WLIM all.length _ _ (by unfold WLIM; omega) start
  · obtain ⟨⟨pre, suf, dis, ps, ds, ha, hm, J, hg, hd, hpos, hdl⟩, l1, l2, l3, l4, l5⟩ := hi
    have htt : t = flat pre ++ flat suf := by rw [ht, ha, flat_app]
    cases suf with
    | nil =>
      left
      have hl : (flat pre).length = t.length := by rw [htt]; simp [flat]
      have hgd : decide (((flat pre).length : Int) < t.length) = false := decide_eq_false (by omega)
      refine ⟨σ, c_of (v := .bool (decide (((flat pre).length : Int) < t.length))) (by simp) (by pv_eval) (by rw [hgd]; rfl), rfl, ps, ds, ?_⟩
      have e1 : all = pre := by simpa using ha
      have e2 : dlms t 0 0 all = dis := by rw [hd]; simp [dlms]
      rw [e2, e1]; exact J
    | cons g suf =>
      right
      rw [flat_cons] at htt
      obtain ⟨hne, hrun, hg⟩ := hg
      have hgl : 0 < g.raw.length := List.length_pos_iff.mpr hne
      have htl : t.length = (flat pre).length + (g.raw.length + (flat suf).length) := by rw [htt]; simp
      have hlt' : (flat pre).length < t.length := by omega
      have hgd : decide (((flat pre).length : Int) < t.length) = true := decide_eq_true (by omega)
      have hcond : evalC (callN prog (d + 2)) (.cmp .lt (.var "pos") (.bcall "len" (.cons (.var "text") .nil))) ℓ σ = some (true, σ) :=
        c_of (v := .bool (decide (((flat pre).length : Int) < t.length))) (by simp) (by pv_eval) (by rw [hgd]; rfl)
      have hidx : index σ (.str t) (.int (flat pre).length) = some (.str [g.raw.headD 0]) := by
        rw [idx_at hlt']
        rw [htt, head_mid hne]
      have hcut : cut t (flat pre).length ((flat pre).length + g.raw.length) = g.raw := by rw [htt]; exact cut_mid
      have hpsl : (ps.map V.ref).length < LIM := by rw [List.length_map, J.plen]; have : pre.length ≤ 1000 := by rw [ha] at hall; simp at hall; omega
                                                    unfold LIM; omega
      have hall' : all = (pre ++ [g]) ++ suf := by rw [ha]; simp
      have hfl : (flat (pre ++ [g])).length = (flat pre).length + g.raw.length := by rw [flat_app]; simp [flat]
      cases hr : g.run with
      | false =>
        simp only [hr, Bool.false_eq_true, if_false] at hrun
        obtain ⟨hpl, hnx⟩ := hrun
        have hhd : isMk (g.raw.headD 0) = false := by
          cases hgr : g.raw with
          | nil => exact absurd hgr hne
          | cons a r => exact hpl a (by rw [hgr]; simp)
        have hnm := notin_mk (σ := σ) (c := g.raw.headD 0)
        rw [hhd] at hnm
        have hcall : callN prog (d + 2) "_next_delimiter_run" [.str t, .int (flat pre).length] σ = some (.int ((flat pre).length + g.raw.length : Nat), σ) := by
          refine s_next (by omega) (by omega) hlen (fun k h1 h2 => hpl _ ?_) (fun h => hnx _ ?_)
          · rw [htt]; exact mem_mid h1 h2
          · rw [htt, getD_behind]
            refine headD_of_head? ?_
            intro h0
            rw [h0] at htl; simp at htl; omega
        refine ⟨σ, .cont, _, _, hcond, seqC (x_ifT (by pv_eval) (by one_sign) (seqN (x_assign (by pv_eval)) (seqN (part_app (by one_place) (by one_place) (by one_place) (by one_place) J.pl hcut (by omega) (by omega) hlen hp0 hpsl) (seqN (x_assign (by pv_eval)) (seqC x_cont))))),
          .inl ⟨.inr rfl, suf.length, by simp at hm; omega, ⟨⟨pre ++ [g], suf, dis, _, _, hall', rfl, J.addPart hpq hlt g, hg, ?_, ?_, by simp; omega⟩, by one_place, by one_place, by one_place, by one_place, by one_place⟩⟩⟩
        · rw [hd, hfl]
          congr 1
          rw [dlms, if_neg (by simp [hr])]
          simp
        · rw [hfl]; one_place
      | true =>
        simp only [hr, if_true] at hrun
        obtain ⟨mk, n, hmk, hrep, hnx⟩ := hrun
        have hn : g.raw.length = n := by rw [hrep]; simp
        have hn1 : 0 < n := by omega
        have hhd : g.raw.headD 0 = mk := by rw [hrep]; cases n with
          | zero => omega
          | succ k => rfl
        rw [hhd] at hidx
        have hnm := notin_mk (σ := σ) (c := mk)
        rw [hmk] at hnm
        rw [hn] at hfl htl hcut
        generalize hP : (flat pre).length = P at *
        have hb1 : binOp σ .sub (.int (P + n : Nat)) (.int P) = some (.int n, σ) := by
          have : ((P + n : Nat) : Int) - P = n := by omega
          simp only [binOp, this]
        have hb2 : binOp σ .add (.int 0) (.int P) = some (.int P, σ) := by simp [binOp]
        have co := s_can_open (d := d) (σ := σ) (t := t) (start := P) (size := n) (m := mk) (by omega)
        have cc := s_can_close (d := d) (σ := σ) (t := t) (start := P) (size := n) (m := mk) (by omega)
        have hlen2 : builtinF σ "len" [.ref pA] = some (.int pre.length, σ) := by rw [len_list J.pl, List.length_map, J.plen]
        generalize hco : canO mk (chBefore t P) (chBehind t (P + n)) = bo at *
        generalize hcc : canC mk (chBefore t P) (chBehind t (P + n)) = bc at *
        have hscan : ∀ ℓ : Loc, ℓ "text" = some (.str t) → ℓ "marker" = some (.str [mk]) → execS (callN prog (d + 2)) (.whileS (.ands (.cons (.cmp .lt (.var "end") (.bcall "len" (.cons (.var "text") .nil))) (.cons (.cmp .eq (.sub (.var "text") (.var "end")) (.var "marker")) .nil))) (.seq (.aug "end" .add (.int 1)) .done)) (ℓ.set "end" (.int P)) σ =
            some (.next, ℓ.set "end" (.int (P + n : Nat)), σ) := by
          intro ℓ h1 h2
          refine x_while.trans (scan_while (fun k => decide (k < t.length) && (t.getD k 10 == mk)) (fun k => ?_) n P (P + n) WLIM rfl (fun k h3 h4 => ?_) ?_ (by unfold WLIM; omega))
          · by_cases h : k < t.length
            · have hi := idx_at (σ := σ) h
              have hgd : decide ((k : Int) < t.length) = true := decide_eq_true (by omega)
              have hq : cmpOp σ .eq (.str [t.getD k 10]) (.str [mk]) = some (t.getD k 10 == mk) := by
                show some ([t.getD k 10] == [mk]) = _
                simp
              refine c_of (v := .bool (t.getD k 10 == mk)) (by simp) (by pv_eval) ?_
              rw [decide_eq_true h]; rfl
            · have hgd : decide ((k : Int) < t.length) = false := decide_eq_false (by omega)
              refine c_of (v := .bool (decide ((k : Int) < t.length))) (by simp) (by pv_eval) ?_
              rw [hgd, decide_eq_false h]; rfl
          · show (decide (k < t.length) && (t.getD k 10 == mk)) = true
            have hm : t.getD k 10 ∈ g.raw := by rw [htt]; exact mem_mid (by omega) (by omega)
            rw [hrep] at hm
            rw [(List.mem_replicate.mp hm).2, decide_eq_true (show k < t.length by omega)]; simp
          · show (decide (P + n < t.length) && (t.getD (P + n) 10 == mk)) = false
            by_cases h : P + n < t.length
            · have h5 : t.getD (P + n) 10 = (flat suf).headD 10 := by rw [htt, ← hP, ← hn]; exact getD_behind
              have h6 : flat suf ≠ [] := by intro h0; rw [h0] at htl; simp at htl; omega
              have h7 := headD_of_head? h6
              rw [h7] at hnx
              rw [h5]
              have : ((flat suf).headD 10 == mk) = false := beq_eq_false_iff_ne.mpr fun h8 => hnx (by rw [h8])
              rw [this]; simp
            · simp [h]
        have J2 := J.addPart hpq hlt g
        by_cases hor : (bo || bc) = true
        · have hev : ∀ {ℓ : Loc} {σ : St}, ℓ "can_open" = some (.bool bo) → ℓ "can_close" = some (.bool bc) → evalE (callN prog (d + 2)) (.ors (.cons (.var "can_open") (.cons (.var "can_close") .nil))) ℓ σ = some (.bool (bo || bc), σ) := by
            intro ℓ σ h1 h2
            cases bo
            · exact e_ors (b_go (e_var h1) rfl (b_last (e_var h2)))
            · exact e_ors (b_stop (e_var h1) rfl)
          have J3 := J2.addDel hpq hlt ⟨pre.length, mk, n, bo, bc⟩
          have hdsl : (ds.map V.ref).length < LIM := by
            rw [List.length_map, J.dlen]; have : pre.length ≤ 1000 := by rw [ha] at hall; simp at hall; omega
            unfold LIM; omega
          refine ⟨σ, .next, _, _, hcond, seqN (x_ifF (by pv_eval) (by one_sign) x_done) (seqN (x_assign (by pv_eval)) (seqN (x_assign (by pv_eval)) (seqN (hscan _ (by one_place) (by one_place)) (seqN (x_assign (by pv_eval)) (seqN (x_assign (by pv_eval)) (seqN (x_assign (by pv_eval)) (seqN (x_assign (by pv_eval)) (seqN (x_assign (by pv_eval)) (seqN (part_app (by one_place) (by one_place) (by one_place) (by one_place) J.pl hcut (by omega) (by omega) hlen hp0 hpsl)
            (seqN (x_ifT (hev (by one_place) (by one_place)) (by rw [hor]; rfl) (seqN (del_app (by one_place) (by one_place) (by one_place) (by one_place) (by one_place) (by one_place) J2.ql hq0 hdsl) x_done)) (seqN (x_assign (by pv_eval)) x_done))))))))))),
            .inl ⟨.inl rfl, suf.length, by simp at hm; omega, ⟨⟨pre ++ [g], suf, dis ++ [⟨pre.length, mk, n, bo, bc⟩], _, _, hall', rfl, J3, hg, ?_, ?_, by simp; omega⟩, by one_place, by one_place, by one_place, by one_place, by one_place⟩⟩⟩
          · rw [hd, hfl]
            rw [dlms, hhd, hn, hco, hcc, if_pos ⟨hr, hor⟩]
            simp
          · rw [hfl]; one_place
        · have h1 : bo = false := by cases bo <;> simp_all
          have h2 : bc = false := by cases bc <;> simp_all
          subst h1; subst h2
          refine ⟨σ, .next, _, _, hcond, seqN (x_ifF (by pv_eval) (by one_sign) x_done) (seqN (x_assign (by pv_eval)) (seqN (x_assign (by pv_eval)) (seqN (hscan _ (by one_place) (by one_place)) (seqN (x_assign (by pv_eval)) (seqN (x_assign (by pv_eval)) (seqN (x_assign (by pv_eval)) (seqN (x_assign (by pv_eval)) (seqN (x_assign (by pv_eval)) (seqN (part_app (by one_place) (by one_place) (by one_place) (by one_place) J.pl hcut (by omega) (by omega) hlen hp0 hpsl)
            (seqN (x_ifF (by pv_eval) (by one_sign) x_done) (seqN (x_assign (by pv_eval)) x_done))))))))))),
            .inl ⟨.inl rfl, suf.length, by simp at hm; omega, ⟨⟨pre ++ [g], suf, dis, _, _, hall', rfl, J2, hg, ?_, ?_, by simp; omega⟩, by one_place, by one_place, by one_place, by one_place, by one_place⟩⟩⟩
          · rw [hd, hfl]
            rw [dlms, hhd, hn, hco, hcc, if_neg (by simp)]
            simp
          · rw [hfl]; one_place
end P1
end Mine
end

/-! W6 -/
section
open PySem PySem.W PyProof.Rows
set_option linter.unusedVariables false
set_option linter.unusedSimpArgs false
namespace Mine
local macro_rules | `(tactic| one_place) => `(tactic| first | assumption | (simp only [Loc.set, params_cons, params_nil, String.reduceEq, if_true, if_false, reduceIte]; first | rfl | assumption))
local macro_rules | `(tactic| one_item) => `(tactic| first | assumption | exact get_last | (apply get_app; (one_item)) | (apply get_set_eq; (one_item)) | (apply get_set_ne; (first | assumption | omega); (one_item)))
local macro_rules | `(tactic| leaf_len) => `(tactic| first | assumption | rfl | (focus (simp; done)))
local macro_rules | `(tactic| l_ints) => `(tactic| first | assumption | (apply idx_list; (one_item); rfl; (assumption)) | (apply idx_tuple; (one_item); rfl; (assumption)) | (apply idx_list (k := 0); (one_item); rfl; rfl) | (apply idx_tuple (k := 0); (one_item); rfl; rfl) | (apply idx_tuple (k := 1); (one_item); rfl; rfl) | exact idx_str rfl (by assumption))
local macro_rules | `(tactic| pv_eval) => `(tactic| first
  | exact e_int | exact e_str | exact e_bool | exact e_non | exact e_nil
  | (apply e_var; (one_place))
  | (apply e_attr; (pv_eval); (one_item); (leaf_len))
  | (apply e_dget; (pv_eval); (one_item); (leaf_len))
  | (apply e_dhas; (pv_eval); (one_item); (leaf_len))
  | (apply e_dhasnt; (pv_eval); (one_item); (leaf_len))
  | (apply e_dgetd; (pv_eval); (one_item); (pv_eval); (leaf_len))
  | (apply e_sub; (pv_eval); (pv_eval); (l_ints))
  | (apply e_cmp; (pv_eval); (pv_eval); (leaf_len))
  | (apply e_bin; (pv_eval); (pv_eval); (leaf_len))
  | (apply e_lnot; (pv_eval); (one_sign))
  | (apply e_neg; (pv_eval))
  | (apply e_isNone; (pv_eval))
  | (apply e_ands; (modx_arm))
  | (apply e_ors; (modx_arm))
  | (apply e_iteT; (pv_eval); (one_sign); (pv_eval))
  | (apply e_iteF; (pv_eval); (one_sign); (pv_eval))
  | (apply e_list; (mod_arm))
  | (apply e_tuple; (mod_arm))
  | (apply e_dict; (o_shape))
  | exact e_tdict
  | (apply e_bcall; (mod_arm); (first | assumption | (apply len_list; (one_item)) | rfl))
  | (apply e_call; (mod_arm); (assumption))
  | (apply e_slice; (pv_eval); (pv_eval); (pv_eval); (assumption))
  | (apply e_bmeth; (pv_eval); (first | assumption | (apply mOk_str; (focus (simp; done))) | (apply mOk_list; (one_item); (focus (simp; done)))); (mod_arm); (first | assumption | rfl)))
local macro_rules | `(tactic| modx_arm) => `(tactic| first
  | (apply b_last; (pv_eval))
  | (apply b_go; (pv_eval); (one_sign); (modx_arm))
  | (apply b_stop; (pv_eval); (one_sign)))
local macro_rules | `(tactic| mod_arm) => `(tactic| first | exact l_nil | (apply l_cons; (pv_eval); (mod_arm)))
local macro_rules | `(tactic| o_shape) => `(tactic| first | exact kv_nil | (apply kv_cons; (pv_eval); (o_shape)))
local macro_rules | `(tactic| one_sign) => `(tactic| first | rfl | assumption | exact (truthy_list (by one_item)).trans rfl | (refine congrArg some ?_; first | (apply decide_eq_true; (omega)) | (apply decide_eq_false; (omega)) | assumption | (focus (simp; done)) | (focus (simp; omega)) | (focus (simp [*]; done))))
namespace P1
variable {d : Nat}
def wrapS (ty t : List Nat) : List Nat := if ty = T_emph then [60] ++ t ++ [62] else [123] ++ t ++ [125]
mutual
/-- what a token tells, how deep it is at the most, how many tokens it is -/
inductive Told (σ : St) (X : List Nat) : Nat → List Nat → Nat → Nat → Prop
  | text {a s k} : σ[a]? = some (dText s) → Told σ X a s k 1
  | node {a ty c cs t k z} : σ[a]? = some (dNode ty c) → (ty = T_emph ∨ ty = T_strong) → c ∉ X → σ[c]? = some (.list (cs.map .ref)) → Tolds σ X cs t k z → Told σ X a (wrapS ty t) (k + 1) (z + 1)
inductive Tolds (σ : St) (X : List Nat) : List Nat → List Nat → Nat → Nat → Prop
  | nil {k} : Tolds σ X [] [] k 0
  | cons {a s k z as t z'} : a ∉ X → Told σ X a s k z → Tolds σ X as t k z' → Tolds σ X (a :: as) (s ++ t) k (z + z')
end
mutual
theorem Told.go {σ σ' : St} {X X' : List Nat} (h : ∀ b o, b ∉ X → σ[b]? = some o → b ∉ X' ∧ σ'[b]? = some o) : ∀ {a s k z}, Told σ X a s k z → (∀ o, σ[a]? = some o → σ'[a]? = some o) → Told σ' X' a s k z
  | _, _, _, _, .text e, ha => .text (ha _ e)
  | _, _, _, _, .node e1 e2 e3 e4 e5, ha => .node (ha _ e1) e2 (h _ _ e3 e4).1 (h _ _ e3 e4).2 (Tolds.go h e5)
theorem Tolds.go {σ σ' : St} {X X' : List Nat} (h : ∀ b o, b ∉ X → σ[b]? = some o → b ∉ X' ∧ σ'[b]? = some o) : ∀ {as t k z}, Tolds σ X as t k z → Tolds σ' X' as t k z
  | _, _, _, _, .nil => .nil
  | _, _, _, _, .cons e1 e2 e3 => by
    refine .cons ?_ (Told.go h e2 fun o ho => (h _ o e1 ho).2) (Tolds.go h e3)
    cases e2 with
    | text e => exact (h _ _ e1 e).1
    | node e _ _ _ _ => exact (h _ _ e1 e).1
end
mutual
theorem Told.up {σ : St} {X : List Nat} : ∀ {a s k z k'}, Told σ X a s k z → k ≤ k' → Told σ X a s k' z
  | _, _, _, _, _, .text e, _ => .text e
  | _, _, _, _, 0, .node e1 e2 e3 e4 e5, h => absurd h (by omega)
  | _, _, _, _, k' + 1, .node e1 e2 e3 e4 e5, h => .node e1 e2 e3 e4 (Tolds.up e5 (by omega))
theorem Tolds.up {σ : St} {X : List Nat} : ∀ {as t k z k'}, Tolds σ X as t k z → k ≤ k' → Tolds σ X as t k' z
  | _, _, _, _, _, .nil, _ => .nil
  | _, _, _, _, _, .cons e1 e2 e3, h => .cons e1 (Told.up e2 h) (Tolds.up e3 h)
end
theorem Tolds.append {σ : St} {X : List Nat} : ∀ {as bs t u k z y}, Tolds σ X as t k z → Tolds σ X bs u k y → Tolds σ X (as ++ bs) (t ++ u) k (z + y)
  | _, _, _, _, _, _, _, .nil, h => by simpa using h
  | _, _, _, _, _, _, _, .cons e1 e2 e3, h => by
    have := Tolds.cons e1 e2 (e3.append h)
    simpa [List.append_assoc, Nat.add_assoc] using this
theorem told_loop {σ : St} {X : List Nat} {k : Nat} {cf : CallF} {c n : Nat} {cs : List Nat} (hc : σ[c]? = some (.list (cs.map .ref))) (hn : n = cs.length)
    (hcf : ∀ k' c' cs' t z, k = k' + 1 → Tolds σ X cs' t k' z → σ[c']? = some (.list (cs'.map .ref)) → t.length ≤ 1000 → cf "_law_told" [.ref c'] σ = some (.str t, σ)) :
    ∀ rem i as t z o ℓ, i + rem = n → cs.drop i = as → Tolds σ X as t k z → ℓ "out" = some (.str o) → (o ++ t).length ≤ 1000 →
    ∃ ℓ', forGo (.list c) (.one "token") n (fun ℓ σ => execS cf (match f_law_told.body with | .seq _ (.seq (.forS _ _ b) _) => b | s => s) ℓ σ) rem i ℓ σ = some (.next, ℓ', σ) ∧ ℓ' "out" = some (.str (o ++ t))
  | 0, i, as, t, z, o, ℓ, e, ha, h, ho, hl => by
    have : as = [] := by rw [← ha]; apply List.drop_eq_nil_of_le; omega
    subst this
    cases h
    refine ⟨ℓ, ?_, by simpa using ho⟩
    have hs : (Src.list c).size σ = some n := by rw [size_list hc, List.length_map, hn]
    simp only [forGo, hs, if_true]
  | rem + 1, i, as, t, z, o, ℓ, e, ha, h, ho, hl => by
    have hs : (Src.list c).size σ = some n := by rw [size_list hc, List.length_map, hn]
    cases h with
    | nil => exfalso; have := congrArg List.length ha; simp at this; omega
    | @cons a s _ z1 as' t' z2 e1 e2 e3 =>
      have hia : cs[i]? = some a := by
        have := congrArg (·[0]?) ha
        simpa using this
      have hb : (Src.list c).bind σ ℓ (.one "token") i = some (ℓ.set "token" (.ref a)) := bind_list hc (by simp [hia])
      have hda : cs.drop (i + 1) = as' := by rw [← List.drop_drop, ha]; rfl
      have hL1 : o.length + s.length ≤ LIM := by simp at hl; unfold LIM; omega
      have step : ∃ ℓ', execS cf (match f_law_told.body with | .seq _ (.seq (.forS _ _ b) _) => b | s => s) (ℓ.set "token" (.ref a)) σ = some (.next, ℓ', σ) ∧ ℓ' "out" = some (.str (o ++ s)) := by
        cases e2 with
        | text g =>
          have ha : augOp .add (.str o) (.str s) = some (.str (o ++ s)) := by simp only [augOp, if_pos hL1]
          exact ⟨_, seqN (x_ifT (by pv_eval) (by one_sign) (seqN (x_aug (by one_place) (by pv_eval) ha) x_done)) x_done, by one_place⟩
        | @node _ ty c' cs' t1 k' z' g1 g2 g3 g4 g5 =>
          have hw : (wrapS ty t1).length = t1.length + 2 := by unfold wrapS; split <;> simp
          have ht1 : t1.length ≤ 1000 := by simp at hl; omega
          have hcall := hcf _ _ _ _ _ rfl g5 g4 ht1
          rcases g2 with rfl | rfl
          · have b1 : binOp σ .add (.str [60]) (.str t1) = some (.str ([60] ++ t1), σ) := by simp only [binOp]; rw [if_pos (by simp; unfold LIM; omega)]
            have b2 : binOp σ .add (.str ([60] ++ t1)) (.str [62]) = some (.str ([60] ++ t1 ++ [62]), σ) := by simp only [binOp]; rw [if_pos (by simp; unfold LIM; omega)]
            have ha : augOp .add (.str o) (.str ([60] ++ t1 ++ [62])) = some (.str (o ++ wrapS T_emph t1)) := by
              have : wrapS T_emph t1 = [60] ++ t1 ++ [62] := if_pos rfl
              rw [this] at hL1 ⊢; simp only [augOp, if_pos hL1]
            exact ⟨_, seqN (x_ifF (by pv_eval) (by one_sign) (seqN (x_ifT (by pv_eval) (by one_sign) (seqN (x_aug (by one_place) (by pv_eval) ha) x_done)) x_done)) x_done, by one_place⟩
          · have b1 : binOp σ .add (.str [123]) (.str t1) = some (.str ([123] ++ t1), σ) := by simp only [binOp]; rw [if_pos (by simp; unfold LIM; omega)]
            have b2 : binOp σ .add (.str ([123] ++ t1)) (.str [125]) = some (.str ([123] ++ t1 ++ [125]), σ) := by simp only [binOp]; rw [if_pos (by simp; unfold LIM; omega)]
            have ha : augOp .add (.str o) (.str ([123] ++ t1 ++ [125])) = some (.str (o ++ wrapS T_strong t1)) := by
              have : wrapS T_strong t1 = [123] ++ t1 ++ [125] := if_neg (by decide)
              rw [this] at hL1 ⊢; simp only [augOp, if_pos hL1]
            exact ⟨_, seqN (x_ifF (by pv_eval) (by one_sign) (seqN (x_ifF (by pv_eval) (by one_sign) (seqN (x_aug (by one_place) (by pv_eval) ha) x_done)) x_done)) x_done, by one_place⟩
      obtain ⟨ℓ1, hx, ho1⟩ := step
      obtain ⟨ℓ2, hg, ho2⟩ := told_loop hc hn hcf rem (i + 1) as' t' z2 (o ++ s) ℓ1 (by omega) hda e3 ho1 (by simp at hl ⊢; omega)
      refine ⟨ℓ2, ?_, by rw [ho2, List.append_assoc]⟩
      rw [forGo, if_pos hs]
      simp only [hb, Option.bind_eq_bind, Option.bind_some, hx]
      exact hg
theorem s_told {σ : St} {X : List Nat} : ∀ (k : Nat) {c : Nat} {cs : List Nat} {t : List Nat} {z : Nat}, Tolds σ X cs t k z → σ[c]? = some (.list (cs.map .ref)) → t.length ≤ 1000 → callN prog (d + k + 1) "_law_told" [.ref c] σ = some (.str t, σ)
  | k, c, cs, t, z, h, hc, hl => by
    obtain ⟨ℓ', h1, h2⟩ := told_loop (cf := callN prog (d + k)) (k := k) hc rfl (fun k' c' cs' t' z' e h1 h2 h3 => by subst e; exact s_told k' h1 h2 h3) cs.length 0 cs t z [] (((params ["tokens"] [.ref c]).set "out" (.str []))) (by omega) rfl h (by one_place) (by simpa using hl)
    exact call1 rfl rfl (runN (x_assign (by pv_eval)) (runN (run_for (src_var (by one_place)) (by rw [size_list hc, List.length_map]) h1) (runR (run_ret (e_var h2)))))
end P1
end Mine
end

/-! W7 -/
section
open PySem PySem.W PyProof.Rows
set_option linter.unusedVariables false
set_option linter.unusedSimpArgs false
namespace Mine
local macro_rules | `(tactic| one_place) => `(tactic| first | assumption | (simp only [Loc.set, params_cons, params_nil, String.reduceEq, if_true, if_false, reduceIte]; first | rfl | assumption))
local macro_rules | `(tactic| one_item) => `(tactic| first | assumption | exact get_last | (apply get_app; (one_item)) | (apply get_set_eq; (one_item)) | (apply get_set_ne; (first | assumption | omega); (one_item)))
local macro_rules | `(tactic| leaf_len) => `(tactic| first | assumption | rfl | (focus (simp; done)))
local macro_rules | `(tactic| l_ints) => `(tactic| first | assumption | (apply idx_list; (one_item); rfl; (assumption)) | (apply idx_tuple; (one_item); rfl; (assumption)) | (apply idx_list (k := 0); (one_item); rfl; rfl) | (apply idx_tuple (k := 0); (one_item); rfl; rfl) | (apply idx_tuple (k := 1); (one_item); rfl; rfl) | exact idx_str rfl (by assumption))
local macro_rules | `(tactic| pv_eval) => `(tactic| first
  | exact e_int | exact e_str | exact e_bool | exact e_non | exact e_nil
  | (apply e_var; (one_place))
  | (apply e_attr; (pv_eval); (one_item); (leaf_len))
  | (apply e_dget; (pv_eval); (one_item); (leaf_len))
  | (apply e_dhas; (pv_eval); (one_item); (leaf_len))
  | (apply e_dhasnt; (pv_eval); (one_item); (leaf_len))
  | (apply e_dgetd; (pv_eval); (one_item); (pv_eval); (leaf_len))
  | (apply e_sub; (pv_eval); (pv_eval); (l_ints))
  | (apply e_cmp; (pv_eval); (pv_eval); (leaf_len))
  | (apply e_bin; (pv_eval); (pv_eval); (leaf_len))
  | (apply e_lnot; (pv_eval); (one_sign))
  | (apply e_neg; (pv_eval))
  | (apply e_isNone; (pv_eval))
  | (apply e_ands; (modx_arm))
  | (apply e_ors; (modx_arm))
  | (apply e_iteT; (pv_eval); (one_sign); (pv_eval))
  | (apply e_iteF; (pv_eval); (one_sign); (pv_eval))
  | (apply e_list; (mod_arm))
  | (apply e_tuple; (mod_arm))
  | (apply e_dict; (o_shape))
  | exact e_tdict
  | (apply e_bcall; (mod_arm); (first | assumption | (apply len_list; (one_item)) | rfl))
  | (apply e_call; (mod_arm); (assumption))
  | (apply e_slice; (pv_eval); (pv_eval); (pv_eval); (assumption))
  | (apply e_bmeth; (pv_eval); (first | assumption | (apply mOk_str; (focus (simp; done))) | (apply mOk_list; (one_item); (focus (simp; done)))); (mod_arm); (first | assumption | rfl)))
local macro_rules | `(tactic| modx_arm) => `(tactic| first
  | (apply b_last; (pv_eval))
  | (apply b_go; (pv_eval); (one_sign); (modx_arm))
  | (apply b_stop; (pv_eval); (one_sign)))
local macro_rules | `(tactic| mod_arm) => `(tactic| first | exact l_nil | (apply l_cons; (pv_eval); (mod_arm)))
local macro_rules | `(tactic| o_shape) => `(tactic| first | exact kv_nil | (apply kv_cons; (pv_eval); (o_shape)))
local macro_rules | `(tactic| one_sign) => `(tactic| first | rfl | assumption | exact (truthy_list (by one_item)).trans rfl | (refine congrArg some ?_; first | (apply decide_eq_true; (omega)) | (apply decide_eq_false; (omega)) | assumption | (focus (simp; done)) | (focus (simp; omega)) | (focus (simp [*]; done))))
namespace P1
variable {d : Nat}
theorem comp_tuples {c n : Nat} {cs : List V} {x : String} {ℓ : Loc} {v2 : V} {cond : Loc → St → Option (Bool × St)} {elt : Loc → St → Option (V × St)} (hn : n = cs.length) (hcond : ∀ ℓ σ, cond ℓ σ = some (true, σ))
    (helt : ∀ (v : V) (σ : St), elt (ℓ.set x v) σ = some (.ref σ.length, σ ++ [.tuple [v, v2]])) :
    ∀ (rem i : Nat) (acc : List V) (σ : St), i + rem = n → σ[c]? = some (.list cs) → ∃ (tl : List Nat) (σ' : St), compGo (.list c) (.one x) ℓ n cond elt rem i acc σ = some (acc ++ tl.map V.ref, σ') ∧ Fr [] σ σ' ∧ tl.length = rem ∧
      ∀ k : Nat, k < rem → ∃ v t, cs[i + k]? = some v ∧ tl[k]? = some t ∧ σ'[t]? = some (.tuple [v, v2]) ∧ σ.length ≤ t
  | 0, i, acc, σ, e, hc => ⟨[], σ, by simp only [compGo, size_list hc, hn, if_true, List.map_nil, List.append_nil], Fr.refl, rfl, fun k hk => by omega⟩
  | rem + 1, i, acc, σ, e, hc => by
    have hi : i < cs.length := by omega
    obtain ⟨v, hv⟩ : ∃ v, cs[i]? = some v := ⟨_, List.getElem?_eq_getElem hi⟩
    obtain ⟨tl, σ', h1, h2, h3, h4⟩ := comp_tuples hn hcond helt rem (i + 1) (acc ++ [.ref σ.length]) (σ ++ [.tuple [v, v2]]) (by omega) (get_app hc)
    refine ⟨σ.length :: tl, σ', ?_, Fr.app.trans h2, by simp [h3], fun k hk => ?_⟩
    · rw [compGo, if_pos (by rw [size_list hc, hn])]
      simp only [bind_list hc hv, hcond, helt, Option.bind_eq_bind, Option.bind_some, if_true, h1]
      simp
    · cases k with
      | zero => exact ⟨v, σ.length, by simpa using hv, rfl, h2.get get_last (by simp), Nat.le_refl _⟩
      | succ k =>
        obtain ⟨v', t, g1, g2, g3, g4⟩ := h4 k (by omega)
        refine ⟨v', t, by rw [← g1]; congr 1; omega, by simpa using g2, g3, ?_⟩
        simp at g4; omega
theorem ext_tuples {c a n : Nat} {cs : List V} {x : String} {ℓ : Loc} {v2 : V} {elt : Loc → St → Option (V × St)} (hn : n = cs.length) (hca : a ≠ c)
    (helt : ∀ (v : V) (σ : St), elt (ℓ.set x v) σ = some (.ref σ.length, σ ++ [.tuple [v, v2]])) :
    ∀ (rem i : Nat) (st : List V) (σ : St), i + rem = n → σ[c]? = some (.list cs) → σ[a]? = some (.list st) → st.length + rem < LIM → ∃ (tl : List Nat) (σ' : St), extGo (.list c) (.one x) ℓ n a elt rem i σ = some σ' ∧ Fr [a] σ σ' ∧ tl.length = rem ∧ σ'[a]? = some (.list (st ++ tl.map V.ref)) ∧
      ∀ k : Nat, k < rem → ∃ v t, cs[i + k]? = some v ∧ tl[k]? = some t ∧ σ'[t]? = some (.tuple [v, v2]) ∧ σ.length ≤ t
  | 0, i, st, σ, e, hc, ha, hl => ⟨[], σ, by simp only [extGo, size_list hc, hn, if_true], Fr.refl, rfl, by simpa using ha, fun k hk => by omega⟩
  | rem + 1, i, st, σ, e, hc, ha, hl => by
    have hi : i < cs.length := by omega
    obtain ⟨v, hv⟩ : ∃ v, cs[i]? = some v := ⟨_, List.getElem?_eq_getElem hi⟩
    have hal := get_lt ha
    obtain ⟨tl, σ', h1, h2, h3, h4, h5⟩ := ext_tuples hn hca helt rem (i + 1) (st ++ [.ref σ.length]) ((σ ++ [O.tuple [v, v2]]).set a (O.list (st ++ [V.ref σ.length]))) (by omega) (get_set_ne hca (get_app hc)) (get_set_eq (get_app ha)) (by simp; omega)
    refine ⟨σ.length :: tl, σ', ?_, (Fr.app.setNew (.inl (by simp))).trans h2, by simp [h3], by simpa using h4, fun k hk => ?_⟩
    · rw [extGo, if_pos (by rw [size_list hc, hn])]
      have hg : getList (σ ++ [O.tuple [v, v2]]) (.ref a) = some (a, st) := list_of (get_app ha)
      simp only [bind_list hc hv, helt, Option.bind_eq_bind, Option.bind_some, hg]
      rw [if_pos (by omega)]
      exact h1
    · cases k with
      | zero => exact ⟨v, σ.length, by simpa using hv, rfl, h2.get (get_set_ne (by omega) get_last) (by simp; omega), Nat.le_refl _⟩
      | succ k =>
        obtain ⟨v', t, g1, g2, g3, g4⟩ := h5 k (by omega)
        refine ⟨v', t, by rw [← g1]; congr 1; omega, by simpa using g2, g3, ?_⟩
        simp at g4; omega
/-- what waits on the stack: a token, the depth it stands at -/
inductive Wt (σ0 σ : St) (X : List Nat) (B : Nat) : List Nat → Nat → Prop
  | nil : Wt σ0 σ X B [] 0
  | cons {t a : Nat} {s : List Nat} {k z dep : Nat} {tl : List Nat} {y : Nat} : σ[t]? = some (O.tuple [V.ref a, V.int (dep : Nat)]) → Told σ0 X a s k z → dep + k ≤ B → Wt σ0 σ X B tl y → Wt σ0 σ X B (t :: tl) (z + y)
theorem Wt.go {σ0 σ σ' : St} {X : List Nat} {B : Nat} (h : ∀ (t : Nat) (v w : V), σ[t]? = some (O.tuple [v, w]) → σ'[t]? = some (O.tuple [v, w])) : ∀ {tl y}, Wt σ0 σ X B tl y → Wt σ0 σ' X B tl y
  | _, _, .nil => .nil
  | _, _, .cons e1 e2 e3 e4 => .cons (h _ _ _ e1) e2 e3 (e4.go h)
theorem Wt.append {σ0 σ : St} {X : List Nat} {B : Nat} : ∀ {tl y tl' y'}, Wt σ0 σ X B tl y → Wt σ0 σ X B tl' y' → Wt σ0 σ X B (tl ++ tl') (y + y')
  | _, _, _, _, .nil, h => by simpa using h
  | _, _, _, _, .cons e1 e2 e3 e4, h => by simpa [Nat.add_assoc] using Wt.cons e1 e2 e3 (e4.append h)
theorem Wt.last {σ0 σ : St} {X : List Nat} {B : Nat} : ∀ {tl y}, Wt σ0 σ X B tl y → tl ≠ [] → ∃ (t a : Nat) (s : List Nat) (k z dep y' : Nat), tl.getLast? = some t ∧ σ[t]? = some (O.tuple [V.ref a, V.int (dep : Nat)]) ∧ Told σ0 X a s k z ∧ dep + k ≤ B ∧ Wt σ0 σ X B tl.dropLast y' ∧ y = y' + z
  | _, _, .nil, h => absurd rfl h
  | _, _, @Wt.cons _ _ _ _ t a s k z dep tl y e1 e2 e3 e4, _ => by
    cases tl with
    | nil => cases e4; exact ⟨t, a, s, k, z, dep, 0, rfl, e1, e2, e3, .nil, by omega⟩
    | cons b r =>
      obtain ⟨t', a', s', k', z', dep', y', h1, h2, h3, h4, h5, h6⟩ := e4.last (by simp)
      refine ⟨t', a', s', k', z', dep', z + y', by simpa using h1, h2, h3, h4, ?_, by omega⟩
      exact .cons e1 e2 e3 h5
theorem Tolds.wt {σ0 σ : St} {X : List Nat} {B k dep : Nat} (hB : dep + k ≤ B) : ∀ {cs t z}, Tolds σ0 X cs t k z → ∀ tl : List Nat, tl.length = cs.length → (∀ j, j < cs.length → ∃ v u, (cs.map V.ref)[j]? = some v ∧ tl[j]? = some u ∧ σ[u]? = some (.tuple [v, .int (dep : Nat)])) → Wt σ0 σ X B tl z
  | _, _, _, .nil, tl, h, _ => by have : tl = [] := List.length_eq_zero_iff.mp h
                                  subst this; exact .nil
  | _, _, _, .cons e1 e2 e3, tl, h, g => by
    cases tl with
    | nil => simp at h
    | cons u r =>
      obtain ⟨v, u', g1, g2, g3⟩ := g 0 (by simp)
      simp at g1 g2
      subst g1; subst g2
      refine .cons g3 e2 hB (e3.wt hB r (by simpa using h) fun j hj => ?_)
      obtain ⟨v', u'', k1, k2, k3⟩ := g (j + 1) (by simp; omega)
      exact ⟨v', u'', by simpa using k1, by simpa using k2, k3⟩
theorem pop_list {σ : St} {n : Nat} {vs : List V} {x : V} (hg : σ[n]? = some (.list vs)) (hx : vs.getLast? = some x) (h0 : n ≠ 0) : builtinM σ (.ref n) "pop" [] = some (x, σ.set n (.list vs.dropLast)) := by
  simp only [builtinM, getList, hg, hx, Option.bind_eq_bind, Option.bind_some, if_pos h0]
theorem Told.zpos {σ : St} {X : List Nat} {a : Nat} {s : List Nat} {k z : Nat} (h : Told σ X a s k z) : 0 < z := by cases h <;> omega
theorem Tolds.len {σ : St} {X : List Nat} {cs t : List Nat} {k z : Nat} : Tolds σ X cs t k z → cs.length ≤ z
  | .nil => by simp
  | .cons _ h r => by have := h.zpos; have := r.len; simp; omega
theorem Wt.len {σ0 σ : St} {X : List Nat} {B : Nat} : ∀ {tl y}, Wt σ0 σ X B tl y → tl.length ≤ y
  | _, _, .nil => by simp
  | _, _, .cons _ h _ r => by have := h.zpos; have := r.len; simp; omega
theorem s_depth {σ0 : St} {X : List Nat} {c : Nat} {cs t : List Nat} {k z : Nat} (h : Tolds σ0 X cs t k z) (hc : σ0[c]? = some (.list (cs.map .ref))) (hz : z ≤ 1000) (h0 : σ0 ≠ []) :
    ∃ v σ', callN prog (d + 1) "token_depth" [.ref c] σ0 = some (.int (v : Nat), σ') ∧ Fr [] σ0 σ' ∧ v ≤ k := by
  have hcl : cs.length ≤ 1000 := Nat.le_trans h.len hz
  have hs0 : σ0.length ≠ 0 := by simpa using h0
  obtain ⟨tl, σ1, c1, c2, c3, c4⟩ := comp_tuples (c := c) (n := cs.length) (cs := cs.map .ref) (x := "token") (ℓ := Loc.only ((params ["tokens"] [.ref c]).set "maximum" (.int 0)) []) (v2 := .int ((0 : Nat) : Int))
    (cond := fun ℓ σ => evalC (callN prog d) .nil ℓ σ) (elt := fun ℓ σ => evalE (callN prog d) (.tuple (.cons (.var "token") (.cons (.int 0) .nil))) ℓ σ) (by simp) (fun ℓ σ => by simp only [evalC]) (fun v σ => by
      have : (Loc.only ((params ["tokens"] [.ref c]).set "maximum" (.int 0)) []).set "token" v "token" = some v := by simp [Loc.set]
      pv_eval) cs.length 0 [] σ0 (by omega) hc
  have hcomp : evalE (callN prog d) (.comp [] (.tuple (.cons (.var "token") (.cons (.int 0) .nil))) (.one "token") (.var "tokens") .nil) ((params ["tokens"] [.ref c]).set "maximum" (.int 0)) σ0 = some (.ref σ1.length, σ1 ++ [.list (tl.map .ref)]) := by
    have e1 : evalSrc (callN prog d) (.var "tokens") ((params ["tokens"] [.ref c]).set "maximum" (.int 0)) σ0 = some (.list c, σ0) := src_var (by one_place)
    have e2 : (Src.list c).size σ0 = some cs.length := by rw [size_list hc, List.length_map]
    rw [evalE]
    simp only [e1, e2, c1, Option.bind_eq_bind, Option.bind_some, List.nil_append]
    rw [if_pos (by rw [List.length_map, c3]; unfold LIM; omega)]
  have hsA : σ0.length ≤ σ1.length := c2.1
  have W0 : Wt σ0 (σ1 ++ [.list (tl.map .ref)]) X k tl z := h.wt (dep := 0) (by omega) tl c3 fun j hj => by
    obtain ⟨v, u, g1, g2, g3, _⟩ := c4 j hj
    exact ⟨v, u, by simpa using g1, g2, get_app g3⟩
  let I : Nat → Loc → St → Prop := fun m ℓ σ => ∃ tl v, Wt σ0 σ X k tl m ∧ ℓ "stack" = some (.ref σ1.length) ∧ ℓ "maximum" = some (.int (v : Nat)) ∧ v ≤ k ∧ σ[σ1.length]? = some (.list (tl.map .ref)) ∧ Fr [] σ0 σ ∧ m ≤ 1000
  let Q : Fl → Loc → St → Prop := fun fl ℓ σ => fl = .next ∧ ∃ v, ℓ "maximum" = some (.int (v : Nat)) ∧ v ≤ k ∧ Fr [] σ0 σ
  have start : I z (((params ["tokens"] [.ref c]).set "maximum" (.int 0)).set "stack" (.ref σ1.length)) (σ1 ++ [.list (tl.map .ref)]) := ⟨tl, 0, W0, by one_place, by one_place, Nat.zero_le _, get_last, c2.trans Fr.app, hz⟩
  suffices hw : ∃ fl ℓ' σ', execS (callN prog d) (match f_token_depth.body with | .seq _ (.seq _ (.seq w _)) => w | s => s) (((params ["tokens"] [.ref c]).set "maximum" (.int 0)).set "stack" (.ref σ1.length)) (σ1 ++ [.list (tl.map .ref)]) = some (fl, ℓ', σ') ∧ Q fl ℓ' σ' by
    obtain ⟨fl, ℓ', σ', h1, rfl, v, h2, h3, h4⟩ := hw
    exact ⟨v, σ', call1 rfl rfl (runN (x_assign (by pv_eval)) (runN (x_assign hcomp) (runN h1 (runR (run_ret (e_var h2)))))), h4, h3⟩
  refine while_inv I Q (fun m ℓ σ hi => ?_) WLIM z _ _ (by unfold WLIM; omega) start
  obtain ⟨tl, v, hw, l1, l2, hv, hst, fr, hm⟩ := hi
  cases tl with
  | nil =>
    left
    exact ⟨σ, c_of (v := .ref σ1.length) (by simp) (e_var l1) ((truthy_list hst).trans rfl), rfl, v, l2, hv, fr⟩
  | cons t0 tr =>
    right
    have hcond : evalC (callN prog d) (.var "stack") ℓ σ = some (true, σ) := c_of (v := .ref σ1.length) (by simp) (e_var l1) ((truthy_list hst).trans rfl)
    obtain ⟨u, a, s, k1, z1, dep, y', g1, g2, g3, g4, g5, g6⟩ := hw.last (by simp)
    generalize hT : t0 :: tr = TL at *
    have hlast : (TL.map V.ref).getLast? = some (.ref u) := by rw [List.getLast?_map, g1]; rfl
    have hn0 : σ1.length ≠ 0 := by omega
    have hpop := pop_list hst hlast hn0
    have hkeep : ∀ (t : Nat) (v w : V), σ[t]? = some (O.tuple [v, w]) → (σ.set σ1.length (.list (TL.map V.ref).dropLast))[t]? = some (.tuple [v, w]) := fun t v w e => get_set_ne (by rintro rfl; rw [hst] at e; cases e) e
    have g2' := hkeep _ _ _ g2
    have fr' : Fr [] σ0 (σ.set σ1.length (.list (TL.map V.ref).dropLast)) := fr.setNew (.inr hsA)
    have hsize : TL.dropLast.length ≤ 1000 := by have := g5.len; omega
    have hb : bindMany ℓ ["token", "depth"] [.ref a, .int dep] = some ((ℓ.set "token" (.ref a)).set "depth" (.int dep)) := rfl
    have hst' : (σ.set σ1.length (.list (TL.map V.ref).dropLast))[σ1.length]? = some (.list (TL.dropLast.map V.ref)) := by rw [← List.map_dropLast]; exact get_set_eq hst
    cases g3 with
    | text e =>
      have ha := fr'.get0 e
      refine ⟨σ, .next, _, _, hcond, seqN (x_assignM (e_bmeth (e_var l1) (mOk_list hst (by simp)) l_nil hpop) g2' hb) (seqN (x_ifF (by pv_eval) (by one_sign) x_done) x_done),
        .inl ⟨.inl rfl, y', by omega, TL.dropLast, v, g5.go hkeep, by one_place, by one_place, hv, hst', fr', by omega⟩⟩
    | @node _ ty c' cs' t1 k' z' e1 e2 e3 e4 e5 =>
      have ha := fr'.get0 e1
      have hc' := fr'.get0 e4
      have hne : σ1.length ≠ c' := by have := get_lt e4; omega
      have hcl' : cs'.length ≤ 1000 := by have := e5.len; omega
      have hadd : augOp .add (.int (dep : Nat)) (.int 1) = some (.int ((dep + 1 : Nat) : Int)) := rfl
      have hmax : builtinF (σ.set σ1.length (.list (TL.map V.ref).dropLast)) "max" [.int (v : Nat), .int ((dep + 1 : Nat) : Int)] = some (.int ((max v (dep + 1) : Nat) : Int), σ.set σ1.length (.list (TL.map V.ref).dropLast)) := by
        simp only [builtinF]
        congr 3
        split <;> omega
      obtain ⟨tl2, σ2, x1, x2, x3, x4, x5⟩ := ext_tuples (c := c') (a := σ1.length) (n := cs'.length) (cs := cs'.map .ref) (x := "child") (ℓ := Loc.only (((((ℓ.set "token" (.ref a)).set "depth" (.int dep)).set "depth" (.int ((dep + 1 : Nat) : Int))).set "maximum" (.int ((max v (dep + 1) : Nat) : Int)))) ["depth"]) (v2 := .int ((dep + 1 : Nat) : Int))
        (elt := fun ℓ σ => evalE (callN prog d) (.tuple (.cons (.var "child") (.cons (.var "depth") .nil))) ℓ σ) (by simp) hne (fun w σ => by
          have h1 : (Loc.only (((((ℓ.set "token" (.ref a)).set "depth" (.int dep)).set "depth" (.int ((dep + 1 : Nat) : Int))).set "maximum" (.int ((max v (dep + 1) : Nat) : Int)))) ["depth"]).set "child" w "child" = some w := by simp [Loc.set]
          have h2 : (Loc.only (((((ℓ.set "token" (.ref a)).set "depth" (.int dep)).set "depth" (.int ((dep + 1 : Nat) : Int))).set "maximum" (.int ((max v (dep + 1) : Nat) : Int)))) ["depth"]).set "child" w "depth" = some (.int ((dep + 1 : Nat) : Int)) := by simp [Loc.set, Loc.only]
          pv_eval) cs'.length 0 (TL.dropLast.map .ref) (σ.set σ1.length (.list (TL.map V.ref).dropLast)) (by omega) hc' hst' (by rw [List.length_map]; unfold LIM; omega)
      have hext : execS (callN prog d) (.extS ["depth"] (.var "stack") (.tuple (.cons (.var "child") (.cons (.var "depth") .nil))) (.one "child") (.dget (.var "token") "children")) (((((ℓ.set "token" (.ref a)).set "depth" (.int dep)).set "depth" (.int ((dep + 1 : Nat) : Int))).set "maximum" (.int ((max v (dep + 1) : Nat) : Int)))) (σ.set σ1.length (.list (TL.map V.ref).dropLast)) =
          some (.next, ((((ℓ.set "token" (.ref a)).set "depth" (.int dep)).set "depth" (.int ((dep + 1 : Nat) : Int))).set "maximum" (.int ((max v (dep + 1) : Nat) : Int))), σ2) := by
        have q1 : evalE (callN prog d) (.var "stack") (((((ℓ.set "token" (.ref a)).set "depth" (.int dep)).set "depth" (.int ((dep + 1 : Nat) : Int))).set "maximum" (.int ((max v (dep + 1) : Nat) : Int)))) (σ.set σ1.length (.list (TL.map V.ref).dropLast)) = some (.ref σ1.length, σ.set σ1.length (.list (TL.map V.ref).dropLast)) := e_var (by one_place)
        have q2 : evalE (callN prog d) (.dget (.var "token") "children") (((((ℓ.set "token" (.ref a)).set "depth" (.int dep)).set "depth" (.int ((dep + 1 : Nat) : Int))).set "maximum" (.int ((max v (dep + 1) : Nat) : Int)))) (σ.set σ1.length (.list (TL.map V.ref).dropLast)) = some (.ref c', σ.set σ1.length (.list (TL.map V.ref).dropLast)) := by pv_eval
        have q3 := list_of hst'
        have q4 : lenAt (σ.set σ1.length (.list (TL.map V.ref).dropLast)) σ1.length = some TL.dropLast.length := by simp only [lenAt, hst', List.length_map]
        have q5 : lenAt (σ.set σ1.length (.list (TL.map V.ref).dropLast)) c' = some cs'.length := by simp only [lenAt, hc', List.length_map]
        simp only [execS, q1, q2, q3, q4, q5, asRef, Option.bind_eq_bind, Option.bind_some]
        rw [if_neg (by omega)]
        simp only [x1, Option.bind_some]
      refine ⟨σ, .next, _, _, hcond, seqN (x_assignM (e_bmeth (e_var l1) (mOk_list hst (by simp)) l_nil hpop) g2' hb) (seqN (x_ifT (by pv_eval) (by one_sign) (seqN (x_aug (by one_place) (by pv_eval) hadd) (seqN (x_assign (by pv_eval)) (seqN hext x_done)))) x_done),
        .inl ⟨.inl rfl, y' + z', by omega, TL.dropLast ++ tl2, max v (dep + 1), ?_, by one_place, by one_place, by omega, by rw [List.map_append]; exact x4, fr'.over x2 (by simp; omega), by omega⟩⟩
      refine ((g5.go hkeep).go fun t v w e => x2.get e ?_).append (e5.wt (dep := dep + 1) (by omega) tl2 x3 fun j hj => ?_)
      · simp only [List.mem_singleton]; rintro rfl; rw [hst'] at e; cases e
      · obtain ⟨v', u', k1, k2, k3, _⟩ := x5 j hj
        exact ⟨v', u', by simpa using k1, k2, k3⟩
end P1
end Mine
end

/-! W8 -/
section
open PySem PySem.W PyProof.Rows
set_option linter.unusedVariables false
set_option linter.unusedSimpArgs false
namespace Mine
local macro_rules | `(tactic| one_place) => `(tactic| first | assumption | (simp only [Loc.set, params_cons, params_nil, String.reduceEq, if_true, if_false, reduceIte]; first | rfl | assumption))
local macro_rules | `(tactic| one_item) => `(tactic| first | assumption | exact get_last | (apply get_app; (one_item)) | (apply get_set_eq; (one_item)) | (apply get_set_ne; (first | assumption | omega); (one_item)))
local macro_rules | `(tactic| leaf_len) => `(tactic| first | assumption | rfl | (focus (simp; done)))
local macro_rules | `(tactic| l_ints) => `(tactic| first | assumption | (apply idx_list; (one_item); rfl; (assumption)) | (apply idx_tuple; (one_item); rfl; (assumption)) | (apply idx_list (k := 0); (one_item); rfl; rfl) | (apply idx_tuple (k := 0); (one_item); rfl; rfl) | (apply idx_tuple (k := 1); (one_item); rfl; rfl) | exact idx_str rfl (by assumption))
local macro_rules | `(tactic| pv_eval) => `(tactic| first
  | exact e_int | exact e_str | exact e_bool | exact e_non | exact e_nil
  | (apply e_var; (one_place))
  | (apply e_attr; (pv_eval); (one_item); (leaf_len))
  | (apply e_dget; (pv_eval); (one_item); (leaf_len))
  | (apply e_dhas; (pv_eval); (one_item); (leaf_len))
  | (apply e_dhasnt; (pv_eval); (one_item); (leaf_len))
  | (apply e_dgetd; (pv_eval); (one_item); (pv_eval); (leaf_len))
  | (apply e_sub; (pv_eval); (pv_eval); (l_ints))
  | (apply e_cmp; (pv_eval); (pv_eval); (leaf_len))
  | (apply e_bin; (pv_eval); (pv_eval); (leaf_len))
  | (apply e_lnot; (pv_eval); (one_sign))
  | (apply e_neg; (pv_eval))
  | (apply e_isNone; (pv_eval))
  | (apply e_ands; (modx_arm))
  | (apply e_ors; (modx_arm))
  | (apply e_iteT; (pv_eval); (one_sign); (pv_eval))
  | (apply e_iteF; (pv_eval); (one_sign); (pv_eval))
  | (apply e_list; (mod_arm))
  | (apply e_tuple; (mod_arm))
  | (apply e_dict; (o_shape))
  | exact e_tdict
  | (apply e_bcall; (mod_arm); (first | assumption | (apply len_list; (one_item)) | rfl))
  | (apply e_call; (mod_arm); (assumption))
  | (apply e_slice; (pv_eval); (pv_eval); (pv_eval); (assumption))
  | (apply e_bmeth; (pv_eval); (first | assumption | (apply mOk_str; (focus (simp; done))) | (apply mOk_list; (one_item); (focus (simp; done)))); (mod_arm); (first | assumption | rfl)))
local macro_rules | `(tactic| modx_arm) => `(tactic| first
  | (apply b_last; (pv_eval))
  | (apply b_go; (pv_eval); (one_sign); (modx_arm))
  | (apply b_stop; (pv_eval); (one_sign)))
local macro_rules | `(tactic| mod_arm) => `(tactic| first | exact l_nil | (apply l_cons; (pv_eval); (mod_arm)))
local macro_rules | `(tactic| o_shape) => `(tactic| first | exact kv_nil | (apply kv_cons; (pv_eval); (o_shape)))
local macro_rules | `(tactic| one_sign) => `(tactic| first | rfl | assumption | exact (truthy_list (by one_item)).trans rfl | (refine congrArg some ?_; first | (apply decide_eq_true; (omega)) | (apply decide_eq_false; (omega)) | assumption | (focus (simp; done)) | (focus (simp; omega)) | (focus (simp [*]; done))))
namespace P1
variable {d : Nat}
theorem cut_map {α β : Type} {f : α → β} {l : List α} {i j : Nat} : cut (l.map f) i j = (cut l i j).map f := by simp [cut, List.map_take, List.map_drop]
theorem cut_len {α : Type} {l : List α} {i j : Nat} (h : i ≤ j) (hj : j ≤ l.length) : (cut l i j).length = j - i := by simp [cut]; omega
/-- a part: a text, or a node -/
def PartAt (σ : St) (a : Nat) : Prop := (∃ s, σ[a]? = some (dText s)) ∨ ∃ ty c, σ[a]? = some (dNode ty c) ∧ (ty = T_emph ∨ ty = T_strong)
def Content (σ : St) (a : Nat) : Prop := (∃ s, σ[a]? = some (dText s) ∧ s ≠ []) ∨ ∃ ty c, σ[a]? = some (dNode ty c) ∧ (ty = T_emph ∨ ty = T_strong)
theorem s_content {σ : St} {p i j : Nat} {ps : List Nat} (hp : σ[p]? = some (.list (ps.map .ref))) (hij : i ≤ j) (hj : j ≤ ps.length) (hl : ps.length ≤ 1000) (hall : ∀ a ∈ cut ps i j, PartAt σ a) :
    ∃ b σ', callN prog (d + 1) "_has_emphasis_content" [.ref p, .int i, .int j] σ = some (.bool b, σ') ∧ Fr [] σ σ' ∧ ((∃ a ∈ cut ps i j, Content σ a) → b = true) := by
  have hL : (ps.map V.ref).length ≤ LIM := by rw [List.length_map]; unfold LIM; omega
  have hsl : sliceOf σ (.ref p) (.int i) (.int j) = some (.ref σ.length, σ ++ [.list ((cut ps i j).map .ref)]) := by
    rw [← cut_map]; exact slice_list hp (bnd_nat rfl (by rw [List.length_map]; omega) hL) (bnd_nat rfl (by rw [List.length_map]; omega) hL)
  generalize hC : cut ps i j = C at *
  let σ1 : St := σ ++ [.list (C.map .ref)]
  have hs1 : σ1[σ.length]? = some (.list (C.map .ref)) := get_last
  let I : Nat → Loc → St → Prop := fun k ℓ σ' => σ' = σ1 ∧ ∀ j a, j < k → C[j]? = some a → ¬ Content σ a
  let Q : Fl → Loc → St → Prop := fun fl ℓ σ' => σ' = σ1 ∧ (fl = .ret (.bool true) ∨ fl = .next ∧ ∀ a ∈ C, ¬ Content σ a)
  obtain ⟨fl, ℓ', σ', h1, rfl, h2⟩ := for_inv (src := .list σ.length) (t := .one "part") (n := C.length) (b := fun ℓ σ => execS (callN prog d) (match f_has_emphasis_content.body with | .seq (.forS _ _ b) _ => b | s => s) ℓ σ) I Q
    (fun i ℓ σ' _ hi => by rw [hi.1, size_list hs1, List.length_map]) (fun k ℓ σ' hk hi => by
      obtain ⟨rfl, hno⟩ := hi
      obtain ⟨a, ha⟩ : ∃ a, C[k]? = some a := ⟨_, List.getElem?_eq_getElem hk⟩
      have hb : (Src.list σ.length).bind σ1 ℓ (.one "part") k = some (ℓ.set "part" (.ref a)) := bind_list hs1 (by simp [ha])
      rcases hall a (List.mem_of_getElem? ha) with ⟨s, g⟩ | ⟨ty, c, g, ht⟩
      · have g' : σ1[a]? = some (dText s) := get_app g
        cases s with
        | nil =>
          refine ⟨_, .next, _, σ1, hb, seqN (x_ifF (by pv_eval) (by one_sign) x_done) x_done, .inl ⟨.inl rfl, rfl, fun j b hj hb2 => ?_⟩⟩
          by_cases hjk : j = k
          · rw [hjk, ha] at hb2; cases hb2
            rintro (⟨s, e1, e2⟩ | ⟨ty, c, e1, e2⟩)
            · rw [g] at e1; simp at e1; exact e2 e1
            · rw [g] at e1; simp at e1
          · exact hno j b (by omega) hb2
        | cons x r =>
          have hne : cmpOp σ1 .ne (.str (x :: r)) (.str []) = some true := rfl
          exact ⟨_, .ret (.bool true), _, σ1, hb, seqR (x_ifT (by pv_eval) (by one_sign) (seqR (x_ret (by pv_eval)))), .inr ⟨_, rfl, rfl, .inl rfl⟩⟩
      · have g' : σ1[a]? = some (dNode ty c) := get_app g
        rcases ht with rfl | rfl
        · exact ⟨_, .ret (.bool true), _, σ1, hb, seqR (x_ifT (by pv_eval) (by one_sign) (seqR (x_ret (by pv_eval)))), .inr ⟨_, rfl, rfl, .inl rfl⟩⟩
        · exact ⟨_, .ret (.bool true), _, σ1, hb, seqR (x_ifT (by pv_eval) (by one_sign) (seqR (x_ret (by pv_eval)))), .inr ⟨_, rfl, rfl, .inl rfl⟩⟩)
    (fun ℓ σ' hi => ⟨hi.1, .inr ⟨rfl, fun a ha => by obtain ⟨k, hk⟩ := List.getElem?_of_mem ha; exact hi.2 k a (List.getElem?_eq_some_iff.mp hk).1 hk⟩⟩) C.length 0 (params ["parts", "start", "end"] [.ref p, .int i, .int j]) σ1 (by omega) ⟨rfl, fun j a hj => by omega⟩
  have hsrc : evalSrc (callN prog d) (.slice (.var "parts") (.var "start") (.var "end")) (params ["parts", "start", "end"] [.ref p, .int i, .int j]) σ = some (.list σ.length, σ1) := src_slice (by pv_eval)
  have hn : (Src.list σ.length).size σ1 = some C.length := by rw [size_list hs1, List.length_map]
  rcases h2 with rfl | ⟨rfl, h2⟩
  · exact ⟨true, σ1, call1 rfl rfl (runR (run_of (run_for hsrc hn h1))), Fr.app, fun _ => rfl⟩
  · exact ⟨false, σ1, call1 rfl rfl (runN (run_for hsrc hn h1) (runR (run_ret (by pv_eval)))), Fr.app, fun ⟨a, ha, hc⟩ => absurd hc (h2 a ha)⟩
theorem s_children {σ : St} {X : List Nat} {p i j a b k z : Nat} {ps t : List Nat} {ra rb : List Nat} (hp : σ[p]? = some (.list (ps.map .ref))) (hij : i < j) (hl : ps.length ≤ 1000) (hi : ps[i]? = some a) (hj : ps[j]? = some b)
    (ha : σ[a]? = some (dText ra)) (hb : σ[b]? = some (dText rb)) (hall : ∀ a ∈ cut ps (i + 1) j, PartAt σ a) (hcon : ∃ a ∈ cut ps (i + 1) j, Content σ a) (hT : Tolds σ X (cut ps (i + 1) j) t k z) (hk : k < 20) (hz : z ≤ 1000) :
    ∃ c σ', callN prog (d + 2) "_get_emphasis_children" [.ref p, .int i, .int j, .int 20] σ = some (.ref c, σ') ∧ Fr [] σ σ' ∧ σ.length ≤ c ∧ σ'[c]? = some (.list ((cut ps (i + 1) j).map .ref)) := by
  have hjl : j < ps.length := (List.getElem?_eq_some_iff.mp hj).1
  have hL : (ps.map V.ref).length ≤ LIM := by rw [List.length_map]; unfold LIM; omega
  obtain ⟨bc, σ1, c1, f1, c2⟩ := s_content (d := d) hp (i := i + 1) (j := j) (by omega) (by omega) hl hall
  have hbc := c2 hcon
  subst hbc
  have hp1 := f1.get0 hp
  have ha1 := f1.get0 ha
  have hb1 := f1.get0 hb
  have hia : (ps.map V.ref)[i]? = some (.ref a) := by simp [hi]
  have hjb : (ps.map V.ref)[j]? = some (.ref b) := by simp [hj]
  have hsl : sliceOf σ1 (.ref p) (.int ((i : Int) + 1)) (.int j) = some (.ref σ1.length, σ1 ++ [.list ((cut ps (i + 1) j).map .ref)]) := by
    rw [← cut_map]; exact slice_list hp1 (bnd_nat (k := i + 1) (by omega) (by rw [List.length_map]; omega) hL) (bnd_nat rfl (by rw [List.length_map]; omega) hL)
  have hT2 : Tolds (σ1 ++ [.list ((cut ps (i + 1) j).map .ref)]) X (cut ps (i + 1) j) t k z := Tolds.go (fun b o h1 h2 => ⟨h1, get_app (f1.get0 h2)⟩) hT
  obtain ⟨v, σ3, e1, f3, hv⟩ := s_depth (d := d) hT2 get_last hz (by simp)
  have hcall : callN prog (d + 1) "_has_emphasis_content" [.ref p, .int ((i : Int) + 1), .int j] σ = some (.bool true, σ1) := c1
  have hge : cmpOp σ3 .ge (.int (v : Nat)) (.int 20) = some false := congrArg some (decide_eq_false (by omega))
  refine ⟨σ1.length, σ3, call1 rfl rfl (runN (x_ifF (by pv_eval) (by one_sign) x_done) (runN (x_assign (by pv_eval)) (runN (x_assign (by pv_eval)) (runN (x_ifF (by pv_eval) (by one_sign) x_done) (runN (x_assign (by pv_eval)) (runN (x_ifF (v := .bool false) (by pv_eval) (by one_sign) x_done) (runR (run_ret (by pv_eval))))))))),
    f1.trans (Fr.app.trans f3), f1.1, f3.get0 get_last⟩
theorem s_children' {σ : St} {p i j a b c : Nat} {ps : List Nat} {ty rb : List Nat} (hp : σ[p]? = some (.list (ps.map .ref))) (hij : i < j) (hl : ps.length ≤ 1000) (hi : ps[i]? = some a) (hj : ps[j]? = some b)
    (ha : σ[a]? = some (dNode ty c)) (hty : ty = T_emph ∨ ty = T_strong) (hall : ∀ a ∈ cut ps (i + 1) j, PartAt σ a) :
    ∃ σ', callN prog (d + 2) "_get_emphasis_children" [.ref p, .int i, .int j, .int 20] σ = some (.none, σ') ∧ Fr [] σ σ' := by
  have hjl : j < ps.length := (List.getElem?_eq_some_iff.mp hj).1
  obtain ⟨bc, σ1, c1, f1, c2⟩ := s_content (d := d) hp (i := i + 1) (j := j) (by omega) (by omega) hl hall
  have hcall : callN prog (d + 1) "_has_emphasis_content" [.ref p, .int ((i : Int) + 1), .int j] σ = some (.bool bc, σ1) := c1
  have hp1 := f1.get0 hp
  have ha1 := f1.get0 ha
  have hia : (ps.map V.ref)[i]? = some (.ref a) := by simp [hi]
  have hjb : (ps.map V.ref)[j]? = some (.ref b) := by simp [hj]
  cases bc with
  | false => exact ⟨σ1, call1 rfl rfl (runR (run_ifT (by pv_eval) (by one_sign) (runR (run_ret (by pv_eval))))), f1⟩
  | true =>
    rcases hty with rfl | rfl
    · exact ⟨σ1, call1 rfl rfl (runN (x_ifF (by pv_eval) (by one_sign) x_done) (runN (x_assign (by pv_eval)) (runN (x_assign (by pv_eval)) (runR (run_ifT (by pv_eval) (by one_sign) (runR (run_ret (by pv_eval)))))))), f1⟩
    · exact ⟨σ1, call1 rfl rfl (runN (x_ifF (by pv_eval) (by one_sign) x_done) (runN (x_assign (by pv_eval)) (runN (x_assign (by pv_eval)) (runR (run_ifT (by pv_eval) (by one_sign) (runR (run_ret (by pv_eval)))))))), f1⟩
end P1
end Mine
end

/-! W9 -/
section
open PySem PySem.W PyProof.Rows
set_option linter.unusedVariables false
set_option linter.unusedSimpArgs false
namespace Mine
local macro_rules | `(tactic| one_place) => `(tactic| first | assumption | (simp only [Loc.set, params_cons, params_nil, String.reduceEq, if_true, if_false, reduceIte]; first | rfl | assumption))
local macro_rules | `(tactic| one_item) => `(tactic| first | assumption | exact get_last | (apply get_app; (one_item)) | (apply get_set_eq; (one_item)) | (apply get_set_ne; (first | assumption | omega); (one_item)))
local macro_rules | `(tactic| leaf_len) => `(tactic| first | assumption | rfl | (focus (simp; done)))
local macro_rules | `(tactic| l_ints) => `(tactic| first | assumption | (apply idx_list; (one_item); rfl; (assumption)) | (apply idx_tuple; (one_item); rfl; (assumption)) | (apply idx_list (k := 0); (one_item); rfl; rfl) | (apply idx_tuple (k := 0); (one_item); rfl; rfl) | (apply idx_tuple (k := 1); (one_item); rfl; rfl) | exact idx_str rfl (by assumption))
local macro_rules | `(tactic| pv_eval) => `(tactic| first
  | exact e_int | exact e_str | exact e_bool | exact e_non | exact e_nil
  | (apply e_var; (one_place))
  | (apply e_attr; (pv_eval); (one_item); (leaf_len))
  | (apply e_dget; (pv_eval); (one_item); (leaf_len))
  | (apply e_dhas; (pv_eval); (one_item); (leaf_len))
  | (apply e_dhasnt; (pv_eval); (one_item); (leaf_len))
  | (apply e_dgetd; (pv_eval); (one_item); (pv_eval); (leaf_len))
  | (apply e_sub; (pv_eval); (pv_eval); (l_ints))
  | (apply e_cmp; (pv_eval); (pv_eval); (leaf_len))
  | (apply e_bin; (pv_eval); (pv_eval); (leaf_len))
  | (apply e_lnot; (pv_eval); (one_sign))
  | (apply e_neg; (pv_eval))
  | (apply e_isNone; (pv_eval))
  | (apply e_ands; (modx_arm))
  | (apply e_ors; (modx_arm))
  | (apply e_iteT; (pv_eval); (one_sign); (pv_eval))
  | (apply e_iteF; (pv_eval); (one_sign); (pv_eval))
  | (apply e_list; (mod_arm))
  | (apply e_tuple; (mod_arm))
  | (apply e_dict; (o_shape))
  | exact e_tdict
  | (apply e_bcall; (mod_arm); (first | assumption | (apply len_list; (one_item)) | rfl))
  | (apply e_call; (mod_arm); (assumption))
  | (apply e_slice; (pv_eval); (pv_eval); (pv_eval); (assumption))
  | (apply e_bmeth; (pv_eval); (first | assumption | (apply mOk_str; (focus (simp; done))) | (apply mOk_list; (one_item); (focus (simp; done)))); (mod_arm); (first | assumption | rfl)))
local macro_rules | `(tactic| modx_arm) => `(tactic| first
  | (apply b_last; (pv_eval))
  | (apply b_go; (pv_eval); (one_sign); (modx_arm))
  | (apply b_stop; (pv_eval); (one_sign)))
local macro_rules | `(tactic| mod_arm) => `(tactic| first | exact l_nil | (apply l_cons; (pv_eval); (mod_arm)))
local macro_rules | `(tactic| o_shape) => `(tactic| first | exact kv_nil | (apply kv_cons; (pv_eval); (o_shape)))
local macro_rules | `(tactic| one_sign) => `(tactic| first | rfl | assumption | exact (truthy_list (by one_item)).trans rfl | (refine congrArg some ?_; first | (apply decide_eq_true; (omega)) | (apply decide_eq_false; (omega)) | assumption | (focus (simp; done)) | (focus (simp; omega)) | (focus (simp [*]; done))))
namespace P1
variable {d : Nat}
def Ent (σ0 σ : St) (k : Nat) (a : Nat) (s : List Nat) : Prop := σ[a]? = some (dText s) ∨ ∃ z, Told σ0 [] a s k z
theorem Ent.go {σ0 σ σ' : St} {k a : Nat} {s : List Nat} (h : ∀ s, σ[a]? = some (dText s) → σ'[a]? = some (dText s)) : Ent σ0 σ k a s → Ent σ0 σ' k a s
  | .inl e => .inl (h _ e)
  | .inr e => .inr e
abbrev Ents (σ0 σ : St) (k : Nat) := All2 (Ent σ0 σ k)
theorem ents_tolds {σ0 σ : St} {k : Nat} (fr : Fr [] σ0 σ) : ∀ {rs : List Nat} {ss : List (List Nat)}, Ents σ0 σ k rs ss → ∃ z, Tolds σ [] rs ss.flatten k z
  | _, _, .nil => ⟨0, .nil⟩
  | _, _, .cons (.inl e) r => let ⟨z, h⟩ := ents_tolds fr r; ⟨1 + z, .cons (by simp) (.text e) h⟩
  | _, _, .cons (.inr ⟨z1, e⟩) r => let ⟨z, h⟩ := ents_tolds fr r; ⟨z1 + z, .cons (by simp) (Told.go (fun b o h1 h2 => ⟨h1, fr.get0 h2⟩) e fun o ho => fr.get0 ho) h⟩
theorem not_dict_of_list {σ : St} {n a : Nat} {vs : List V} {fs : List (String × V)} (h : σ[n]? = some (.list vs)) (h' : σ[a]? = some (.dict fs)) : n ≠ a := by
  rintro rfl; rw [h] at h'; cases h'
/-- the loop's state -/
structure MgI (σ0 : St) (k : Nat) (rA : Nat) (ps : List Nat) (t : List Nat) (i : Nat) (ℓ : Loc) (σ : St) : Prop where
  w : ∃ (cA : Nat) (rs : List Nat) (ss chs : List (List Nat)) (t2 : List Nat) (z2 : Nat), ℓ "chunks" = some (.ref cA) ∧ rA ≠ cA ∧ σ0.length ≤ cA ∧ σ[rA]? = some (.list (rs.map .ref)) ∧ σ[cA]? = some (.list (chs.map .str)) ∧ Ents σ0 σ k rs ss ∧ Tolds σ0 [] (ps.drop i) t2 k z2 ∧
    t = ss.flatten ++ chs.flatten ++ t2 ∧ (∀ s ∈ chs, endsS s [38] = false) ∧ chs.length ≤ i ∧ rs.length ≤ 2 * i
  lr : ℓ "result" = some (.ref rA)
  fr : Fr [] σ0 σ
theorem result_app {cf : CallF} {ℓ : Loc} {σ : St} {rA cA : Nat} {rs : List Nat} {chs : List (List Nat)} (l1 : ℓ "result" = some (.ref rA)) (l2 : ℓ "chunks" = some (.ref cA)) (hr : σ[rA]? = some (.list (rs.map .ref))) (hc : σ[cA]? = some (.list (chs.map .str))) (h0 : rA ≠ 0)
    (hl : rs.length < 100000) (hcl : chs.flatten.length ≤ 1000) :
    execS cf (.expr (.bmeth (.var "result") "append" (.cons (.dict (.kv "type" (.str [116, 101, 120, 116]) (.kv "raw" (.bmeth (.str []) "join" (.cons (.var "chunks") .nil)) .nil))) .nil))) ℓ σ = some (.next, ℓ, (σ ++ [dText chs.flatten]).set rA (.list ((rs ++ [σ.length]).map .ref))) := by
  have hj : builtinM σ (.str []) "join" [.ref cA] = some (.str chs.flatten, σ) := join_list hc allStrs_map (by unfold LIM; omega)
  have hb : builtinM (σ ++ [dText chs.flatten]) (.ref rA) "append" [.ref σ.length] = some (.none, (σ ++ [dText chs.flatten]).set rA (.list ((rs ++ [σ.length]).map .ref))) := by
    rw [List.map_append]
    exact app_list (get_app hr) ⟨by rw [List.length_map]; unfold LIM; omega, h0⟩
  exact x_expr (by pv_eval)
theorem s_merge {σ0 : St} {p k z : Nat} {ps t : List Nat} (hp : σ0[p]? = some (.list (ps.map .ref))) (hT : Tolds σ0 [] ps t k z) (hl : ps.length ≤ 1000) (ht : t.length ≤ 1000) (h0 : σ0 ≠ []) (hend : ∀ a ∈ ps, ∀ s, σ0[a]? = some (dText s) → endsS s [38] = false) :
    ∃ r rs σ' z', callN prog (d + 2) "_merge_text_tokens" [.ref p] σ0 = some (.ref r, σ') ∧ σ'[r]? = some (.list (rs.map .ref)) ∧ Tolds σ' [] rs t k z' ∧ Fr [] σ0 σ' := by
  have hs0 : σ0.length ≠ 0 := by simpa using h0
  have rA0 : σ0.length ≠ 0 := hs0
  let I : Nat → Loc → St → Prop := MgI σ0 k σ0.length ps t
  have hsz : ∀ {σ}, Fr [] σ0 σ → (Src.list p).size σ = some ps.length := fun fr => by rw [size_list (fr.get0 hp), List.length_map]
  have start : I 0 (((params ["tokens"] [.ref p]).set "result" (.ref σ0.length)).set "chunks" (.ref (σ0 ++ [O.list []]).length)) ((σ0 ++ [O.list []]) ++ [O.list []]) := by
    refine ⟨⟨(σ0 ++ [O.list []]).length, [], [], [], t, z, by one_place, by simp, by simp, get_app get_last, get_last, .nil, by simpa using hT, by simp, by simp, by simp, by simp⟩, by one_place, Fr.app.trans Fr.app⟩
  obtain ⟨fl, ℓ', σ', h1, rfl, hI⟩ := for_inv (src := .list p) (t := .one "token") (n := ps.length) (b := fun ℓ σ => execS (callN prog (d + 1)) (match f_merge_text_tokens.body with | .seq _ (.seq _ (.seq (.forS _ _ b) _)) => b | s => s) ℓ σ) I
    (fun fl ℓ σ => fl = .next ∧ I ps.length ℓ σ) (fun i ℓ σ _ hi => hsz hi.fr) (fun i ℓ σ hi hI => by
      obtain ⟨⟨cA, rs, ss, chs, t2, z2, lc, hne, hcA, hr, hc, hE, hT2, he, hes, hcl, hrl⟩, lr, fr⟩ := hI
      obtain ⟨a, ha⟩ : ∃ a, ps[i]? = some a := ⟨_, List.getElem?_eq_getElem hi⟩
      have hdr : ps.drop i = a :: ps.drop (i + 1) := by
        rw [List.drop_eq_getElem_cons hi]; congr 1
        have := List.getElem?_eq_getElem hi; rw [ha] at this; exact (Option.some.inj this).symm
      have hb : (Src.list p).bind σ ℓ (.one "token") i = some (ℓ.set "token" (.ref a)) := bind_list (fr.get0 hp) (by simp [ha])
      rw [hdr] at hT2
      have htl : ss.flatten.length + chs.flatten.length + t2.length ≤ 1000 := by rw [he] at ht; simpa [Nat.add_assoc] using ht
      cases hT2 with
      | @cons _ s _ z1 _ t' z' e1 e2 e3 =>
        cases e2 with
        | text g =>
          have g' := fr.get0 g
          cases s with
          | nil =>
            refine ⟨_, .cont, _, σ, hb, seqC (x_ifT (by pv_eval) (by one_sign) (seqN (x_assign (by pv_eval)) (seqC (x_ifT (by pv_eval) (by one_sign) (seqC x_cont))))), .inl ⟨.inr rfl, ⟨⟨cA, rs, ss, chs, t', _, by one_place, hne, hcA, hr, hc, hE, e3, by simpa using he, hes, by omega, by omega⟩, by one_place, fr⟩⟩⟩
          | cons x r =>
            have hnt : truthy σ (.str (x :: r)) = some true := rfl
            have happ : builtinM σ (.ref cA) "append" [.str (x :: r)] = some (.none, σ.set cA (.list ((chs ++ [x :: r]).map .str))) := by
              rw [List.map_append]; exact app_list hc ⟨by rw [List.length_map]; unfold LIM; omega, by omega⟩
            have hnew : I (i + 1) (((ℓ.set "token" (.ref a)).set "raw" (.str (x :: r)))) (σ.set cA (.list ((chs ++ [x :: r]).map .str))) := by
              refine ⟨⟨cA, rs, ss, chs ++ [x :: r], t', _, by one_place, hne, hcA, get_set_ne (Ne.symm hne) hr, get_set_eq hc, hE.mono fun a s q => q.go fun s' e => get_set_ne (not_dict_of_list hc e) e, e3, by rw [he]; simp, fun s hs => ?_, by simp; omega, by omega⟩, by one_place, fr.setNew (.inr hcA)⟩
              rcases List.mem_append.mp hs with hs | hs
              · exact hes s hs
              · rw [List.mem_singleton.mp hs]; exact hend a (List.mem_of_getElem? ha) _ g
            cases hch : chs with
            | nil =>
              rw [hch] at hc
              refine ⟨_, .next, _, _, hb, seqN (x_ifT (by pv_eval) (by one_sign) (seqN (x_assign (by pv_eval)) (seqN (x_ifF (by pv_eval) (by one_sign) x_done) (seqN (x_ifF (v := .ref cA) (by pv_eval) ((truthy_list hc).trans rfl) x_done) (seqN (x_expr (by pv_eval)) x_done))))) x_done, .inl ⟨.inl rfl, hnew⟩⟩
            | cons y ys =>
              obtain ⟨w, hw⟩ : ∃ w, chs.getLast? = some w := by rw [hch]; exact ⟨_, List.getLast?_eq_getLast (by simp)⟩
              have hix : index σ (.ref cA) (.int (-1)) = some (.str w) := idx_last hc (by rw [List.getLast?_map, hw]; rfl)
              have hent := s_entity (d := d) (σ := σ) (l := w) (v := .str (x :: r)) (hes w (List.mem_of_getLast? hw))
              have htr : truthy σ (.ref cA) = some true := by rw [truthy_list hc, hch]; rfl
              refine ⟨_, .next, _, _, hb, seqN (x_ifT (by pv_eval) (by one_sign) (seqN (x_assign (by pv_eval)) (seqN (x_ifF (by pv_eval) (by one_sign) x_done) (seqN (x_ifF (v := .bool false) (by pv_eval) (by one_sign) x_done) (seqN (x_expr (by pv_eval)) x_done))))) x_done, .inl ⟨.inl rfl, hnew⟩⟩
        | @node _ ty c cs t1 k' z3 g1 g2 g3 g4 g5 =>
          have hE1 : Ent σ0 σ (k' + 1) a (wrapS ty t1) := .inr ⟨_, .node g1 g2 g3 g4 g5⟩
          have hty : cmpOp σ .eq (.str ty) (.str [116, 101, 120, 116]) = some false := by rcases g2 with rfl | rfl <;> rfl
          have k1 := fr.get0 g1
          cases hch : chs with
          | nil =>
            rw [hch] at hc he
            have hcl := s_clean (d := d) k1 rfl rfl
            have happ : builtinM σ (.ref σ0.length) "append" [.ref a] = some (.none, σ.set σ0.length (.list ((rs ++ [a]).map .ref))) := by
              rw [List.map_append]; exact app_list hr ⟨by rw [List.length_map]; unfold LIM; omega, rA0⟩
            refine ⟨_, .next, _, _, hb, seqN (x_ifF (by pv_eval) (by one_sign) (seqN (x_ifF (v := .ref cA) (by pv_eval) ((truthy_list hc).trans rfl) x_done) (seqN (x_expr (by pv_eval)) x_done))) x_done,
              .inl ⟨.inl rfl, ⟨⟨cA, rs ++ [a], ss ++ [wrapS ty t1], [], t', _, by one_place, hne, hcA, get_set_eq hr, get_set_ne hne hc, ?_, e3, by rw [he]; simp, by simp, by simp, by simp; omega⟩, by one_place, fr.setNew (.inr (Nat.le_refl _))⟩⟩⟩
            refine (hE.mono fun a s q => q.go fun s' e => get_set_ne (not_dict_of_list hr e) e).append (.cons (.inr ⟨_, .node g1 g2 g3 g4 g5⟩) .nil)
          | cons y ys =>
            have htr : truthy σ (.ref cA) = some true := by rw [truthy_list hc, hch]; rfl
            have hfl : chs.flatten.length ≤ 1000 := by omega
            have hrl2 : rs.length < 100000 := by omega
            have hgl : σ0.length < σ.length := get_lt hr
            have hra : ((σ ++ [dText chs.flatten]).set σ0.length (.list ((rs ++ [σ.length]).map .ref)))[σ0.length]? = some (.list ((rs ++ [σ.length]).map .ref)) := get_set_eq (get_app hr)
            generalize hσ2 : (σ ++ [dText chs.flatten]).set σ0.length (.list ((rs ++ [σ.length]).map .ref)) = σ2 at *
            have f2 : Fr [] σ0 σ2 := by rw [← hσ2]; exact (fr.trans Fr.app).setNew (.inr (Nat.le_refl _))
            have hap := result_app (cf := callN prog (d + 1)) (ℓ := ℓ.set "token" (.ref a)) (σ := σ) (by one_place) (by one_place) hr hc rA0 hrl2 hfl
            rw [hσ2] at hap
            have hne2 : σ0.length ≠ σ2.length := by have := get_lt hra; omega
            have k2 : (σ2 ++ [O.list []])[a]? = some (dNode ty c) := get_app (f2.get0 g1)
            have hcl := s_clean (d := d) k2 rfl rfl
            have happ : builtinM (σ2 ++ [O.list []]) (.ref σ0.length) "append" [.ref a] = some (.none, (σ2 ++ [O.list []]).set σ0.length (.list (((rs ++ [σ.length]) ++ [a]).map .ref))) := by
              rw [List.map_append]; exact app_list (get_app hra) ⟨by rw [List.length_map]; simp; unfold LIM; omega, rA0⟩
            refine ⟨_, .next, _, _, hb, seqN (x_ifF (by pv_eval) (by one_sign) (seqN (x_ifT (v := .ref cA) (by pv_eval) htr (seqN hap (seqN (x_assign (by pv_eval)) x_done))) (seqN (x_expr (by pv_eval)) x_done))) x_done,
              .inl ⟨.inl rfl, ⟨⟨σ2.length, (rs ++ [σ.length]) ++ [a], (ss ++ [chs.flatten]) ++ [wrapS ty t1], [], t', _, by one_place, hne2, f2.1, get_set_eq (get_app hra), get_set_ne hne2 get_last, ?_, e3, by rw [he]; simp, by simp, by simp, by simp; omega⟩, by one_place, (f2.trans Fr.app).setNew (.inr (Nat.le_refl _))⟩⟩⟩
            refine All2.append (All2.append (hE.mono fun a s q => q.go fun s' e => ?_) (.cons (.inl ?_) .nil)) (.cons (.inr ⟨_, .node g1 g2 g3 g4 g5⟩) .nil)
            · have h3 : σ2[σ.length]? = some (dText chs.flatten) := by rw [← hσ2]; exact get_set_ne (by omega) get_last
              exact get_set_ne (not_dict_of_list hra h3) (get_app h3)
            · have h3 : σ2[a]? = some (dText s') := by rw [← hσ2]; exact get_set_ne (not_dict_of_list hr e) (get_app e)
              exact get_set_ne (not_dict_of_list hra h3) (get_app h3)) (fun ℓ σ hi => ⟨rfl, hi⟩) ps.length 0 _ _ (by omega) start
  obtain ⟨⟨cA, rs, ss, chs, t2, z2, lc, hne, hcA, hr, hc, hE, hT2, he, hes, hcl, hrl⟩, lr, fr⟩ := hI
  rw [List.drop_length] at hT2
  cases hT2
  have htl : ss.flatten.length + chs.flatten.length ≤ 1000 := by rw [he] at ht; simpa [Nat.add_assoc] using ht
  cases hch : chs with
  | nil =>
    rw [hch] at hc he
    obtain ⟨z', h⟩ := ents_tolds fr hE
    refine ⟨σ0.length, rs, σ', z', call1 rfl rfl (runN (x_assign (by pv_eval)) (runN (x_assign (by pv_eval)) (runN (run_for (src_var (by one_place)) (hsz (Fr.app.trans Fr.app)) h1) (runN (x_ifF (v := .ref cA) (by pv_eval) ((truthy_list hc).trans rfl) x_done) (runR (run_ret (by pv_eval))))))), hr, ?_, fr⟩
    rw [he]; simpa using h
  | cons y ys =>
    have htr : truthy σ' (.ref cA) = some true := by rw [truthy_list hc, hch]; rfl
    have hap := result_app (cf := callN prog (d + 1)) (ℓ := ℓ') (σ := σ') lr lc hr hc rA0 (by omega) (by omega)
    have hra : ((σ' ++ [dText chs.flatten]).set σ0.length (.list ((rs ++ [σ'.length]).map .ref)))[σ0.length]? = some (.list ((rs ++ [σ'.length]).map .ref)) := get_set_eq (get_app hr)
    have f2 : Fr [] σ0 ((σ' ++ [dText chs.flatten]).set σ0.length (.list ((rs ++ [σ'.length]).map .ref))) := (fr.trans Fr.app).setNew (.inr (Nat.le_refl _))
    have hgl : σ0.length < σ'.length := get_lt hr
    have hE' : Ents σ0 ((σ' ++ [dText chs.flatten]).set σ0.length (.list ((rs ++ [σ'.length]).map .ref))) k (rs ++ [σ'.length]) (ss ++ [chs.flatten]) :=
      All2.append (hE.mono fun a s q => q.go fun s' e => get_set_ne (not_dict_of_list hr e) (get_app e)) (.cons (.inl (get_set_ne (by omega) get_last)) .nil)
    obtain ⟨z', h⟩ := ents_tolds f2 hE'
    refine ⟨σ0.length, rs ++ [σ'.length], _, z', call1 rfl rfl (runN (x_assign (by pv_eval)) (runN (x_assign (by pv_eval)) (runN (run_for (src_var (by one_place)) (hsz (Fr.app.trans Fr.app)) h1) (runN (x_ifT (v := .ref cA) (by pv_eval) htr (seqN hap x_done)) (runR (run_ret (by pv_eval))))))), hra, ?_, f2⟩
    rw [he]; simpa using h
end P1
end Mine
end

/-! W10 -/
section
open PySem PySem.W PyProof.Rows
set_option linter.unusedVariables false
set_option linter.unusedSimpArgs false
namespace Mine
local macro_rules | `(tactic| one_place) => `(tactic| first | assumption | (simp only [Loc.set, params_cons, params_nil, String.reduceEq, if_true, if_false, reduceIte]; first | rfl | assumption))
local macro_rules | `(tactic| one_item) => `(tactic| first | assumption | exact get_last | (apply get_app; (one_item)) | (apply get_set_eq; (one_item)) | (apply get_set_ne; (first | assumption | omega); (one_item)))
local macro_rules | `(tactic| leaf_len) => `(tactic| first | assumption | rfl | (focus (simp; done)))
local macro_rules | `(tactic| l_ints) => `(tactic| first | assumption | (apply idx_list; (one_item); rfl; (assumption)) | (apply idx_tuple; (one_item); rfl; (assumption)) | (apply idx_list (k := 0); (one_item); rfl; rfl) | (apply idx_tuple (k := 0); (one_item); rfl; rfl) | (apply idx_tuple (k := 1); (one_item); rfl; rfl) | exact idx_str rfl (by assumption))
local macro_rules | `(tactic| pv_eval) => `(tactic| first
  | exact e_int | exact e_str | exact e_bool | exact e_non | exact e_nil
  | (apply e_var; (one_place))
  | (apply e_attr; (pv_eval); (one_item); (leaf_len))
  | (apply e_dget; (pv_eval); (one_item); (leaf_len))
  | (apply e_dhas; (pv_eval); (one_item); (leaf_len))
  | (apply e_dhasnt; (pv_eval); (one_item); (leaf_len))
  | (apply e_dgetd; (pv_eval); (one_item); (pv_eval); (leaf_len))
  | (apply e_sub; (pv_eval); (pv_eval); (l_ints))
  | (apply e_cmp; (pv_eval); (pv_eval); (leaf_len))
  | (apply e_bin; (pv_eval); (pv_eval); (leaf_len))
  | (apply e_lnot; (pv_eval); (one_sign))
  | (apply e_neg; (pv_eval))
  | (apply e_isNone; (pv_eval))
  | (apply e_ands; (modx_arm))
  | (apply e_ors; (modx_arm))
  | (apply e_iteT; (pv_eval); (one_sign); (pv_eval))
  | (apply e_iteF; (pv_eval); (one_sign); (pv_eval))
  | (apply e_list; (mod_arm))
  | (apply e_tuple; (mod_arm))
  | (apply e_dict; (o_shape))
  | exact e_tdict
  | (apply e_bcall; (mod_arm); (first | assumption | (apply len_list; (one_item)) | rfl))
  | (apply e_call; (mod_arm); (assumption))
  | (apply e_slice; (pv_eval); (pv_eval); (pv_eval); (assumption))
  | (apply e_bmeth; (pv_eval); (first | assumption | (apply mOk_str; (focus (simp; done))) | (apply mOk_list; (one_item); (focus (simp; done)))); (mod_arm); (first | assumption | rfl)))
local macro_rules | `(tactic| modx_arm) => `(tactic| first
  | (apply b_last; (pv_eval))
  | (apply b_go; (pv_eval); (one_sign); (modx_arm))
  | (apply b_stop; (pv_eval); (one_sign)))
local macro_rules | `(tactic| mod_arm) => `(tactic| first | exact l_nil | (apply l_cons; (pv_eval); (mod_arm)))
local macro_rules | `(tactic| o_shape) => `(tactic| first | exact kv_nil | (apply kv_cons; (pv_eval); (o_shape)))
local macro_rules | `(tactic| one_sign) => `(tactic| first | rfl | assumption | exact (truthy_list (by one_item)).trans rfl | (refine congrArg some ?_; first | (apply decide_eq_true; (omega)) | (apply decide_eq_false; (omega)) | assumption | (focus (simp; done)) | (focus (simp; omega)) | (focus (simp [*]; done))))
namespace P1
variable {d : Nat}
abbrev IM (t nx : Nat) : O := .inst "_DelimiterIndex" [("_tree", .ref t), ("_next", .ref nx)]
theorem rep_flat {n : Nat} : (List.replicate n [V.int 0]).flatten = List.replicate n (V.int 0) := by
  induction n with
  | zero => rfl
  | succ n ih => rw [List.replicate_succ, List.flatten_cons, ih, List.replicate_succ]; rfl
theorem s_index_init {σ : St} {m q n : Nat} {dv : List V} (hm : σ[m]? = some (.inst "_DelimiterIndex" [])) (h0 : m ≠ 0) (hq : σ[q]? = some (.list dv)) (hn : n ≤ 500) (hdl : dv.length ≤ 500) :
    ∃ t nx σ', callN prog (d + 1) "_DelimiterIndex.__init__" [.ref m, .ref q, .int n] σ = some (.none, σ') ∧ Fr [m] σ σ' ∧ σ'[m]? = some (IM t nx) ∧ σ'[t]? = some (.list (List.replicate (n + 1) (.int 0))) ∧ σ'[nx]? = some (.list ((List.range (dv.length + 1)).map fun i => .int (i : Nat))) ∧ σ.length ≤ t ∧ t < nx := by
  have hml := get_lt hm
  have e1 : binOp (σ ++ [.list [.int 0]]) .mul (.ref σ.length) (.int ((n : Int) + 1)) = some (.ref (σ ++ [O.list [.int 0]]).length, (σ ++ [.list [.int 0]]) ++ [.list (List.replicate (n + 1) (.int 0))]) := by
    have hg : getList (σ ++ [O.list [.int 0]]) (.ref σ.length) = some (σ.length, [.int 0]) := list_of get_last
    simp only [binOp, mulList, hg, Option.bind_eq_bind, Option.bind_some]
    rw [if_pos (by unfold LIM; simp; omega), show ((n : Int) + 1).toNat = n + 1 by omega, rep_flat]
  generalize hσ1 : (σ ++ [O.list [.int 0]]) ++ [O.list (List.replicate (n + 1) (.int 0))] = σ1 at e1
  have hlen1 : (σ ++ [O.list [.int 0]]).length = σ.length + 1 := by simp
  have g1 : σ1[σ.length + 1]? = some (.list (List.replicate (n + 1) (.int 0))) := by rw [← hσ1, ← hlen1]; exact get_last
  have hm1 : σ1[m]? = some (.inst "_DelimiterIndex" []) := by rw [← hσ1]; exact get_app (get_app hm)
  have hq1 : σ1[q]? = some (.list dv) := by rw [← hσ1]; exact get_app (get_app hq)
  have f1 : Fr [m] σ σ1 := by rw [← hσ1]; exact Fr.app.trans Fr.app
  have hneq : m ≠ q := by rintro rfl; rw [hm] at hq; cases hq
  have hl1 : σ1.length = σ.length + 2 := by rw [← hσ1]; simp
  let σ2 := σ1.set m (.inst "_DelimiterIndex" [("_tree", .ref (σ.length + 1))])
  have hq2 : σ2[q]? = some (.list dv) := get_set_ne hneq hq1
  have hm2 : σ2[m]? = some (.inst "_DelimiterIndex" [("_tree", .ref (σ.length + 1))]) := get_set_eq hm1
  have hl2 : σ2.length = σ.length + 2 := by simp [σ2, hl1]
  let σ3 := σ2 ++ [.list ((List.range (dv.length + 1)).map fun i => .int (i : Nat))]
  have e2 : evalE (callN prog d) (.listRng (.bin .add (.bcall "len" (.cons (.var "delimiters") .nil)) (.int 1))) (params ["self", "delimiters", "part_count"] [.ref m, .ref q, .int n]) σ2 = some (.ref (σ.length + 2), σ3) := by
    have hz : ((dv.length : Int) + 1).toNat = dv.length + 1 := by omega
    have := e_listRng (cf := callN prog d) (e := .bin .add (.bcall "len" (.cons (.var "delimiters") .nil)) (.int 1)) (ℓ := params ["self", "delimiters", "part_count"] [.ref m, .ref q, .int n]) (σ := σ2) (σ1 := σ2) (z := (dv.length : Int) + 1) (by pv_eval) ⟨by omega, by unfold LIM; omega⟩
    rw [hz, hl2] at this
    exact this
  have hm3 : σ3[m]? = some (.inst "_DelimiterIndex" [("_tree", .ref (σ.length + 1))]) := get_app hm2
  have hn1 : m ≠ σ.length + 1 := by omega
  have hn2 : m ≠ σ.length + 2 := by omega
  refine ⟨σ.length + 1, σ.length + 2, σ3.set m (IM (σ.length + 1) (σ.length + 2)), call0 rfl rfl (runN (σ' := σ2) (x_setAttr (fs := []) (m := "_DelimiterIndex") (e_bin (e_list (l_cons e_int l_nil)) (e_bin (e_var (by one_place)) e_int rfl) (by rw [hlen1] at e1; exact e1)) (e_var (by one_place)) hm1 ⟨by simp [setField], h0⟩) (runN (x_setAttr (m := "_DelimiterIndex") e2 (e_var (by one_place)) hm3 ⟨by simp [setField], h0⟩) run_done)), ?_, get_set_eq hm3, get_set_ne hn1 (get_app (get_set_ne hn1 g1)), get_set_ne hn2 (by rw [← hl2]; exact get_last), by omega, by omega⟩
  exact ((f1.trans (Fr.set (.inl (by simp)))).trans Fr.app).trans (Fr.set (.inl (by simp)))
/-! the tree of sums -/
def lowb (c : Nat) : Nat := [0, 1, 2, 1, 4, 1, 2, 1, 8, 1, 2, 1, 4, 1, 2, 1, 16, 1, 2, 1, 4].getD c 1
theorem low_ok : ∀ c : Nat, c < 21 → 1 ≤ c → Builtin.bitAnd (c : Int) (-(c : Int)) = (lowb c : Int) ∧ 1 ≤ lowb c ∧ lowb c ≤ c := by decide +kernel
def down : Nat → Nat → List Nat
  | 0, _ => []
  | f + 1, c => if c = 0 then [] else c :: down f (c - lowb c)
def ups (n : Nat) : Nat → Nat → List Nat
  | 0, _ => []
  | f + 1, c => if c < n then c :: ups n f (c + lowb c) else []
def curT (T : List Int) (x : Nat) : Int := (x : Int) - ((down 20 (x + 1)).map (T.getD · 0)).sum
def upd (r : Int) : Nat → List Int → Nat → List Int
  | 0, T, _ => T
  | f + 1, T, c => if c < T.length then upd r f (T.set c (T.getD c 0 + r)) (c + lowb c) else T
theorem upd_len {r : Int} : ∀ {f : Nat} {T : List Int} {c : Nat}, (upd r f T c).length = T.length
  | 0, _, _ => rfl
  | f + 1, T, c => by unfold upd; split; · rw [upd_len]; simp
                      · rfl
theorem upd_get {r : Int} : ∀ {f : Nat} {T : List Int} {c k : Nat}, (upd r f T c).getD k 0 = T.getD k 0 + r * ((ups T.length f c).count k : Nat)
  | 0, T, c, k => by simp [upd, ups]
  | f + 1, T, c, k => by
    unfold upd ups
    split
    · rename_i h
      rw [upd_get, List.length_set, List.count_cons]
      by_cases hk : c = k
      · subst hk
        have : (T.set c (T.getD c 0 + r)).getD c 0 = T.getD c 0 + r := by
          rw [List.getD_eq_getElem?_getD, List.getElem?_set_self h]; rfl
        rw [this]; simp; rw [Int.mul_add]; omega
      · have : (T.set c (T.getD c 0 + r)).getD k 0 = T.getD k 0 := by
          rw [List.getD_eq_getElem?_getD, List.getElem?_set_ne hk, ← List.getD_eq_getElem?_getD]
        rw [this]; simp [hk]
    · simp
theorem tree_ok : ∀ n : Nat, n < 19 → ∀ i : Nat, i < n → ∀ j : Nat, j < n → i + 1 < n → j + 1 < n → ((down 20 (j + 1)).map (fun k => (ups n 20 (i + 1)).count k)).sum = if i ≤ j then 1 else 0 := by decide +kernel
theorem sum_lin {r : Int} {g : Nat → Int} {c : Nat → Nat} : ∀ {l : List Nat}, (l.map (fun k => g k + r * (c k : Nat))).sum = (l.map g).sum + r * ((l.map c).sum : Nat)
  | [] => by simp
  | a :: l => by
    simp only [List.map_cons, List.sum_cons, sum_lin (l := l)]
    rw [Int.natCast_add, Int.mul_add]; omega
theorem cur_upd {T : List Int} {r : Int} {i j : Nat} (hn : T.length < 19) (hi : i + 1 < T.length) (hj : j + 1 < T.length) : curT (upd r 20 T (i + 1)) j = curT T j - if i ≤ j then r else 0 := by
  unfold curT
  have : (fun x => (upd r 20 T (i + 1)).getD x 0) = fun k => T.getD k 0 + r * ((ups T.length 20 (i + 1)).count k : Nat) := funext fun k => upd_get
  rw [this, sum_lin, tree_ok T.length hn i (by omega) j (by omega) hi hj]
  split <;> simp <;> omega
theorem s_current {σ : St} {m t nx a x mk L o : Nat} {len : Int} {co cc : Bool} {T : List Int} (hm : σ[m]? = some (IM t nx)) (ht : σ[t]? = some (.list (T.map .int))) (ha : σ[a]? = some (Dlm x mk len co cc L o)) (hT : T.length < 19) (hx : x + 1 < T.length) :
    callN prog (d + 1) "_DelimiterIndex.current" [.ref m, .ref a] σ = some (.int (curT T x), σ) := by
  let I : Nat → Loc → St → Prop := fun f ℓ σ' => σ' = σ ∧ ∃ (c : Nat) (tot : Int), ℓ "cursor" = some (.int (c : Nat)) ∧ ℓ "total" = some (.int tot) ∧ ℓ "self" = some (.ref m) ∧ ℓ "index" = some (.int (x : Nat)) ∧ c < T.length ∧ c ≤ f ∧ tot + ((down f c).map (T.getD · 0)).sum = ((down 20 (x + 1)).map (T.getD · 0)).sum
  obtain ⟨fl, ℓ', σ', h1, rfl, rfl, h2, h3⟩ := while_inv (c := fun ℓ σ => evalC (callN prog d) (.var "cursor") ℓ σ) (b := fun ℓ σ => execS (callN prog d) (match f_DelimiterIndex_current.body with | .seq _ (.seq _ (.seq _ (.seq (.whileS _ b) _))) => b | s => s) ℓ σ) I
    (fun fl ℓ σ' => fl = .next ∧ σ' = σ ∧ ℓ "total" = some (.int ((down 20 (x + 1)).map (T.getD · 0)).sum) ∧ ℓ "index" = some (.int (x : Nat))) (fun f ℓ σ' hi => by
      obtain ⟨rfl, c, tot, l1, l2, l3, l4, hc, hcf, hs⟩ := hi
      by_cases hc0 : c = 0
      · subst hc0
        left
        refine ⟨σ', c_of (v := .int (0 : Nat)) (by simp) (e_var l1) rfl, rfl, rfl, ?_, l4⟩
        have : down f 0 = [] := by cases f <;> simp [down]
        rw [this, List.map_nil, List.sum_nil, Int.add_zero] at hs
        rw [l2, hs]
      · right
        obtain ⟨k1, k2, k3⟩ := low_ok c (by omega) (by omega)
        have htr : truthy σ' (.int (c : Nat)) = some true := congrArg some (bne_iff_ne.mpr (by omega))
        have hv : (T.map V.int)[c]? = some (.int (T.getD c 0)) := by
          rw [List.getElem?_map, List.getD_eq_getElem?_getD, List.getElem?_eq_getElem hc]; rfl
        have hb : binOp σ' .band (.int (c : Nat)) (.int (-(c : Nat))) = some (.int (lowb c : Nat), σ') := by simp only [binOp, k1]
        have hsub : augOp .sub (.int (c : Nat)) (.int (lowb c : Nat)) = some (.int (c - lowb c : Nat)) := by
          simp only [augOp]; congr 2; omega
        cases f with
        | zero => omega
        | succ f =>
          refine ⟨σ', .next, _, _, c_of (v := .int (c : Nat)) (by simp) (e_var l1) htr, seqN (x_aug (by one_place) (by pv_eval) rfl) (seqN (x_aug (by one_place) (by pv_eval) hsub) x_done), .inl ⟨.inl rfl, f, by omega, rfl, c - lowb c, tot + T.getD c 0, by one_place, by one_place, by one_place, by one_place, by omega, by omega, ?_⟩⟩
          rw [down, if_neg hc0] at hs
          simp only [List.map_cons, List.sum_cons] at hs
          omega) WLIM 20 ((((params ["self", "delimiter"] [.ref m, .ref a]).set "index" (.int (x : Nat))).set "total" (.int 0)).set "cursor" (.int ((x + 1 : Nat) : Int))) σ (by unfold WLIM; omega) ⟨rfl, x + 1, 0, by one_place, by one_place, by one_place, by one_place, hx, by omega, by omega⟩
  have hb : binOp σ' .add (.int (x : Nat)) (.int 1) = some (.int ((x + 1 : Nat) : Int), σ') := rfl
  exact call1 rfl rfl (runN (x_assign (by pv_eval)) (runN (x_assign (by pv_eval)) (runN (x_assign (by pv_eval)) (runN (x_while.trans h1) (runR (run_ret (by pv_eval)))))))
theorem s_collapse {σ : St} {m t nx a x mk L o : Nat} {len r : Int} {co cc : Bool} {T : List Int} (hm : σ[m]? = some (IM t nx)) (ht : σ[t]? = some (.list (T.map .int))) (ha : σ[a]? = some (Dlm x mk len co cc L o)) (hT : T.length < 19) (hr : r ≠ 0) (ht0 : t ≠ 0) :
    ∃ σ', callN prog (d + 1) "_DelimiterIndex.collapse" [.ref m, .ref a, .int r] σ = some (.none, σ') ∧ Fr [t] σ σ' ∧ σ'[t]? = some (.list ((upd r 20 T (x + 1)).map .int)) := by
  have hne : t ≠ m := by rintro rfl; rw [hm] at ht; cases ht
  let I : Nat → Loc → St → Prop := fun f ℓ σ' => ∃ (c : Nat) (T' : List Int), Fr [t] σ σ' ∧ σ'[t]? = some (.list (T'.map .int)) ∧ ℓ "cursor" = some (.int (c : Nat)) ∧ ℓ "self" = some (.ref m) ∧ ℓ "removed" = some (.int r) ∧ T'.length = T.length ∧ 1 ≤ c ∧ T.length ≤ c + f ∧ upd r f T' c = upd r 20 T (x + 1)
  obtain ⟨fl, ℓ', σ', h1, rfl, h2, h3⟩ := while_inv (c := fun ℓ σ => evalC (callN prog d) (.cmp .lt (.var "cursor") (.bcall "len" (.cons (.attr (.var "self") "_tree") .nil))) ℓ σ) (b := fun ℓ σ => execS (callN prog d) (match f_DelimiterIndex_collapse.body with | .seq _ (.seq _ (.seq (.whileS _ b) _)) => b | s => s) ℓ σ) I
    (fun fl ℓ σ' => fl = .next ∧ Fr [t] σ σ' ∧ σ'[t]? = some (.list ((upd r 20 T (x + 1)).map .int))) (fun f ℓ σ' hi => by
      obtain ⟨c, T', fr, g, l1, l2, l3, hl, hc1, hcf, hu⟩ := hi
      have hm' : σ'[m]? = some (IM t nx) := fr.get hm (by simp; exact Ne.symm hne)
      have hlen : builtinF σ' "len" [.ref t] = some (.int T.length, σ') := by rw [len_list g, List.length_map, hl]
      by_cases hc : c < T.length
      · right
        obtain ⟨k1, k2, k3⟩ := low_ok c (by omega) (by omega)
        have hv : (T'.map V.int)[c]? = some (.int (T'.getD c 0)) := by
          rw [List.getElem?_map, List.getD_eq_getElem?_getD, List.getElem?_eq_getElem (by omega)]; rfl
        have hlt : cmpOp σ' .lt (.int (c : Nat)) (.int (T.length : Nat)) = some true := congrArg some (decide_eq_true (by omega))
        have hst : execS (callN prog d) (.augSub (.attr (.var "self") "_tree") (.var "cursor") .add (.var "removed")) ℓ σ' = some (.next, ℓ, σ'.set t (.list ((T'.set c (T'.getD c 0 + r)).map .int))) := by
          have q1 : evalE (callN prog d) (.attr (.var "self") "_tree") ℓ σ' = some (.ref t, σ') := by pv_eval
          have q2 : evalE (callN prog d) (.var "cursor") ℓ σ' = some (.int (c : Nat), σ') := e_var l1
          have q3 : evalE (callN prog d) (.var "removed") ℓ σ' = some (.int r, σ') := e_var l3
          have q4 : itemAt σ' t ((c : Nat) : Int).toNat = some (.int (T'.getD c 0)) := by simp only [itemAt, g, Int.toNat_natCast, hv]
          have q5 := list_of g
          simp only [execS, q1, q2, q3, asRef, asInt, Option.bind_eq_bind, Option.bind_some]
          rw [if_pos (by unfold LIM; omega)]
          simp only [q4, augOp, setItemF, q5, Option.bind_some, Option.bind_eq_bind]
          rw [if_pos ⟨by omega, by rw [List.length_map]; omega, ht0⟩]
          simp only [Option.bind_some, Int.toNat_natCast, List.map_set]
        have hb : ∀ σ'', binOp σ'' .band (.int (c : Nat)) (.int (-(c : Nat))) = some (.int (lowb c : Nat), σ'') := fun σ'' => by simp only [binOp, k1]
        have hb' := hb (σ'.set t (.list ((T'.set c (T'.getD c 0 + r)).map .int)))
        have hadd : augOp .add (.int (c : Nat)) (.int (lowb c : Nat)) = some (.int (c + lowb c : Nat)) := by
          simp only [augOp]; congr 2
        cases f with
        | zero => omega
        | succ f =>
          refine ⟨σ', .next, _, _, c_of (v := .bool true) (by simp) (by pv_eval) rfl, seqN hst (seqN (x_aug (by one_place) (by pv_eval) hadd) x_done), .inl ⟨.inl rfl, f, by omega, c + lowb c, T'.set c (T'.getD c 0 + r), fr.trans (Fr.set (.inl (by simp))), get_set_eq g, by one_place, by one_place, by one_place, by simp [hl], by omega, by omega, ?_⟩⟩
          rw [upd, if_pos (by omega)] at hu
          exact hu
      · left
        have hlt : cmpOp σ' .lt (.int (c : Nat)) (.int (T.length : Nat)) = some false := congrArg some (decide_eq_false (by omega))
        refine ⟨σ', c_of (v := .bool false) (by simp) (by pv_eval) rfl, rfl, fr, ?_⟩
        have : upd r f T' c = T' := by cases f with
          | zero => rfl
          | succ f => rw [upd, if_neg (by omega)]
        rw [← hu, this]; exact g) WLIM 20 ((params ["self", "closer", "removed"] [.ref m, .ref a, .int r]).set "cursor" (.int ((x + 1 : Nat) : Int))) σ (by unfold WLIM; omega) ⟨x + 1, T, Fr.refl, ht, by one_place, by one_place, by one_place, rfl, by omega, by omega, rfl⟩
  have hb : binOp σ .add (.int (x : Nat)) (.int 1) = some (.int ((x + 1 : Nat) : Int), σ) := rfl
  have htr : truthy σ (.int r) = some true := congrArg some (bne_iff_ne.mpr hr)
  exact ⟨σ', call0 rfl rfl (runN (x_ifF (by pv_eval) (by one_sign) x_done) (runN (x_assign (by pv_eval)) (runN (x_while.trans h1) run_done))), h2, h3⟩
end P1
end Mine
end

/-! W11 -/
section
open PySem PySem.W PyProof.Rows
set_option linter.unusedVariables false
set_option linter.unusedSimpArgs false
namespace Mine
local macro_rules | `(tactic| one_place) => `(tactic| first | assumption | (simp only [Loc.set, params_cons, params_nil, String.reduceEq, if_true, if_false, reduceIte]; first | rfl | assumption))
local macro_rules | `(tactic| one_item) => `(tactic| first | assumption | exact get_last | (apply get_app; (one_item)) | (apply get_set_eq; (one_item)) | (apply get_set_ne; (first | assumption | omega); (one_item)))
local macro_rules | `(tactic| leaf_len) => `(tactic| first | assumption | rfl | (focus (simp; done)))
local macro_rules | `(tactic| l_ints) => `(tactic| first | assumption | (apply idx_list; (one_item); rfl; (assumption)) | (apply idx_tuple; (one_item); rfl; (assumption)) | (apply idx_list (k := 0); (one_item); rfl; rfl) | (apply idx_tuple (k := 0); (one_item); rfl; rfl) | (apply idx_tuple (k := 1); (one_item); rfl; rfl) | exact idx_str rfl (by assumption))
local macro_rules | `(tactic| pv_eval) => `(tactic| first
  | exact e_int | exact e_str | exact e_bool | exact e_non | exact e_nil
  | (apply e_var; (one_place))
  | (apply e_attr; (pv_eval); (one_item); (leaf_len))
  | (apply e_dget; (pv_eval); (one_item); (leaf_len))
  | (apply e_dhas; (pv_eval); (one_item); (leaf_len))
  | (apply e_dhasnt; (pv_eval); (one_item); (leaf_len))
  | (apply e_dgetd; (pv_eval); (one_item); (pv_eval); (leaf_len))
  | (apply e_sub; (pv_eval); (pv_eval); (l_ints))
  | (apply e_cmp; (pv_eval); (pv_eval); (leaf_len))
  | (apply e_bin; (pv_eval); (pv_eval); (leaf_len))
  | (apply e_lnot; (pv_eval); (one_sign))
  | (apply e_neg; (pv_eval))
  | (apply e_isNone; (pv_eval))
  | (apply e_ands; (modx_arm))
  | (apply e_ors; (modx_arm))
  | (apply e_iteT; (pv_eval); (one_sign); (pv_eval))
  | (apply e_iteF; (pv_eval); (one_sign); (pv_eval))
  | (apply e_list; (mod_arm))
  | (apply e_tuple; (mod_arm))
  | (apply e_dict; (o_shape))
  | exact e_tdict
  | (apply e_bcall; (mod_arm); (first | assumption | (apply len_list; (one_item)) | rfl))
  | (apply e_call; (mod_arm); (assumption))
  | (apply e_slice; (pv_eval); (pv_eval); (pv_eval); (assumption))
  | (apply e_bmeth; (pv_eval); (first | assumption | (apply mOk_str; (focus (simp; done))) | (apply mOk_list; (one_item); (focus (simp; done)))); (mod_arm); (first | assumption | rfl)))
local macro_rules | `(tactic| modx_arm) => `(tactic| first
  | (apply b_last; (pv_eval))
  | (apply b_go; (pv_eval); (one_sign); (modx_arm))
  | (apply b_stop; (pv_eval); (one_sign)))
local macro_rules | `(tactic| mod_arm) => `(tactic| first | exact l_nil | (apply l_cons; (pv_eval); (mod_arm)))
local macro_rules | `(tactic| o_shape) => `(tactic| first | exact kv_nil | (apply kv_cons; (pv_eval); (o_shape)))
local macro_rules | `(tactic| one_sign) => `(tactic| first | rfl | assumption | exact (truthy_list (by one_item)).trans rfl | (refine congrArg some ?_; first | (apply decide_eq_true; (omega)) | (apply decide_eq_false; (omega)) | assumption | (focus (simp; done)) | (focus (simp; omega)) | (focus (simp [*]; done))))
namespace P1
variable {d : Nat}
theorem nm_find : ("_DelimiterIndex" : String) ++ "." ++ "_find" = "_DelimiterIndex._find" := by decide
theorem nm_current : ("_DelimiterIndex" : String) ++ "." ++ "current" = "_DelimiterIndex.current" := by decide
theorem nm_collapse : ("_DelimiterIndex" : String) ++ "." ++ "collapse" = "_DelimiterIndex.collapse" := by decide
theorem nm_deact : ("_DelimiterIndex" : String) ++ "." ++ "deactivate" = "_DelimiterIndex.deactivate" := by decide
theorem nm_range : ("_DelimiterIndex" : String) ++ "." ++ "deactivate_range" = "_DelimiterIndex.deactivate_range" := by decide
theorem nm_init : ("_DelimiterIndex" : String) ++ ".__init__" = "_DelimiterIndex.__init__" := by decide
abbrev nlist (N : List Nat) : O := .list (N.map fun i => .int (i : Nat))
/-- the next-links: never back, never past the end, and over dead ones alone -/
structure NI (N : List Nat) (nd : Nat) (dead : Nat → Prop) : Prop where
  len : N.length = nd + 1
  ge : ∀ i r : Nat, N[i]? = some r → i ≤ r ∧ r ≤ nd
  over : ∀ i r : Nat, N[i]? = some r → ∀ j, i ≤ j → j < r → dead j
theorem NI.set {N : List Nat} {nd : Nat} {dead : Nat → Prop} (h : NI N nd dead) {a r : Nat} (h1 : a ≤ r) (h2 : r ≤ nd) (h3 : ∀ j, a ≤ j → j < r → dead j) : NI (N.set a r) nd dead := by
  refine ⟨by simp [h.len], fun i r' e => ?_, fun i r' e => ?_⟩
  · by_cases hi : a = i
    · subst hi
      have hl : a < N.length := by have := (List.getElem?_eq_some_iff.mp e).1; simpa using this
      rw [List.getElem?_set_self hl] at e; cases e; exact ⟨h1, h2⟩
    · rw [List.getElem?_set_ne hi] at e; exact h.ge i r' e
  · by_cases hi : a = i
    · subst hi
      have hl : a < N.length := by have := (List.getElem?_eq_some_iff.mp e).1; simpa using this
      rw [List.getElem?_set_self hl] at e; cases e; exact h3
    · rw [List.getElem?_set_ne hi] at e; exact h.over i r' e
theorem NI.mono {N : List Nat} {nd : Nat} {dead dead' : Nat → Prop} (h : NI N nd dead) (hd : ∀ j, dead j → dead' j) : NI N nd dead' := ⟨h.len, h.ge, fun i r e j h1 h2 => hd j (h.over i r e j h1 h2)⟩
inductive Rch (N : List Nat) : Nat → Nat → Prop
  | refl {a} : Rch N a a
  | step {a b c} : N[a]? = some b → a < b → Rch N b c → Rch N a c
theorem Rch.le {N : List Nat} {a b : Nat} (h : Rch N a b) : a ≤ b := by induction h with
  | refl => exact Nat.le_refl _
  | step _ h _ ih => omega
theorem Rch.snoc {N : List Nat} {a b c : Nat} (h : Rch N a b) (e : N[b]? = some c) (hl : b < c) : Rch N a c := by induction h with
  | refl => exact .step e hl .refl
  | step h1 h2 _ ih => exact .step h1 h2 (ih e hl)
theorem s_find {σ : St} {m t nx nd a : Nat} {N : List Nat} {dead : Nat → Prop} (hm : σ[m]? = some (IM t nx)) (hn : σ[nx]? = some (nlist N)) (hN : NI N nd dead) (hnd : nd ≤ 1000) (ha : a ≤ nd) (h0 : nx ≠ 0) :
    ∃ r N' σ', callN prog (d + 1) "_DelimiterIndex._find" [.ref m, .int a] σ = some (.int (r : Nat), σ') ∧ Fr [nx] σ σ' ∧ σ'[nx]? = some (nlist N') ∧ NI N' nd dead ∧ a ≤ r ∧ r ≤ nd ∧ N[r]? = some r ∧ ∀ j, a ≤ j → j < r → dead j := by
  have hne : nx ≠ m := by rintro rfl; rw [hm] at hn; cases hn
  have at_ : ∀ (N : List Nat) (k : Nat), N.length = nd + 1 → k ≤ nd → ∃ r, N[k]? = some r := fun N k h1 h2 => ⟨_, List.getElem?_eq_getElem (by omega)⟩
  have hidx : ∀ {σ : St} {N : List Nat} {k r : Nat}, σ[nx]? = some (nlist N) → N[k]? = some r → index σ (.ref nx) (.int (k : Nat)) = some (.int (r : Nat)) := fun h1 h2 => idx_list h1 rfl (by rw [List.getElem?_map, h2]; rfl)
  -- the root
  obtain ⟨fl, ℓ1, σ1, h1, rfl, rfl, r, lr, lo, ls, hr, hrn, hreach, hdead⟩ := while_inv (c := fun ℓ σ => evalC (callN prog d) (.cmp .ne (.sub (.attr (.var "self") "_next") (.var "root")) (.var "root")) ℓ σ) (b := fun ℓ σ => execS (callN prog d) (.seq (.assign (.one "root") (.sub (.attr (.var "self") "_next") (.var "root"))) .done) ℓ σ)
    (fun f ℓ σ' => σ' = σ ∧ ∃ k, ℓ "root" = some (.int (k : Nat)) ∧ ℓ "order" = some (.int (a : Nat)) ∧ ℓ "self" = some (.ref m) ∧ k ≤ nd ∧ nd ≤ k + f ∧ Rch N a k ∧ ∀ j, a ≤ j → j < k → dead j)
    (fun fl ℓ σ' => fl = .next ∧ σ' = σ ∧ ∃ k, ℓ "root" = some (.int (k : Nat)) ∧ ℓ "order" = some (.int (a : Nat)) ∧ ℓ "self" = some (.ref m) ∧ k ≤ nd ∧ N[k]? = some k ∧ Rch N a k ∧ ∀ j, a ≤ j → j < k → dead j)
    (fun f ℓ σ' hi => by
      obtain ⟨rfl, k, l1, l2, l3, hk, hkf, hre, hde⟩ := hi
      obtain ⟨r, hr⟩ := at_ N k hN.len hk
      have hi := hidx hn hr
      obtain ⟨g1, g2⟩ := hN.ge k r hr
      by_cases he : r = k
      · left
        subst he
        have hc : cmpOp σ' .ne (.int (r : Nat)) (.int (r : Nat)) = some false := by simp [cmpOp]
        exact ⟨σ', c_of (v := .bool false) (by simp) (by pv_eval) rfl, rfl, rfl, r, l1, l2, l3, hk, hr, hre, hde⟩
      · right
        have hc : cmpOp σ' .ne (.int (r : Nat)) (.int (k : Nat)) = some true := by simp [cmpOp]; omega
        refine ⟨σ', .next, _, _, c_of (v := .bool true) (by simp) (by pv_eval) rfl, seqN (x_assign (by pv_eval)) x_done, .inl ⟨.inl rfl, f - 1, by omega, rfl, r, by one_place, by one_place, by one_place, g2, by omega, hre.snoc hr (by omega), fun j h1 h2 => ?_⟩⟩
        by_cases hj : j < k
        · exact hde j h1 hj
        · exact hN.over k r hr j (by omega) h2) WLIM nd ((params ["self", "order"] [.ref m, .int a]).set "root" (.int (a : Nat))) σ (by unfold WLIM; omega) ⟨rfl, a, by one_place, by one_place, by one_place, ha, by omega, .refl, fun j h1 h2 => by omega⟩
  -- the path
  obtain ⟨fl, ℓ2, σ2, h2, rfl, N', fr, hN2, hNI, lr2⟩ := while_inv (c := fun ℓ σ => evalC (callN prog d) (.cmp .ne (.sub (.attr (.var "self") "_next") (.var "order")) (.var "order")) ℓ σ)
    (b := fun ℓ σ => execS (callN prog d) (.seq (.assign (.one "parent") (.sub (.attr (.var "self") "_next") (.var "order"))) (.seq (.setSub (.attr (.var "self") "_next") (.var "order") (.var "root")) (.seq (.assign (.one "order") (.var "parent")) .done))) ℓ σ)
    (fun f ℓ σ' => ∃ k N', ℓ "root" = some (.int (r : Nat)) ∧ ℓ "order" = some (.int (k : Nat)) ∧ ℓ "self" = some (.ref m) ∧ Rch N k r ∧ a ≤ k ∧ r ≤ k + f ∧ Fr [nx] σ1 σ' ∧ σ'[nx]? = some (nlist N') ∧ NI N' nd dead ∧ ∀ j : Nat, k ≤ j → N'[j]? = N[j]?)
    (fun fl ℓ σ' => fl = .next ∧ ∃ N', Fr [nx] σ1 σ' ∧ σ'[nx]? = some (nlist N') ∧ NI N' nd dead ∧ ℓ "root" = some (.int (r : Nat)))
    (fun f ℓ σ' hi => by
      obtain ⟨k, N', l1, l2, l3, hre, hak, hkf, fr, g, hNI, heq⟩ := hi
      have hm' : σ'[m]? = some (IM t nx) := fr.get hm (by simp; exact Ne.symm hne)
      cases hre with
      | refl =>
        left
        have hi := hidx g ((heq r (Nat.le_refl _)).trans hrn)
        have hc : cmpOp σ' .ne (.int (r : Nat)) (.int (r : Nat)) = some false := by simp [cmpOp]
        exact ⟨σ', c_of (v := .bool false) (by simp) (by pv_eval) rfl, rfl, N', fr, g, hNI, l1⟩
      | @step _ b _ hb hlt hre =>
        right
        have hi := hidx g ((heq k (Nat.le_refl _)).trans hb)
        have hbr := hre.le
        have hc : cmpOp σ' .ne (.int (b : Nat)) (.int (k : Nat)) = some true := by simp [cmpOp]; omega
        have hset : setItemF σ' (.ref nx) (.int (k : Nat)) (.int (r : Nat)) = some (σ'.set nx (nlist (N'.set k r))) := by
          have q := list_of g
          simp only [setItemF, q, Option.bind_eq_bind, Option.bind_some]
          rw [if_pos ⟨by omega, by rw [List.length_map, hNI.len]; omega, h0⟩, Int.toNat_natCast]; simp only [nlist, List.map_set]
        refine ⟨σ', .next, _, _, c_of (v := .bool true) (by simp) (by pv_eval) rfl, seqN (x_assign (by pv_eval)) (seqN (x_setSub (by pv_eval) (by pv_eval) (by pv_eval) hset) (seqN (x_assign (by pv_eval)) x_done)), .inl ⟨.inl rfl, f - 1, by omega, b, N'.set k r, by one_place, by one_place, by one_place, hre, by omega, by omega, fr.trans (Fr.set (.inl (by simp))), get_set_eq g, hNI.set (by omega) hr (fun j h1 h2 => hdead j (by omega) h2), fun j hj => ?_⟩⟩
        rw [List.getElem?_set_ne (by omega)]; exact heq j (by omega)) WLIM nd ℓ1 σ1 (by unfold WLIM; omega) ⟨a, N, lr, lo, ls, hreach, Nat.le_refl _, by omega, Fr.refl, hn, hN, fun _ _ => rfl⟩
  exact ⟨r, N', σ2, call1 rfl rfl (runN (x_assign (by pv_eval)) (runN (x_while.trans h1) (runN (x_while.trans h2) (runR (run_ret (e_var lr2)))))), fr, hN2, hNI, hreach.le, hr, hrn, hdead⟩
theorem s_deact {σ : St} {m t nx nd a : Nat} {N : List Nat} {dead : Nat → Prop} (hm : σ[m]? = some (IM t nx)) (hn : σ[nx]? = some (nlist N)) (hN : NI N nd dead) (hnd : nd ≤ 1000) (ha : a < nd) (hd : dead a) (h0 : nx ≠ 0) :
    ∃ N' σ', callN prog (d + 2) "_DelimiterIndex.deactivate" [.ref m, .int a] σ = some (.none, σ') ∧ Fr [nx] σ σ' ∧ σ'[nx]? = some (nlist N') ∧ NI N' nd dead := by
  obtain ⟨r, N1, σ1, c1, f1, g1, n1, a1, a2, a3, a4⟩ := s_find (d := d) hm hn hN hnd (a := a + 1) (by omega) h0
  have hne : nx ≠ m := by rintro rfl; rw [hm] at hn; cases hn
  have hm1 : σ1[m]? = some (IM t nx) := f1.get hm (by simp; exact Ne.symm hne)
  have hset : setItemF σ1 (.ref nx) (.int (a : Nat)) (.int (r : Nat)) = some (σ1.set nx (nlist (N1.set a r))) := by
    have q := list_of g1
    simp only [setItemF, q, Option.bind_eq_bind, Option.bind_some]
    rw [if_pos ⟨by omega, by rw [List.length_map, n1.len]; omega, h0⟩, Int.toNat_natCast]; simp only [nlist, List.map_set]
  have hadd : binOp σ .add (.int (a : Nat)) (.int 1) = some (.int ((a + 1 : Nat) : Int), σ) := rfl
  refine ⟨N1.set a r, _, call0 rfl rfl (runN (x_setSub (e_umeth (e_var (by one_place)) hm rfl (by mod_arm) (by rw [nm_find]; exact c1)) (by pv_eval) (by pv_eval) hset) run_done), f1.trans (Fr.set (.inl (by simp))), get_set_eq g1, n1.set (by omega) a2 fun j h1 h2 => ?_⟩
  by_cases hj : j = a
  · subst hj; exact hd
  · exact a4 j (by omega) h2
end P1
end Mine
end

/-! W12 -/
section
open PySem PySem.W PyProof.Rows
set_option linter.unusedVariables false
set_option linter.unusedSimpArgs false
namespace Mine
local macro_rules | `(tactic| one_place) => `(tactic| first | assumption | (simp only [Loc.set, params_cons, params_nil, String.reduceEq, if_true, if_false, reduceIte]; first | rfl | assumption))
local macro_rules | `(tactic| one_item) => `(tactic| first | assumption | exact get_last | (apply get_app; (one_item)) | (apply get_set_eq; (one_item)) | (apply get_set_ne; (first | assumption | omega); (one_item)))
local macro_rules | `(tactic| leaf_len) => `(tactic| first | assumption | rfl | (focus (simp; done)))
local macro_rules | `(tactic| l_ints) => `(tactic| first | assumption | (apply idx_list; (one_item); rfl; (assumption)) | (apply idx_tuple; (one_item); rfl; (assumption)) | (apply idx_list (k := 0); (one_item); rfl; rfl) | (apply idx_tuple (k := 0); (one_item); rfl; rfl) | (apply idx_tuple (k := 1); (one_item); rfl; rfl) | exact idx_str rfl (by assumption))
local macro_rules | `(tactic| pv_eval) => `(tactic| first
  | exact e_int | exact e_str | exact e_bool | exact e_non | exact e_nil
  | (apply e_var; (one_place))
  | (apply e_attr; (pv_eval); (one_item); (leaf_len))
  | (apply e_dget; (pv_eval); (one_item); (leaf_len))
  | (apply e_dhas; (pv_eval); (one_item); (leaf_len))
  | (apply e_dhasnt; (pv_eval); (one_item); (leaf_len))
  | (apply e_dgetd; (pv_eval); (one_item); (pv_eval); (leaf_len))
  | (apply e_sub; (pv_eval); (pv_eval); (l_ints))
  | (apply e_cmp; (pv_eval); (pv_eval); (leaf_len))
  | (apply e_bin; (pv_eval); (pv_eval); (leaf_len))
  | (apply e_lnot; (pv_eval); (one_sign))
  | (apply e_neg; (pv_eval))
  | (apply e_isNone; (pv_eval))
  | (apply e_ands; (modx_arm))
  | (apply e_ors; (modx_arm))
  | (apply e_iteT; (pv_eval); (one_sign); (pv_eval))
  | (apply e_iteF; (pv_eval); (one_sign); (pv_eval))
  | (apply e_list; (mod_arm))
  | (apply e_tuple; (mod_arm))
  | (apply e_dict; (o_shape))
  | exact e_tdict
  | (apply e_bcall; (mod_arm); (first | assumption | (apply len_list; (one_item)) | rfl))
  | (apply e_call; (mod_arm); (assumption))
  | (apply e_slice; (pv_eval); (pv_eval); (pv_eval); (assumption))
  | (apply e_bmeth; (pv_eval); (first | assumption | (apply mOk_str; (focus (simp; done))) | (apply mOk_list; (one_item); (focus (simp; done)))); (mod_arm); (first | assumption | rfl)))
local macro_rules | `(tactic| modx_arm) => `(tactic| first
  | (apply b_last; (pv_eval))
  | (apply b_go; (pv_eval); (one_sign); (modx_arm))
  | (apply b_stop; (pv_eval); (one_sign)))
local macro_rules | `(tactic| mod_arm) => `(tactic| first | exact l_nil | (apply l_cons; (pv_eval); (mod_arm)))
local macro_rules | `(tactic| o_shape) => `(tactic| first | exact kv_nil | (apply kv_cons; (pv_eval); (o_shape)))
local macro_rules | `(tactic| one_sign) => `(tactic| first | rfl | assumption | exact (truthy_list (by one_item)).trans rfl | (refine congrArg some ?_; first | (apply decide_eq_true; (omega)) | (apply decide_eq_false; (omega)) | assumption | (focus (simp; done)) | (focus (simp; omega)) | (focus (simp [*]; done))))
namespace P1
variable {d : Nat}
/-- the table of delimiters, as it stands -/
structure DT (ds : List Nat) (dis : List DI) (len : Nat → Int) (co cc : Nat → Bool) (σ : St) : Prop where
  n : ds.length = dis.length
  ob : ∀ (j : Nat) (D : DI), dis[j]? = some D → ∃ a, ds[j]? = some a ∧ σ[a]? = some (Dlm D.x D.m (len j) (co j) (cc j) D.L j)
def put {α : Type} (f : Nat → α) (j : Nat) (v : α) : Nat → α := fun k => if k = j then v else f k
theorem put_same {α : Type} {f : Nat → α} {j : Nat} {v : α} : put f j v j = v := by simp [put]
theorem put_ne {α : Type} {f : Nat → α} {j k : Nat} {v : α} (h : k ≠ j) : put f j v k = f k := by simp [put, h]
theorem put_self {α : Type} {f : Nat → α} {j : Nat} : put f j (f j) = f := funext fun k => by unfold put; split <;> simp_all
section
variable {ds : List Nat} {dis : List DI} {len : Nat → Int} {co cc : Nat → Bool} {σ σ' : St}
theorem DT.fr {X : List Nat} (h : DT ds dis len co cc σ) (f : Fr X σ σ') (hx : ∀ a ∈ ds, a ∉ X) : DT ds dis len co cc σ' :=
  ⟨h.n, fun j D e => let ⟨a, h1, h2⟩ := h.ob j D e; ⟨a, h1, f.get h2 (hx a (List.mem_of_getElem? h1))⟩⟩
theorem DT.at (h : DT ds dis len co cc σ) {j : Nat} {a : Nat} (ha : ds[j]? = some a) : ∃ D, dis[j]? = some D ∧ σ[a]? = some (Dlm D.x D.m (len j) (co j) (cc j) D.L j) := by
  have hl : j < dis.length := by rw [← h.n]; exact (List.getElem?_eq_some_iff.mp ha).1
  obtain ⟨a', h1, h2⟩ := h.ob j _ (List.getElem?_eq_getElem hl)
  rw [ha] at h1; cases h1
  exact ⟨_, List.getElem?_eq_getElem hl, h2⟩
theorem nodup_at {l : List Nat} (h : l.Nodup) {i j a : Nat} (h1 : l[i]? = some a) (h2 : l[j]? = some a) : i = j := by
  exact (List.getElem?_inj (List.getElem?_eq_some_iff.mp h1).1 h).mp (h1.trans h2.symm)
theorem DT.upd (h : DT ds dis len co cc σ) (hnd : ds.Nodup) {j a : Nat} {D : DI} (hj : dis[j]? = some D) (ha : ds[j]? = some a) (l : Int) (b c : Bool) :
    DT ds dis (put len j l) (put co j b) (put cc j c) (σ.set a (Dlm D.x D.m l b c D.L j)) := by
  obtain ⟨D', hD', g⟩ := h.at ha
  rw [hj] at hD'; cases hD'
  refine ⟨h.n, fun k D' e => ?_⟩
  obtain ⟨a', h1, h2⟩ := h.ob k D' e
  refine ⟨a', h1, ?_⟩
  by_cases hk : k = j
  · subst hk
    rw [hj] at e; cases e
    rw [ha] at h1; cases h1
    rw [put_same, put_same, put_same]
    exact get_set_eq g
  · rw [put_ne hk, put_ne hk, put_ne hk]
    exact get_set_ne (by rintro rfl; exact hk (nodup_at hnd h1 ha)) h2
end
theorem s_range {σ : St} {m t nx q s e nd : Nat} {N ds : List Nat} {dis : List DI} {len : Nat → Int} {co cc : Nat → Bool} (hm : σ[m]? = some (IM t nx)) (hn : σ[nx]? = some (nlist N)) (hN : NI N nd (fun j => len j = 0)) (hq : σ[q]? = some (.list (ds.map .ref)))
    (hD : DT ds dis len co cc σ) (hndd : nd = dis.length) (hnd : nd ≤ 500) (hs : s ≤ nd) (he : e ≤ nd) (h0 : nx ≠ 0) (hd0 : ∀ a ∈ ds, a ≠ 0) (hdn : ds.Nodup) (hqn : q ≠ nx) :
    ∃ N' len' σ', callN prog (d + 2) "_DelimiterIndex.deactivate_range" [.ref m, .ref q, .int s, .int e] σ = some (.none, σ') ∧ Fr (nx :: ds) σ σ' ∧ σ'[nx]? = some (nlist N') ∧ NI N' nd (fun j => len' j = 0) ∧ DT ds dis len' co cc σ' ∧
      (∀ j, s ≤ j → j < e → len' j = 0) ∧ ∀ j, ¬ (s ≤ j ∧ j < e) → len' j = len j := by
  have hne : nx ≠ m := by rintro rfl; rw [hm] at hn; cases hn
  have dsm : ∀ a ∈ ds, a ≠ m ∧ a ≠ nx ∧ a ≠ q := fun a ha => by
    obtain ⟨k, hk⟩ := List.getElem?_of_mem ha
    obtain ⟨D, _, g⟩ := hD.at hk
    refine ⟨?_, ?_, ?_⟩ <;> rintro rfl
    · rw [hm] at g; simp at g
    · rw [hn] at g; cases g
    · rw [hq] at g; cases g
  have keep : ∀ {σ'}, Fr (nx :: ds) σ σ' → σ'[m]? = some (IM t nx) ∧ σ'[q]? = some (.list (ds.map .ref)) := fun f =>
    ⟨f.get hm (by simp only [List.mem_cons, not_or]; exact ⟨Ne.symm hne, fun q => (dsm _ q).1 rfl⟩), f.get hq (by simp only [List.mem_cons, not_or]; exact ⟨hqn, fun q => (dsm _ q).2.2 rfl⟩)⟩
  have dsnx : ∀ a ∈ ds, a ∉ [nx] := fun a ha => by simp; exact (dsm a ha).2.1
  have sub : ∀ {σ1 σ2}, Fr [nx] σ1 σ2 → Fr (nx :: ds) σ1 σ2 := fun f => f.mono (by simp)
  obtain ⟨r0, N0, σ0, c0, f0, g0, n0, a1, a2, a3, a4⟩ := s_find (d := d) hm hn hN (by omega) hs h0
  obtain ⟨fl, ℓ', σ', h1, rfl, k, N', len', fr, hn', hNI', hDT', hz, hout, hek⟩ := while_inv (c := fun ℓ σ => evalC (callN prog (d + 1)) (.cmp .lt (.var "order") (.var "end")) ℓ σ)
    (b := fun ℓ σ => execS (callN prog (d + 1)) (.seq (.setAttr (.sub (.var "delimiters") (.var "order")) "length" (.int 0)) (.seq (.setSub (.attr (.var "self") "_next") (.var "order") (.umeth (.var "self") "_find" (.cons (.bin .add (.var "order") (.int 1)) .nil))) (.seq (.assign (.one "order") (.umeth (.var "self") "_find" (.cons (.var "order") .nil))) .done))) ℓ σ)
    (fun f ℓ σ' => ∃ k N' len', ℓ "order" = some (.int (k : Nat)) ∧ ℓ "end" = some (.int (e : Nat)) ∧ ℓ "self" = some (.ref m) ∧ ℓ "delimiters" = some (.ref q) ∧ Fr (nx :: ds) σ σ' ∧ σ'[nx]? = some (nlist N') ∧ NI N' nd (fun j => len' j = 0) ∧ DT ds dis len' co cc σ' ∧
      (∀ j, s ≤ j → j < k → len' j = 0) ∧ (∀ j, ¬ (s ≤ j ∧ j < e) → len' j = len j) ∧ s ≤ k ∧ k ≤ nd ∧ e ≤ k + f)
    (fun fl ℓ σ' => fl = .next ∧ ∃ k N' len', Fr (nx :: ds) σ σ' ∧ σ'[nx]? = some (nlist N') ∧ NI N' nd (fun j => len' j = 0) ∧ DT ds dis len' co cc σ' ∧ (∀ j, s ≤ j → j < k → len' j = 0) ∧ (∀ j, ¬ (s ≤ j ∧ j < e) → len' j = len j) ∧ e ≤ k)
    (fun f ℓ σ' hi => by
      obtain ⟨k, N', len', l1, l2, l3, l4, fr, hn', hNI', hDT', hz, hout, hsk, hkn, hef⟩ := hi
      by_cases hke : k < e
      · right
        have hlt : cmpOp σ' .lt (.int (k : Nat)) (.int (e : Nat)) = some true := congrArg some (decide_eq_true (by omega))
        obtain ⟨hm', hq'⟩ := keep fr
        obtain ⟨a, ha⟩ : ∃ a, ds[k]? = some a := ⟨_, List.getElem?_eq_getElem (by rw [hD.n]; omega)⟩
        obtain ⟨D, hDk, ga⟩ := hDT'.at ha
        have ham := List.mem_of_getElem? ha
        obtain ⟨am, anx, aq⟩ := dsm a ham
        have hdv : (ds.map V.ref)[k]? = some (.ref a) := by simp [ha]
        have e1 : O.inst "_Delimiter" (setField [("index", V.int (D.x : Nat)), ("marker", .str [D.m]), ("length", .int (len' k)), ("can_open", .bool (co k)), ("can_close", .bool (cc k)), ("orig_length", .int (D.L : Nat)), ("order", .int (k : Nat))] "length" (.int 0)) = Dlm D.x D.m 0 (co k) (cc k) D.L k := by
          simp only [setField, String.reduceBEq, Bool.false_eq_true, if_false, if_true]
        have hst1 : execS (callN prog (d + 1)) (.setAttr (.sub (.var "delimiters") (.var "order")) "length" (.int 0)) ℓ σ' = some (.next, ℓ, σ'.set a (Dlm D.x D.m 0 (co k) (cc k) D.L k)) := by
          rw [← e1]
          exact x_setAttr e_int (by pv_eval) ga ⟨by simp [setField], hd0 a ham⟩
        have D1 := hDT'.upd hdn hDk ha 0 (co k) (cc k)
        rw [put_self, put_self] at D1
        have f1 : Fr (nx :: ds) σ (σ'.set a (Dlm D.x D.m 0 (co k) (cc k) D.L k)) := fr.trans (Fr.set (.inl (by simp [ham])))
        obtain ⟨hm1, hq1⟩ := keep f1
        have hn1 : (σ'.set a (Dlm D.x D.m 0 (co k) (cc k) D.L k))[nx]? = some (nlist N') := get_set_ne anx hn'
        have N1 : NI N' nd (fun j => put len' k 0 j = 0) := hNI'.mono fun j hj => by
          by_cases hjk : j = k
          · subst hjk; exact put_same
          · rw [put_ne hjk]; exact hj
        generalize hσ1 : σ'.set a (Dlm D.x D.m 0 (co k) (cc k) D.L k) = σ1 at *
        obtain ⟨r1, N2, σ2, c2, f2, g2, n2, b1, b2, b3, b4⟩ := s_find (d := d) hm1 hn1 N1 (by omega) (a := k + 1) (by omega) h0
        obtain ⟨hm2, hq2⟩ := keep (f1.trans (sub f2))
        have hset : setItemF σ2 (.ref nx) (.int (k : Nat)) (.int (r1 : Nat)) = some (σ2.set nx (nlist (N2.set k r1))) := by
          have q := list_of g2
          simp only [setItemF, q, Option.bind_eq_bind, Option.bind_some]
          rw [if_pos ⟨by omega, by rw [List.length_map, n2.len]; omega, h0⟩, Int.toNat_natCast]; simp only [nlist, List.map_set]
        have hadd : binOp σ1 .add (.int (k : Nat)) (.int 1) = some (.int ((k + 1 : Nat) : Int), σ1) := rfl
        have f3 : Fr [nx] σ1 (σ2.set nx (nlist (N2.set k r1))) := f2.trans (Fr.set (.inl (by simp)))
        obtain ⟨hm3, hq3⟩ := keep (f1.trans (sub f3))
        have N3 : NI (N2.set k r1) nd (fun j => put len' k 0 j = 0) := n2.set (by omega) b2 fun j j1 j2 => by
          by_cases hjk : j = k
          · subst hjk; exact put_same
          · exact b4 j (by omega) j2
        obtain ⟨r2, N4, σ4, c4, f4, g4, n4, d1, d2, d3, d4⟩ := s_find (d := d) hm3 (get_set_eq g2) N3 (by omega) (a := k) hkn h0
        have hr2 : r2 ≠ k := by
          rintro rfl
          rw [List.getElem?_set_self (by rw [n2.len]; omega)] at d3
          cases d3; omega
        refine ⟨σ', .next, _, _, c_of (v := .bool true) (by simp) (by pv_eval) rfl, seqN hst1 (seqN (x_setSub (e_umeth (e_var (by one_place)) hm1 rfl (by mod_arm) (by rw [nm_find]; exact c2)) (by pv_eval) (by pv_eval) hset) (seqN (x_assign (e_umeth (e_var (by one_place)) hm3 rfl (by mod_arm) (by rw [nm_find]; exact c4))) x_done)),
          .inl ⟨.inl rfl, f - 1, by omega, r2, N4, put len' k 0, by one_place, by one_place, by one_place, by one_place, f1.trans ((sub f3).trans (sub f4)), g4, n4, (D1.fr f3 dsnx).fr f4 dsnx, fun j j1 j2 => ?_, fun j hj => ?_, by omega, d2, by omega⟩⟩
        · by_cases hjk : j < k
          · rw [put_ne (by omega)]; exact hz j j1 hjk
          · exact d4 j (by omega) j2
        · rw [put_ne (by omega)]; exact hout j hj
      · left
        have hlt : cmpOp σ' .lt (.int (k : Nat)) (.int (e : Nat)) = some false := congrArg some (decide_eq_false (by omega))
        exact ⟨σ', c_of (v := .bool false) (by simp) (by pv_eval) rfl, rfl, k, N', len', fr, hn', hNI', hDT', hz, hout, by omega⟩) WLIM e ((params ["self", "delimiters", "start", "end"] [.ref m, .ref q, .int s, .int e]).set "order" (.int (r0 : Nat))) σ0 (by unfold WLIM; omega)
        ⟨r0, N0, len, by one_place, by one_place, by one_place, by one_place, sub f0, g0, n0, hD.fr f0 dsnx, a4, fun j _ => rfl, a1, a2, by omega⟩
  exact ⟨N', len', σ', call0 rfl rfl (runN (x_assign (e_umeth (e_var (by one_place)) hm rfl (by mod_arm) (by rw [nm_find]; exact c0))) (runN (x_while.trans h1) run_done)), fr, hn', hNI', hDT', fun j j1 j2 => hz j j1 (by omega), hout⟩
/-- the delimiter j can be found by a closer of the sign mk -/
def vis (dis : List DI) (len : Nat → Int) (co : Nat → Bool) (mk j : Nat) : Prop := ∃ D, dis[j]? = some D ∧ D.m = mk ∧ co j = true ∧ 0 < len j
theorem s_opener {σ : St} {q i ci b : Nat} {ds : List Nat} {dis : List DI} {len : Nat → Int} {co cc : Nat → Bool} {Di : DI} (hq : σ[q]? = some (.list (ds.map .ref))) (hD : DT ds dis len co cc σ) (hi : dis[i]? = some Di) (hci : ds[i]? = some ci)
    (hL : ∀ D ∈ dis, D.m = Di.m → D.L = Di.L) (hL2 : Di.L = 1 ∨ Di.L = 2) (hb : b ≤ i) (hdl : dis.length ≤ 500) :
    (callN prog (d + 2) "_find_emphasis_opener" [.ref q, .int i, .ref ci, .int b] σ = some (.none, σ) ∧ ∀ j, b ≤ j → j < i → ¬ vis dis len co Di.m j) ∨
    ∃ j a, b ≤ j ∧ j < i ∧ ds[j]? = some a ∧ vis dis len co Di.m j ∧ (∀ k, j < k → k < i → ¬ vis dis len co Di.m k) ∧ callN prog (d + 2) "_find_emphasis_opener" [.ref q, .int i, .ref ci, .int b] σ = some (.ref σ.length, σ ++ [.tuple [.int (j : Nat), .ref a]]) := by
  have hil : i < dis.length := (List.getElem?_eq_some_iff.mp hi).1
  obtain ⟨Di', hDi', gi⟩ := hD.at hci
  rw [hi] at hDi'; cases hDi'
  obtain ⟨fl, ℓ', σ', h1, h2⟩ := while_inv (c := fun ℓ σ => evalC (callN prog (d + 1)) (.cmp .ge (.var "opener_pos") (.var "opener_bottom")) ℓ σ)
    (b := fun ℓ σ => execS (callN prog (d + 1)) (match f_find_emphasis_opener.body with | .seq _ (.seq (.whileS _ b) _) => b | s => s) ℓ σ)
    (fun f ℓ σ' => σ' = σ ∧ ∃ k : Nat, ℓ "opener_pos" = some (.int ((k : Int) - 1)) ∧ ℓ "opener_bottom" = some (.int (b : Nat)) ∧ ℓ "delimiters" = some (.ref q) ∧ ℓ "closer" = some (.ref ci) ∧ b ≤ k ∧ k ≤ i ∧ k ≤ b + f ∧ ∀ j, k ≤ j → j < i → ¬ vis dis len co Di.m j)
    (fun fl ℓ σ' => (fl = .next ∧ σ' = σ ∧ ∀ j, b ≤ j → j < i → ¬ vis dis len co Di.m j) ∨ ∃ j a, b ≤ j ∧ j < i ∧ ds[j]? = some a ∧ vis dis len co Di.m j ∧ (∀ k, j < k → k < i → ¬ vis dis len co Di.m k) ∧ fl = .ret (.ref σ.length) ∧ σ' = σ ++ [.tuple [.int (j : Nat), .ref a]])
    (fun f ℓ σ' hi' => by
      obtain ⟨rfl, k, l1, l2, l3, l4, hbk, hki, hkf, hno⟩ := hi'
      by_cases hk : b < k
      · right
        have hge : cmpOp σ' .ge (.int ((k : Int) - 1)) (.int (b : Nat)) = some true := congrArg some (decide_eq_true (by omega))
        have hcond : evalC (callN prog (d + 1)) (.cmp .ge (.var "opener_pos") (.var "opener_bottom")) ℓ σ' = some (true, σ') := c_of (v := .bool true) (by simp) (by pv_eval) rfl
        obtain ⟨a, ha⟩ : ∃ a, ds[k - 1]? = some a := ⟨_, List.getElem?_eq_getElem (by rw [hD.n]; omega)⟩
        obtain ⟨D, hDk, ga⟩ := hD.at ha
        have hix : index σ' (.ref q) (.int ((k : Int) - 1)) = some (.ref a) := idx_list hq (k := k - 1) (by omega) (by simp [ha])
        have hsub : augOp .sub (.int ((k : Int) - 1)) (.int 1) = some (.int (((k - 1 : Nat) : Int) - 1)) := by simp only [augOp]; congr 2; omega
        have next : ∀ {v : V}, ¬ vis dis len co Di.m (k - 1) → evalE (callN prog (d + 1)) (.ands (.cons (.cmp .eq (.attr (.var "opener") "marker") (.attr (.var "closer") "marker")) (.cons (.attr (.var "opener") "can_open") (.cons (.cmp .gt (.attr (.var "opener") "length") (.int 0)) (.cons (.call "_can_match_emphasis_delimiters" (.cons (.var "opener") (.cons (.var "closer") .nil))) .nil))))) (ℓ.set "opener" (.ref a)) σ' = some (v, σ') → truthy σ' v = some false →
            ∃ σ1 fl ℓ' σ'', evalC (callN prog (d + 1)) (.cmp .ge (.var "opener_pos") (.var "opener_bottom")) ℓ σ' = some (true, σ1) ∧ execS (callN prog (d + 1)) (match f_find_emphasis_opener.body with | .seq _ (.seq (.whileS _ b) _) => b | s => s) ℓ σ1 = some (fl, ℓ', σ'') ∧ (((fl = .next ∨ fl = .cont) ∧ ∃ m', m' < f ∧ (σ'' = σ' ∧ ∃ k : Nat, ℓ' "opener_pos" = some (.int ((k : Int) - 1)) ∧ ℓ' "opener_bottom" = some (.int (b : Nat)) ∧ ℓ' "delimiters" = some (.ref q) ∧ ℓ' "closer" = some (.ref ci) ∧ b ≤ k ∧ k ≤ i ∧ k ≤ b + m' ∧ ∀ j, k ≤ j → j < i → ¬ vis dis len co Di.m j)) ∨ ∃ v, fl = .ret v ∧ ((Fl.ret v = .next ∧ σ'' = σ' ∧ ∀ j, b ≤ j → j < i → ¬ vis dis len co Di.m j) ∨ ∃ j a, b ≤ j ∧ j < i ∧ ds[j]? = some a ∧ vis dis len co Di.m j ∧ (∀ k, j < k → k < i → ¬ vis dis len co Di.m k) ∧ Fl.ret v = .ret (.ref σ'.length) ∧ σ'' = σ' ++ [.tuple [.int (j : Nat), .ref a]])) := by
          intro v hv h1 h2
          refine ⟨σ', .next, _, _, hcond, seqN (x_assign (by pv_eval)) (seqN (x_ifF h1 h2 x_done) (seqN (x_aug (by one_place) (by pv_eval) hsub) x_done)), .inl ⟨.inl rfl, f - 1, by omega, rfl, k - 1, by one_place, by one_place, by one_place, by one_place, by omega, by omega, by omega, fun j j1 j2 => ?_⟩⟩
          by_cases hj : j = k - 1
          · rw [hj]; exact hv
          · exact hno j (by omega) j2
        by_cases h1 : D.m = Di.m
        · have hm : cmpOp σ' .eq (.str [D.m]) (.str [Di.m]) = some true := by show some ([D.m] == [Di.m]) = _; rw [h1]; simp
          cases h2 : co (k - 1) with
          | false =>
            rw [h2] at ga
            exact next (v := .bool false) (fun ⟨D', e1, _, e3, _⟩ => by rw [h2] at e3; cases e3) (by pv_eval) rfl
          | true =>
            rw [h2] at ga
            by_cases h3 : 0 < len (k - 1)
            · have hgt : cmpOp σ' .gt (.int (len (k - 1))) (.int 0) = some true := congrArg some (decide_eq_true h3)
              have hLL : D.L = Di.L := hL D (List.mem_of_getElem? hDk) h1
              rw [hLL] at ga
              have hcm := s_can_match (d := d) ga gi rfl rfl rfl rfl (by omega)
              have hv : vis dis len co Di.m (k - 1) := ⟨D, hDk, h1, h2, h3⟩
              have hki : (((k : Int)) - 1) = ((k - 1 : Nat) : Int) := by omega
              refine ⟨σ', .ret (.ref σ'.length), _, _, hcond, seqN (x_assign (by pv_eval)) (seqR (x_ifT (v := .bool true) (by pv_eval) rfl (seqR (x_ret (e_tuple (l_cons (e_var (by one_place)) (l_cons (e_var (by one_place)) l_nil))))))), .inr ⟨_, rfl, .inr ⟨k - 1, a, by omega, by omega, ha, hv, fun j j1 j2 => hno j (by omega) j2, rfl, by rw [hki]⟩⟩⟩
            · have hgt : cmpOp σ' .gt (.int (len (k - 1))) (.int 0) = some false := congrArg some (decide_eq_false h3)
              exact next (v := .bool false) (fun ⟨D', e1, _, e3, e4⟩ => h3 e4) (by pv_eval) rfl
        · have hm : cmpOp σ' .eq (.str [D.m]) (.str [Di.m]) = some false := by show some ([D.m] == [Di.m]) = _; simp [h1]
          exact next (v := .bool false) (fun ⟨D', e1, e2, e3, e4⟩ => by rw [hDk] at e1; cases e1; exact h1 e2) (by pv_eval) rfl
      · left
        have hge : cmpOp σ' .ge (.int ((k : Int) - 1)) (.int (b : Nat)) = some false := congrArg some (decide_eq_false (by omega))
        exact ⟨σ', c_of (v := .bool false) (by simp) (by pv_eval) rfl, .inl ⟨rfl, rfl, fun j j1 j2 => hno j (by omega) j2⟩⟩) WLIM i ((params ["delimiters", "closer_pos", "closer", "opener_bottom"] [.ref q, .int i, .ref ci, .int b]).set "opener_pos" (.int ((i : Int) - 1))) σ (by unfold WLIM; omega)
        ⟨rfl, i, by one_place, by one_place, by one_place, by one_place, hb, Nat.le_refl _, by omega, fun j j1 j2 => by omega⟩
  rcases h2 with ⟨rfl, rfl, h2⟩ | ⟨j, a, j1, j2, j3, j4, j5, rfl, rfl⟩
  · exact .inl ⟨call1 rfl rfl (runN (x_assign (by pv_eval)) (runN (x_while.trans h1) (runR (run_ret (by pv_eval))))), h2⟩
  · exact .inr ⟨j, a, j1, j2, j3, j4, j5, call1 rfl rfl (runN (x_assign (by pv_eval)) (runR (run_of (x_while.trans h1))))⟩
end P1
end Mine
end

/-! W13 -/
section
open PySem PySem.W PyProof.Rows
set_option linter.unusedVariables false
set_option linter.unusedSimpArgs false
namespace Mine
local macro_rules | `(tactic| one_place) => `(tactic| first | assumption | (simp only [Loc.set, params_cons, params_nil, String.reduceEq, if_true, if_false, reduceIte]; first | rfl | assumption))
local macro_rules | `(tactic| one_item) => `(tactic| first | assumption | exact get_last | (apply get_app; (one_item)) | (apply get_set_eq; (one_item)) | (apply get_set_ne; (first | assumption | omega); (one_item)))
local macro_rules | `(tactic| leaf_len) => `(tactic| first | assumption | rfl | (focus (simp; done)))
local macro_rules | `(tactic| l_ints) => `(tactic| first | assumption | (apply idx_list; (one_item); rfl; (assumption)) | (apply idx_tuple; (one_item); rfl; (assumption)) | (apply idx_list (k := 0); (one_item); rfl; rfl) | (apply idx_tuple (k := 0); (one_item); rfl; rfl) | (apply idx_tuple (k := 1); (one_item); rfl; rfl) | exact idx_str rfl (by assumption))
local macro_rules | `(tactic| pv_eval) => `(tactic| first
  | exact e_int | exact e_str | exact e_bool | exact e_non | exact e_nil
  | (apply e_var; (one_place))
  | (apply e_attr; (pv_eval); (one_item); (leaf_len))
  | (apply e_dget; (pv_eval); (one_item); (leaf_len))
  | (apply e_dhas; (pv_eval); (one_item); (leaf_len))
  | (apply e_dhasnt; (pv_eval); (one_item); (leaf_len))
  | (apply e_dgetd; (pv_eval); (one_item); (pv_eval); (leaf_len))
  | (apply e_sub; (pv_eval); (pv_eval); (l_ints))
  | (apply e_cmp; (pv_eval); (pv_eval); (leaf_len))
  | (apply e_bin; (pv_eval); (pv_eval); (leaf_len))
  | (apply e_lnot; (pv_eval); (one_sign))
  | (apply e_neg; (pv_eval))
  | (apply e_isNone; (pv_eval))
  | (apply e_ands; (modx_arm))
  | (apply e_ors; (modx_arm))
  | (apply e_iteT; (pv_eval); (one_sign); (pv_eval))
  | (apply e_iteF; (pv_eval); (one_sign); (pv_eval))
  | (apply e_list; (mod_arm))
  | (apply e_tuple; (mod_arm))
  | (apply e_dict; (o_shape))
  | exact e_tdict
  | (apply e_bcall; (mod_arm); (first | assumption | (apply len_list; (one_item)) | rfl))
  | (apply e_call; (mod_arm); (assumption))
  | (apply e_slice; (pv_eval); (pv_eval); (pv_eval); (assumption))
  | (apply e_bmeth; (pv_eval); (first | assumption | (apply mOk_str; (focus (simp; done))) | (apply mOk_list; (one_item); (focus (simp; done)))); (mod_arm); (first | assumption | rfl)))
local macro_rules | `(tactic| modx_arm) => `(tactic| first
  | (apply b_last; (pv_eval))
  | (apply b_go; (pv_eval); (one_sign); (modx_arm))
  | (apply b_stop; (pv_eval); (one_sign)))
local macro_rules | `(tactic| mod_arm) => `(tactic| first | exact l_nil | (apply l_cons; (pv_eval); (mod_arm)))
local macro_rules | `(tactic| o_shape) => `(tactic| first | exact kv_nil | (apply kv_cons; (pv_eval); (o_shape)))
local macro_rules | `(tactic| one_sign) => `(tactic| first | rfl | assumption | exact (truthy_list (by one_item)).trans rfl | (refine congrArg some ?_; first | (apply decide_eq_true; (omega)) | (apply decide_eq_false; (omega)) | assumption | (focus (simp; done)) | (focus (simp; omega)) | (focus (simp [*]; done))))
namespace P1
variable {d : Nat}
section
variable {cf : CallF} {ℓ : Loc} {σ : St} {e : E} {x : String} {a : Nat}
theorem dset_raw {r s : List Nat} (hv : evalE cf e ℓ σ = some (.str s, σ)) (ho : ℓ x = some (.ref a)) (hg : σ[a]? = some (dText r)) (h0 : a ≠ 0) : execS cf (.dset (.var x) "raw" e) ℓ σ = some (.next, ℓ, σ.set a (dText s)) := by
  have q : O.dict (setField [("type", V.str T_text), ("raw", .str r)] "raw" (.str s)) = dText s := by simp only [setField, String.reduceBEq, Bool.false_eq_true, if_false, if_true]
  rw [← q]
  exact x_dset hv (e_var ho) hg ⟨by simp [setField], h0⟩
variable {ix m L o : Nat} {len : Int} {co cc : Bool}
theorem sub_len {L' : Nat} (ho : ℓ x = some (.ref a)) (hu : ℓ "use_length" = some (.int (L' : Nat))) (hg : σ[a]? = some (Dlm ix m len co cc L o)) (h0 : a ≠ 0) (hz : len = L') : execS cf (.augAttr (.var x) "length" .sub (.var "use_length")) ℓ σ = some (.next, ℓ, σ.set a (Dlm ix m 0 co cc L o)) := by
  have q : O.inst "_Delimiter" (setField [("index", V.int (ix : Nat)), ("marker", .str [m]), ("length", .int len), ("can_open", .bool co), ("can_close", .bool cc), ("orig_length", .int (L : Nat)), ("order", .int (o : Nat))] "length" (.int 0)) = Dlm ix m 0 co cc L o := by
    simp only [setField, String.reduceBEq, Bool.false_eq_true, if_false, if_true]
  rw [← q]
  have hz' : augOp .sub (.int len) (.int (L' : Nat)) = some (.int 0) := by simp only [augOp]; congr 2; omega
  exact x_augAttr (e_var ho) hg rfl (e_var hu) hz' ⟨by simp [setField], h0⟩
theorem set_co (ho : ℓ x = some (.ref a)) (hg : σ[a]? = some (Dlm ix m len co cc L o)) (h0 : a ≠ 0) : execS cf (.setAttr (.var x) "can_open" (.bool false)) ℓ σ = some (.next, ℓ, σ.set a (Dlm ix m len false cc L o)) := by
  have q : O.inst "_Delimiter" (setField [("index", V.int (ix : Nat)), ("marker", .str [m]), ("length", .int len), ("can_open", .bool co), ("can_close", .bool cc), ("orig_length", .int (L : Nat)), ("order", .int (o : Nat))] "can_open" (.bool false)) = Dlm ix m len false cc L o := by
    simp only [setField, String.reduceBEq, Bool.false_eq_true, if_false, if_true]
  rw [← q]
  exact x_setAttr e_bool (e_var ho) hg ⟨by simp [setField], h0⟩
theorem set_cc (ho : ℓ x = some (.ref a)) (hg : σ[a]? = some (Dlm ix m len co cc L o)) (h0 : a ≠ 0) : execS cf (.setAttr (.var x) "can_close" (.bool false)) ℓ σ = some (.next, ℓ, σ.set a (Dlm ix m len co false L o)) := by
  have q : O.inst "_Delimiter" (setField [("index", V.int (ix : Nat)), ("marker", .str [m]), ("length", .int len), ("can_open", .bool co), ("can_close", .bool cc), ("orig_length", .int (L : Nat)), ("order", .int (o : Nat))] "can_close" (.bool false)) = Dlm ix m len co false L o := by
    simp only [setField, String.reduceBEq, Bool.false_eq_true, if_false, if_true]
  rw [← q]
  exact x_setAttr e_bool (e_var ho) hg ⟨by simp [setField], h0⟩
end
/-- the index map and the delimiters, together -/
structure MI (m q t nx nd : Nat) (N ds : List Nat) (dis : List DI) (T : List Int) (len : Nat → Int) (co cc : Nat → Bool) (σ : St) : Prop where
  hm : σ[m]? = some (IM t nx)
  hq : σ[q]? = some (.list (ds.map .ref))
  ht : σ[t]? = some (.list (T.map .int))
  hn : σ[nx]? = some (nlist N)
  hN : NI N nd (fun j => len j = 0)
  hD : DT ds dis len co cc σ
structure MC (m q t nx nd : Nat) (ds : List Nat) (dis : List DI) : Prop where
  hnd : nd = dis.length
  nd500 : nd ≤ 500
  nx0 : nx ≠ 0
  t0 : t ≠ 0
  d0 : ∀ a ∈ ds, a ≠ 0
  dn : ds.Nodup
  qn : q ≠ nx
  qt : q ≠ t
  tn : t ≠ nx
section
variable {m q t nx nd : Nat} {N ds : List Nat} {dis : List DI} {T : List Int} {len : Nat → Int} {co cc : Nat → Bool} {σ σ' : St}
theorem MI.ds_ne (I : MI m q t nx nd N ds dis T len co cc σ) {a : Nat} (ha : a ∈ ds) : a ≠ m ∧ a ≠ nx ∧ a ≠ q ∧ a ≠ t := by
  obtain ⟨k, hk⟩ := List.getElem?_of_mem ha
  obtain ⟨D, _, g⟩ := I.hD.at hk
  refine ⟨?_, ?_, ?_, ?_⟩ <;> rintro rfl
  · have := I.hm; rw [this] at g; simp at g
  · have := I.hn; rw [this] at g; cases g
  · have := I.hq; rw [this] at g; cases g
  · have := I.ht; rw [this] at g; cases g
theorem MI.m_ne (I : MI m q t nx nd N ds dis T len co cc σ) : m ≠ nx ∧ m ≠ q ∧ m ≠ t := by
  refine ⟨?_, ?_, ?_⟩ <;> rintro rfl
  · have := I.hn; rw [I.hm] at this; cases this
  · have := I.hq; rw [I.hm] at this; cases this
  · have := I.ht; rw [I.hm] at this; cases this
theorem MI.fr {X : List Nat} (I : MI m q t nx nd N ds dis T len co cc σ) (f : Fr X σ σ') (h : ∀ a ∈ X, a ≠ m ∧ a ≠ q ∧ a ≠ t ∧ a ≠ nx ∧ a ∉ ds) : MI m q t nx nd N ds dis T len co cc σ' :=
  ⟨f.get I.hm fun z => (h _ z).1 rfl, f.get I.hq fun z => (h _ z).2.1 rfl, f.get I.ht fun z => (h _ z).2.2.1 rfl, f.get I.hn fun z => (h _ z).2.2.2.1 rfl, I.hN, I.hD.fr f fun a ha z => (h _ z).2.2.2.2 ha⟩
/-- a delimiter's object is changed; none is brought to life -/
theorem MI.upd (C : MC m q t nx nd ds dis) (I : MI m q t nx nd N ds dis T len co cc σ) {j a : Nat} {D : DI} (hj : dis[j]? = some D) (ha : ds[j]? = some a) {l : Int} (b c : Bool) (hl : l = len j ∨ l = 0) :
    MI m q t nx nd N ds dis T (put len j l) (put co j b) (put cc j c) (σ.set a (Dlm D.x D.m l b c D.L j)) := by
  obtain ⟨n1, n2, n3, n4⟩ := I.ds_ne (List.mem_of_getElem? ha)
  refine ⟨get_set_ne n1 I.hm, get_set_ne n3 I.hq, get_set_ne n4 I.ht, get_set_ne n2 I.hn, I.hN.mono fun k hk => ?_, I.hD.upd C.dn hj ha l b c⟩
  by_cases hkj : k = j
  · subst hkj; rw [put_same]; rcases hl with hl | hl
    · rw [hl]; exact hk
    · exact hl
  · rw [put_ne hkj]; exact hk
theorem MI.deact (C : MC m q t nx nd ds dis) (I : MI m q t nx nd N ds dis T len co cc σ) {a : Nat} (ha : a < nd) (hd : len a = 0) :
    ∃ N' σ', callN prog (d + 2) "_DelimiterIndex.deactivate" [.ref m, .int a] σ = some (.none, σ') ∧ Fr [nx] σ σ' ∧ MI m q t nx nd N' ds dis T len co cc σ' := by
  obtain ⟨N', σ', c1, f1, g1, n1⟩ := s_deact (d := d) I.hm I.hn I.hN (by have := C.nd500; omega) ha hd C.nx0
  refine ⟨N', σ', c1, f1, f1.get I.hm (by simp; exact I.m_ne.1), f1.get I.hq (by simp; exact C.qn), f1.get I.ht (by simp; exact C.tn), g1, n1, I.hD.fr f1 fun a ha => by simp; exact (I.ds_ne ha).2.1⟩
end
theorem s_apply {σ : St} {p q m t nx x y j i a b oa ob c nd : Nat} {ps N ds : List Nat} {T : List Int} {dis : List DI} {len : Nat → Int} {co cc : Nat → Bool} {Dj Di : DI} {ra rb : List Nat} {L : Nat} (C : MC m q t nx nd ds dis) (I : MI m q t nx nd N ds dis T len co cc σ)
    (hp : σ[p]? = some (.list (ps.map .ref))) (hps : ps.length ≤ 1000) (hxy : x + 1 < y) (hx : ps[x]? = some a) (hy : ps[y]? = some b) (hab : a ≠ b) (ha : σ[a]? = some (dText ra)) (hb : σ[b]? = some (dText rb)) (hra : ra.length = L) (hrb : rb.length = L)
    (hj : dis[j]? = some Dj) (hi : dis[i]? = some Di) (hoa : ds[j]? = some oa) (hob : ds[i]? = some ob) (hji : j < i) (hlj : len j = L) (hli : len i = L) (hL : L = 1 ∨ L = 2) (hT : T.length < 19) (h0 : p ≠ 0 ∧ a ≠ 0 ∧ b ≠ 0) (hpq : p ≠ q ∧ p ≠ t ∧ p ≠ nx) :
    ∃ nn N' len' σ', callN prog (d + 3) "_apply_emphasis_match" [.ref p, .ref q, .ref m, .ref oa, .ref ob, .int j, .int i, .int x, .int y, .int L, .ref c] σ = some (.none, σ') ∧ Fr (p :: a :: b :: t :: nx :: ds) σ σ' ∧
      σ'[p]? = some (.list ((ps.take (x + 1) ++ [nn] ++ ps.drop y).map .ref)) ∧ σ.length ≤ nn ∧ σ'[nn]? = some (dNode (if L = 2 then T_strong else T_emph) c) ∧ σ'[a]? = some (dText []) ∧ σ'[b]? = some (dText []) ∧
      MI m q t nx nd N' ds dis (if y - x - 2 = 0 then T else upd ((y - x - 2 : Nat) : Int) 20 T (Di.x + 1)) len' (put co j false) (put cc i false) σ' ∧
      (∀ k, k = j ∨ k = i → len' k = 0) ∧ (y - x - 2 ≠ 0 → ∀ k, j < k → k < i → len' k = 0) ∧ ∀ k, k ≠ j → k ≠ i → (y - x - 2 = 0 ∨ ¬ (j < k ∧ k < i)) → len' k = len k := by
  have hL1 : L ≤ 1000 := by omega
  have hyl : y < ps.length := (List.getElem?_eq_some_iff.mp hy).1
  have hil : i < nd := by rw [C.hnd]; exact (List.getElem?_eq_some_iff.mp hi).1
  have hxv : (ps.map V.ref)[x]? = some (.ref a) := by simp [hx]
  have hyv : (ps.map V.ref)[y]? = some (.ref b) := by simp [hy]
  have oam := List.mem_of_getElem? hoa
  have obm := List.mem_of_getElem? hob
  have hda : ∀ e ∈ ds, e ≠ a ∧ e ≠ b ∧ e ≠ p := fun e he => by
    obtain ⟨k, hk⟩ := List.getElem?_of_mem he
    obtain ⟨D, _, g⟩ := I.hD.at hk
    refine ⟨?_, ?_, ?_⟩ <;> rintro rfl
    · rw [ha] at g; cases g
    · rw [hb] at g; cases g
    · rw [hp] at g; cases g
  have nl : ∀ {e : Nat} {vs : List V} {s : List Nat}, σ[e]? = some (.list vs) → (∀ s, σ[a]? = some (dText s) → e ≠ a) ∧ e ≠ a ∧ e ≠ b := fun h => ⟨fun s _ => not_dict_of_list h ha, not_dict_of_list h ha, not_dict_of_list h hb⟩
  have mab : m ≠ a ∧ m ≠ b ∧ m ≠ p := by
    have := I.hm
    refine ⟨?_, ?_, ?_⟩ <;> rintro rfl
    · rw [ha] at this; cases this
    · rw [hb] at this; cases this
    · rw [hp] at this; cases this
  have avoid : ∀ e ∈ [a, b, p], e ≠ m ∧ e ≠ q ∧ e ≠ t ∧ e ≠ nx ∧ e ∉ ds := by
    intro e he
    simp only [List.mem_cons, List.not_mem_nil, or_false] at he
    rcases he with rfl | rfl | rfl
    · exact ⟨Ne.symm mab.1, Ne.symm (nl (s := []) I.hq).2.1, Ne.symm (nl (s := []) I.ht).2.1, Ne.symm (nl (s := []) I.hn).2.1, fun h => (hda _ h).1 rfl⟩
    · exact ⟨Ne.symm mab.2.1, Ne.symm (nl (s := []) I.hq).2.2, Ne.symm (nl (s := []) I.ht).2.2, Ne.symm (nl (s := []) I.hn).2.2, fun h => (hda _ h).2.1 rfl⟩
    · exact ⟨Ne.symm mab.2.2, hpq.1, hpq.2.1, hpq.2.2, fun h => (hda _ h).2.2 rfl⟩
  have hpa := (nl (s := []) hp).2.1
  have hpb := (nl (s := []) hp).2.2
  generalize hℓ : (params ["parts", "delimiters", "index_map", "opener", "closer", "opener_pos", "closer_pos", "opener_index", "closer_index", "use_length", "children"] [.ref p, .ref q, .ref m, .ref oa, .ref ob, .int j, .int i, .int x, .int y, .int L, .ref c]) = ℓ0
  have l1 : ℓ0 "parts" = some (.ref p) := by rw [← hℓ]; one_place
  have l2 : ℓ0 "delimiters" = some (.ref q) := by rw [← hℓ]; one_place
  have l3 : ℓ0 "index_map" = some (.ref m) := by rw [← hℓ]; one_place
  have l4 : ℓ0 "opener" = some (.ref oa) := by rw [← hℓ]; one_place
  have l5 : ℓ0 "closer" = some (.ref ob) := by rw [← hℓ]; one_place
  have l6 : ℓ0 "opener_pos" = some (.int (j : Nat)) := by rw [← hℓ]; one_place
  have l7 : ℓ0 "closer_pos" = some (.int (i : Nat)) := by rw [← hℓ]; one_place
  have l8 : ℓ0 "opener_index" = some (.int (x : Nat)) := by rw [← hℓ]; one_place
  have l9 : ℓ0 "closer_index" = some (.int (y : Nat)) := by rw [← hℓ]; one_place
  have l10 : ℓ0 "use_length" = some (.int (L : Nat)) := by rw [← hℓ]; one_place
  have l11 : ℓ0 "children" = some (.ref c) := by rw [← hℓ]; one_place
  -- the two signs go
  have hs1 : sliceOf σ (.str ra) .none (.int (-(L : Int))) = some (.str [], σ) := by
    have e1 : bnd ra.length ra.length (.int (-(L : Int))) = some 0 := by
      show (if (-(L : Int)).natAbs ≤ LIM then some (bound ra.length (-(L : Int))) else none) = some 0
      rw [if_pos (by unfold LIM; omega)]; unfold bound; rw [if_pos (by omega)]; congr 1; omega
    have := slice_str (σ := σ) (s := ra) (v := .none) (w := .int (-(L : Int))) (l := 0) (h := 0) rfl e1
    rw [this]; simp [cut]
  let σ1 := σ.set a (dText [])
  have hb1 : σ1[b]? = some (dText rb) := get_set_ne hab hb
  have hs2 : sliceOf σ1 (.str rb) (.int (L : Nat)) .none = some (.str [], σ1) := by
    have := slice_str (σ := σ1) (s := rb) (v := .int (L : Nat)) (w := .none) (l := L) (h := rb.length) (bnd_nat rfl (by omega) (by unfold LIM; omega)) rfl
    rw [this]; simp [cut, hrb]
  let σ2 := σ1.set b (dText [])
  have f2 : Fr [a, b, p] σ σ2 := (Fr.set (.inl (by simp))).trans (Fr.set (.inl (by simp)))
  have ha2 : σ2[a]? = some (dText []) := get_set_ne (Ne.symm hab) (get_set_eq ha)
  have hb2 : σ2[b]? = some (dText []) := get_set_eq hb1
  have hp2 : σ2[p]? = some (.list (ps.map .ref)) := get_set_ne (Ne.symm hpb) (get_set_ne (Ne.symm hpa) hp)
  have hlen2 : σ2.length = σ.length := by simp [σ2, σ1]
  generalize hty : (if L = 2 then T_strong else T_emph) = ty
  let σ3 := (σ2 ++ [dNode ty c]) ++ [.list [.ref σ2.length]]
  have hl3 : (σ2 ++ [dNode ty c]).length = σ2.length + 1 := by simp
  let σ4 := σ3.set p (.list ((ps.take (x + 1) ++ [σ2.length] ++ ps.drop y).map .ref))
  have hplt : p < σ2.length := get_lt hp2
  have hset : setSliceF σ3 (.ref p) (.int ((x : Int) + 1)) (.int (y : Nat)) (.ref (σ2 ++ [dNode ty c]).length) = some σ4 := by
    have q1 : getList σ3 (.ref p) = some (p, ps.map .ref) := list_of (get_app (get_app hp2))
    have q2 : getList σ3 (.ref (σ2 ++ [dNode ty c]).length) = some ((σ2 ++ [dNode ty c]).length, [.ref σ2.length]) := list_of get_last
    have q3 : bnd (ps.map V.ref).length 0 (.int ((x : Int) + 1)) = some (x + 1) := bnd_nat (by omega) (by rw [List.length_map]; omega) (by rw [List.length_map]; unfold LIM; omega)
    have q4 : bnd (ps.map V.ref).length (ps.map V.ref).length (.int (y : Nat)) = some y := bnd_nat rfl (by rw [List.length_map]; omega) (by rw [List.length_map]; unfold LIM; omega)
    simp only [setSliceF, q1, q2, q3, q4, Option.bind_eq_bind, Option.bind_some]
    rw [if_pos ⟨by rw [hl3]; omega, by omega, by rw [List.length_map]; simp; unfold LIM; omega, h0.1⟩]
    simp [σ4, List.map_take, List.map_drop]
  have f4 : Fr [a, b, p] σ σ4 := ((f2.trans Fr.app).trans Fr.app).trans (Fr.set (.inl (by simp)))
  have I4 := I.fr f4 avoid
  have ha4 : σ4[a]? = some (dText []) := get_set_ne hpa (get_app (get_app ha2))
  have hb4 : σ4[b]? = some (dText []) := get_set_ne hpb (get_app (get_app hb2))
  have hp4 : σ4[p]? = some (.list ((ps.take (x + 1) ++ [σ2.length] ++ ps.drop y).map .ref)) := get_set_eq (get_app (get_app hp2))
  have hn4 : σ4[σ2.length]? = some (dNode ty c) := get_set_ne (by omega) (get_app get_last)
  have hnty : evalE (callN prog (d + 2)) (.ite (.cmp .eq (.var "use_length") (.int 2)) (.str [115, 116, 114, 111, 110, 103]) (.str [101, 109, 112, 104, 97, 115, 105, 115])) ((ℓ0.set "opener_text" (.ref a)).set "closer_text" (.ref b)) σ2 = some (.str ty, σ2) := by
    rw [← hty]
    rcases hL with rfl | rfl
    · rw [if_neg (by decide)]; pv_eval
    · rw [if_pos rfl]; pv_eval
  let ℓ4 := ((((ℓ0.set "opener_text" (.ref a)).set "closer_text" (.ref b)).set "node_type" (.str ty)).set "removed" (.int (((y : Int) - x) - 2)))
  -- what lies between goes
  obtain ⟨N6, len6, σ6, x6, f6, I6, z1, z2⟩ : ∃ N6 len6 σ6, execS (callN prog (d + 2)) (.ifS (.var "removed") (.seq (.expr (.umeth (.var "index_map") "deactivate_range" (.cons (.var "delimiters") (.cons (.bin .add (.var "opener_pos") (.int 1)) (.cons (.var "closer_pos") .nil))))) (.seq (.expr (.umeth (.var "index_map") "collapse" (.cons (.var "closer") (.cons (.var "removed") .nil)))) .done)) .done) ℓ4 σ4 = some (.next, ℓ4, σ6) ∧
      Fr (t :: nx :: ds) σ4 σ6 ∧ MI m q t nx nd N6 ds dis (if y - x - 2 = 0 then T else upd ((y - x - 2 : Nat) : Int) 20 T (Di.x + 1)) len6 co cc σ6 ∧ (y - x - 2 ≠ 0 → ∀ k, j < k → k < i → len6 k = 0) ∧ ∀ k, (y - x - 2 = 0 ∨ ¬ (j < k ∧ k < i)) → len6 k = len k := by
    have hcast : (((y : Int) - x) - 2) = ((y - x - 2 : Nat) : Int) := by omega
    by_cases hr : y - x - 2 = 0
    · refine ⟨N, len, σ4, x_ifF (v := .int 0) (by rw [show (V.int 0) = V.int (((y : Int) - x) - 2) by rw [hcast, hr]; rfl]; pv_eval) rfl x_done, Fr.refl, by rw [if_pos hr]; exact I4, fun h => absurd hr h, fun _ _ => rfl⟩
    · obtain ⟨N5, len5, σ5, c5, f5, g5, n5, D5, e5, e6⟩ := s_range (d := d) (s := j + 1) (e := i) I4.hm I4.hn I4.hN I4.hq I4.hD C.hnd C.nd500 (by omega) (by omega) C.nx0 C.d0 C.dn C.qn
      have I5 : MI m q t nx nd N5 ds dis T len5 co cc σ5 := ⟨f5.get I4.hm (by simp only [List.mem_cons, not_or]; exact ⟨I4.m_ne.1, fun z => (I4.ds_ne z).1 rfl⟩), f5.get I4.hq (by simp only [List.mem_cons, not_or]; exact ⟨C.qn, fun z => (I4.ds_ne z).2.2.1 rfl⟩), f5.get I4.ht (by simp only [List.mem_cons, not_or]; exact ⟨C.tn, fun z => (I4.ds_ne z).2.2.2 rfl⟩), g5, n5, D5⟩
      obtain ⟨D', hD', gob⟩ := I5.hD.at hob
      rw [hi] at hD'; cases hD'
      obtain ⟨σ6, c6, f6, g6⟩ := s_collapse (d := d + 1) (r := ((y - x - 2 : Nat) : Int)) I5.hm I5.ht gob hT (by omega) C.t0
      have I6 : MI m q t nx nd N5 ds dis (upd ((y - x - 2 : Nat) : Int) 20 T (Di.x + 1)) len5 co cc σ6 := ⟨f6.get I5.hm (by simp; exact I5.m_ne.2.2), f6.get I5.hq (by simp; exact C.qt), g6, f6.get I5.hn (by simp; exact Ne.symm C.tn), I5.hN, I5.hD.fr f6 fun a ha => by simp; exact (I5.ds_ne ha).2.2.2⟩
      have hadd : binOp σ4 .add (.int (j : Nat)) (.int 1) = some (.int ((j + 1 : Nat) : Int), σ4) := rfl
      refine ⟨N5, len5, σ6, x_ifT (v := .int (((y : Int) - x) - 2)) (by pv_eval) (congrArg some (bne_iff_ne.mpr (by omega))) (seqN (x_expr (e_umeth (e_var (by one_place)) I4.hm rfl (by mod_arm) (by rw [nm_range]; exact c5))) (seqN (x_expr (e_umeth (e_var (by one_place)) I5.hm rfl (by mod_arm) (by rw [nm_collapse, hcast]; exact c6))) x_done)),
        (f5.mono (by simp; intro a ha; exact .inr (.inr ha))).trans (f6.mono (by simp)), by rw [if_neg hr]; exact I6, fun _ k k1 k2 => e5 k (by omega) k2, fun k hk => e6 k fun h => ?_⟩
      rcases hk with hk | hk
      · exact hr hk
      · exact hk ⟨by omega, h.2⟩
  have av6 : ∀ e ∈ (t :: nx :: ds), e ≠ a ∧ e ≠ b ∧ e ≠ p ∧ e ≠ σ2.length := by
    intro e he
    simp only [List.mem_cons] at he
    rcases he with rfl | rfl | he
    · exact ⟨(nl (s := []) I.ht).2.1, (nl (s := []) I.ht).2.2, Ne.symm hpq.2.1, by have := get_lt I.ht; omega⟩
    · exact ⟨(nl (s := []) I.hn).2.1, (nl (s := []) I.hn).2.2, Ne.symm hpq.2.2, by have := get_lt I.hn; omega⟩
    · refine ⟨(hda e he).1, (hda e he).2.1, (hda e he).2.2, ?_⟩
      obtain ⟨k, hk⟩ := List.getElem?_of_mem he
      obtain ⟨D, _, g⟩ := I.hD.at hk
      have := get_lt g; omega
  -- the two delimiters are spent
  have l6j : len6 j = L := by rw [z2 j (.inr (by omega)), hlj]
  have l6i : len6 i = L := by rw [z2 i (.inr (by omega)), hli]
  obtain ⟨Dj', hDj', goa⟩ := I6.hD.at hoa
  rw [hj] at hDj'; cases hDj'
  rw [l6j] at goa
  have I7 := I6.upd C hj hoa (l := 0) (co j) (cc j) (.inr rfl)
  rw [put_self, put_self] at I7
  obtain ⟨Di', hDi', gob⟩ := I7.hD.at hob
  rw [hi] at hDi'; cases hDi'
  rw [put_ne (by omega), l6i] at gob
  have I8 := I7.upd C hi hob (l := 0) (co i) (cc i) (.inr rfl)
  rw [put_self, put_self] at I8
  obtain ⟨Dj'', hDj'', goa8⟩ := I8.hD.at hoa
  rw [hj] at hDj''; cases hDj''
  rw [put_ne (by omega), put_same] at goa8
  have I9 := I8.upd C hj hoa (l := 0) false (cc j) (.inr rfl)
  rw [put_self] at I9
  obtain ⟨N10, σ10, c10, f10, I10⟩ := I9.deact (d := d) C (a := j) (by omega) put_same
  obtain ⟨Di'', hDi'', gob10⟩ := I10.hD.at hob
  rw [hi] at hDi''; cases hDi''
  rw [put_ne (by omega), put_same, put_ne (by omega)] at gob10
  have I11 := I10.upd C hi hob (l := 0) (co i) false (.inr rfl)
  have hco : put (put co j false) i (co i) = put co j false := by
    have : co i = put co j false i := by rw [put_ne (by omega)]
    rw [this, put_self]
  rw [hco] at I11
  obtain ⟨N12, σ12, c12, f12, I12⟩ := I11.deact (d := d) C (a := i) hil put_same
  have F : Fr (t :: nx :: ds) σ4 σ12 := by
    have s1 : ∀ {e : Nat} {o : O} {σ : St}, e ∈ ds → Fr (t :: nx :: ds) σ (σ.set e o) := fun h => Fr.set (.inl (by simp [h]))
    have s2 : ∀ {σ σ' : St}, Fr [nx] σ σ' → Fr (t :: nx :: ds) σ σ' := fun f => f.mono (by simp)
    exact f6.trans ((s1 oam).trans ((s1 obm).trans ((s1 oam).trans ((s2 f10).trans ((s1 obm).trans (s2 f12))))))
  refine ⟨σ2.length, N12, _, σ12, call0 rfl rfl ?_, ?_, F.get hp4 fun z => (av6 _ z).2.2.1 rfl, by omega, by exact F.get hn4 fun z => (av6 _ z).2.2.2 rfl, F.get ha4 fun z => (av6 _ z).1 rfl, F.get hb4 fun z => (av6 _ z).2.1 rfl, I12, fun k hk => ?_, fun hr k k1 k2 => ?_, fun k k1 k2 hk => ?_⟩
  · rw [hℓ]
    have hrem : evalE (callN prog (d + 2)) (.bin .sub (.bin .sub (.var "closer_index") (.var "opener_index")) (.int 2)) ((((ℓ0.set "opener_text" (.ref a)).set "closer_text" (.ref b)).set "node_type" (.str ty))) σ4 = some (.int (((y : Int) - x) - 2), σ4) := by pv_eval
    have hq9 : cmpOp σ12 .eq (.int 0) (.int 0) = some true := rfl
    refine runN (x_assign (by pv_eval)) (runN (x_assign (by pv_eval)) (runN (dset_raw (s := []) (by pv_eval) (by one_place) ha h0.2.1) (runN (dset_raw (s := []) (by pv_eval) (by one_place) hb1 h0.2.2) (runN (x_assign hnty) (runN (x_setSlice (by pv_eval) (by pv_eval) (by pv_eval) (by pv_eval) hset) (runN (x_assign hrem) (runN x6
      (runN (sub_len (by one_place) (by one_place) goa (C.d0 _ oam) rfl) (runN (sub_len (by one_place) (by one_place) gob (C.d0 _ obm) rfl) (runN (x_ifT (v := .bool true) (by pv_eval) rfl (seqN (set_co (by one_place) goa8 (C.d0 _ oam)) (seqN (x_expr (v := .none) (e_umeth (e_var (by one_place)) I9.hm rfl (l_cons (e_attr (e_var (by one_place)) (get_set_eq goa8) rfl) l_nil) (by rw [nm_deact]; exact c10))) x_done)))
        (runN (x_ifT (v := .bool true) (by pv_eval) rfl (seqN (set_cc (by one_place) gob10 (C.d0 _ obm)) (seqN (x_expr (v := .none) (e_umeth (e_var (by one_place)) I11.hm rfl (l_cons (e_attr (e_var (by one_place)) (get_set_eq gob10) rfl) l_nil) (by rw [nm_deact]; exact c12))) x_done))) run_done)))))))))))
  · exact (f4.mono (by intro e he; simp only [List.mem_cons, List.not_mem_nil, or_false] at he ⊢; rcases he with h | h | h <;> simp [h])).trans (F.mono (by intro e he; simp only [List.mem_cons] at he ⊢; exact .inr (.inr (.inr he))))
  · rcases hk with rfl | rfl <;> simp [put]
  · by_cases h1 : k = i
    · omega
    · rw [put_ne h1]
      by_cases h2 : k = j
      · omega
      · rw [put_ne h2, put_ne h1, put_ne h2]; exact z1 hr k k1 k2
  · rw [put_ne k2, put_ne k1, put_ne k2, put_ne k1]; exact z2 k hk
end P1
end Mine
end

/-! Q0 -/
section
open PySem PySem.W PyProof.Rows
set_option linter.unusedVariables false
set_option linter.unusedSimpArgs false
namespace Mine
namespace P1
/-! the plain machine: a stack of open runs -/
inductive RI where
  | opn (r : List Nat) | str (s : List Nat)
abbrev MS := List (List Nat × List Nat) × List Nat
def app : MS → List Nat → MS
  | ([], b), t => ([], b ++ t)
  | ((o, s) :: r, b), t => ((o, s ++ t) :: r, b)
def push (S : MS) (r : List Nat) : MS := ((r, []) :: S.1, S.2)
def wr (r c : List Nat) : List Nat := if r.length = 2 then [123] ++ c ++ [125] else [60] ++ c ++ [62]
def popTo (r : List Nat) : List (List Nat × List Nat) → List Nat → List Nat → Option MS
  | [], _, _ => none
  | (o, s) :: st, b, c => if o = r then some (app (st, b) (wr r (s ++ c))) else popTo r st b (o ++ s ++ c)
def pop (r : List Nat) (S : MS) (c : List Nat) : Option MS := popTo r S.1 S.2 c
def rms : List RI → MS
  | [] => ([], [])
  | .opn r :: l => push (rms l) r
  | .str s :: l => app (rms l) s
/-- what a list of items tells, the last first -/
def tellR : List RI → List Nat
  | [] => []
  | .opn r :: l => tellR l ++ r
  | .str s :: l => tellR l ++ s
def flatM : MS → List Nat
  | ([], b) => b
  | ((o, s) :: r, b) => flatM (r, b) ++ o ++ s
theorem pop_app {r t c : List Nat} : ∀ {S : MS}, pop r (app S t) c = pop r S (t ++ c)
  | ([], b) => rfl
  | ((o, s) :: st, b) => by
    show popTo r ((o, s ++ t) :: st) b c = popTo r ((o, s) :: st) b (t ++ c)
    unfold popTo
    rw [List.append_assoc, show o ++ (s ++ t) ++ c = o ++ s ++ (t ++ c) by simp [List.append_assoc]]
theorem pop_push {r o c : List Nat} {S : MS} : pop r (push S o) c = if o = r then some (app S (wr r c)) else pop r S (o ++ c) := by
  show popTo r ((o, []) :: S.1) S.2 c = _
  rw [popTo]; simp [pop]
theorem pop_none {r : List Nat} : ∀ {l : List RI} {c : List Nat}, (∀ i ∈ l, i ≠ .opn r) → pop r (rms l) c = none
  | [], _, _ => rfl
  | .opn o :: l, c, h => by
    rw [rms, pop_push, if_neg (fun e => h (.opn o) (by simp) (by rw [e]))]
    exact pop_none fun i hi => h i (by simp [hi])
  | .str s :: l, c, h => by
    rw [rms, pop_app]; exact pop_none fun i hi => h i (by simp [hi])
theorem pop_at {r : List Nat} {A : List RI} : ∀ {B : List RI} {c : List Nat}, (∀ i ∈ B, i ≠ .opn r) → pop r (rms (B ++ .opn r :: A)) c = some (app (rms A) (wr r (tellR B ++ c)))
  | [], c, _ => by rw [List.nil_append, rms, pop_push, if_pos rfl]; rfl
  | .opn o :: l, c, h => by
    rw [List.cons_append, rms, pop_push, if_neg (fun e => h (.opn o) (by simp) (by rw [e])), pop_at fun i hi => h i (by simp [hi])]
    simp [tellR, List.append_assoc]
  | .str s :: l, c, h => by
    rw [List.cons_append, rms, pop_app, pop_at fun i hi => h i (by simp [hi])]
    simp [tellR, List.append_assoc]
theorem flat_app' {t : List Nat} : ∀ {S : MS}, flatM (app S t) = flatM S ++ t
  | ([], b) => by simp [app, flatM]
  | ((o, s) :: st, b) => by simp [app, flatM, List.append_assoc]
theorem flat_push {r : List Nat} {S : MS} : flatM (push S r) = flatM S ++ r := by
  obtain ⟨st, b⟩ := S; simp [push, flatM]
theorem flat_rms : ∀ {l : List RI}, flatM (rms l) = tellR l
  | [] => by simp [rms, flatM, tellR]
  | .opn r :: l => by rw [rms, flat_push, flat_rms]; rfl
  | .str s :: l => by rw [rms, flat_app', flat_rms]; rfl
/-- a part as the machine sees it -/
structure AP where
  raw : List Nat
  op : Bool
  cl : Bool
def AP.del (p : AP) : Bool := p.op || p.cl
def stepM (S : MS) (p : AP) : MS :=
  if p.cl = true then match pop p.raw S [] with
    | some S' => S'
    | none => if p.op = true then push S p.raw else app S p.raw
  else if p.op = true then push S p.raw else app S p.raw
def runM (l : List AP) : MS := l.foldl stepM ([], [])
theorem runM_snoc {l : List AP} {p : AP} : runM (l ++ [p]) = stepM (runM l) p := by simp [runM]
def AP.di (p : AP) (o : Nat) : DI := ⟨o, p.raw.headD 0, p.raw.length, p.op, p.cl⟩
def dl : Nat → List AP → List DI
  | _, [] => []
  | x, p :: r => if p.del = true then p.di x :: dl (x + 1) r else dl (x + 1) r
def ann (t : List Nat) : Nat → List Grp → List AP
  | _, [] => []
  | pos, g :: r => ⟨g.raw, g.run && canO (g.raw.headD 0) (chBefore t pos) (chBehind t (pos + g.raw.length)), g.run && canC (g.raw.headD 0) (chBefore t pos) (chBehind t (pos + g.raw.length))⟩ :: ann t (pos + g.raw.length) r
theorem dlms_ann {t : List Nat} : ∀ {gs : List Grp} {x pos : Nat}, dlms t x pos gs = dl x (ann t pos gs)
  | [], _, _ => rfl
  | g :: r, x, pos => by
    unfold dlms ann dl
    rw [dlms_ann]
    cases hg : g.run <;> simp [AP.del, AP.di, hg]
/-! what has been laid, the last first -/
inductive It where
  | txt (o : Nat) (p : AP) (j : Nat)
  | nod (t : List Nat) (st : Option (Nat × DI))
def It.vO : It → Option (Nat × DI)
  | .txt o p j => if p.op = true then some (j, p.di o) else none
  | .nod _ st => st
def It.ri : It → RI
  | .txt _ p _ => if p.op = true then .opn p.raw else .str p.raw
  | .nod t _ => .str t
def It.wd : It → Nat
  | .txt .. => 1
  | .nod .. => 3
def tellI (l : List It) : List Nat := tellR (l.map It.ri)
/-- no run is taken for the wrong one: each stands right before the next -/
def RC : Nat → List It → Prop
  | _, [] => True
  | n, .txt o _ _ :: r => o + 1 = n ∧ RC o r
  | _, .nod .. :: r => ∃ n', RC n' r
theorem RC_drop : ∀ {B : List It} {n : Nat} {r : List It}, RC n (B ++ r) → ∃ n', RC n' r
  | [], n, r, h => ⟨n, h⟩
  | .txt o p j :: B, n, r, h => RC_drop (B := B) h.2
  | .nod t s :: B, n, r, h => let ⟨n', h'⟩ := h; RC_drop (B := B) h'
/-- a later item shuts out an open run of its sign that stands earlier -/
def Shut : It → Nat → Prop
  | .txt o p j, mk => p.op = true ∧ p.cl = true ∧ p.raw.headD 0 = mk
  | .nod _ st, mk => ∃ j D, st = some (j, D) ∧ D.m = mk
def PW (late early : It) : Prop :=
  (∀ j D j' D', late.vO = some (j, D) → early.vO = some (j', D') → j' < j) ∧
  ∀ mk, Shut late mk → ∀ o p j, early = .txt o p j → p.op = true → p.raw.headD 0 ≠ mk
/-- the parts, as they may be -/
structure AOK (aps : List AP) : Prop where
  ne : ∀ p ∈ aps, p.raw ≠ []
  run : ∀ p ∈ aps, p.del = true → ∃ m n, isMk m = true ∧ (n = 1 ∨ n = 2) ∧ p.raw = List.replicate n m
  same : ∀ p ∈ aps, ∀ q ∈ aps, p.del = true → q.del = true → p.raw.headD 0 = q.raw.headD 0 → p.raw = q.raw
  adj : ∀ (o : Nat) (p q : AP), aps[o]? = some p → aps[o + 1]? = some q → p.del = true → q.del = true → p.raw.headD 0 ≠ q.raw.headD 0
  mid : ∀ (o : Nat) (p k q : AP), aps[o]? = some p → aps[o + 1]? = some k → aps[o + 2]? = some q → p.del = true → k.del = true → q.del = true → k.op = true ∧ k.cl = true
  ends : ∀ p ∈ aps, endsS p.raw [38] = false
end P1
end Mine
end

/-! W14 -/
section
open PySem PySem.W PyProof.Rows
set_option linter.unusedVariables false
set_option linter.unusedSimpArgs false
namespace Mine
namespace P1
def It.at : It → List Nat
  | .txt o _ _ => [o]
  | .nod _ none => []
  | .nod _ (some (_, D)) => [D.x]
def wdS (l : List It) : Nat := (l.map It.wd).sum
/-- the parts' list and what is laid, the last first -/
inductive LayR (σ : St) (X : List Nat) (T : List Int) (k : Nat) : List Nat → List It → Nat → Prop
  | nil : LayR σ X T k [] [] 0
  | txt {ps : List Nat} {rl : List It} {z a o j : Nat} {p : AP} : LayR σ X T k ps rl z → σ[a]? = some (dText p.raw) → curT T o = ps.length → LayR σ X T k (ps ++ [a]) (.txt o p j :: rl) (z + 1)
  | nod {ps : List Nat} {rl : List It} {z a b c z1 cc : Nat} {ty t : List Nat} {st : Option (Nat × DI)} : LayR σ X T k ps rl z → σ[a]? = some (dText []) → σ[b]? = some (dNode ty cc) → (ty = T_emph ∨ ty = T_strong) → Told σ X b t k z1 → σ[c]? = some (dText []) →
      (∀ o ∈ (It.nod t st).at, curT T o = (ps.length : Int) + 1) → LayR σ X T k (ps ++ [a, b, c]) (.nod t st :: rl) (z + z1 + 2)
section
variable {σ σ' : St} {X X' : List Nat} {T T' : List Int} {k k' : Nat}
theorem LayR.go (h : ∀ b o, b ∉ X → σ[b]? = some o → b ∉ X' ∧ σ'[b]? = some o) (hk : k ≤ k') : ∀ {ps rl z}, LayR σ X T k ps rl z → (∀ a ∈ ps, ∀ o, σ[a]? = some o → σ'[a]? = some o) → (∀ it ∈ rl, ∀ o ∈ it.at, curT T' o = curT T o) → LayR σ' X' T' k' ps rl z
  | _, _, _, .nil, _, _ => .nil
  | _, _, _, .txt (o := o) (p := p) (j := j) l e1 e2, ha, hT => .txt (l.go h hk (fun a m => ha a (by simp [m])) fun it m => hT it (by simp [m])) (ha _ (by simp) _ e1) ((hT (.txt o p j) (by simp) o (by simp [It.at])).trans e2)
  | _, _, _, .nod l e1 e2 e3 e4 e5 e6, ha, hT => .nod (l.go h hk (fun a m => ha a (by simp [m])) fun it m => hT it (by simp [m])) (ha _ (by simp) _ e1) (ha _ (by simp) _ e2) e3 (((Told.go h e4 (ha _ (by simp)))).up hk) (ha _ (by simp) _ e5)
      fun o m => (hT _ (by simp) o m).trans (e6 o m)
theorem LayR.len : ∀ {ps rl z}, LayR σ X T k ps rl z → ps.length = wdS rl
  | _, _, _, .nil => rfl
  | _, _, _, .txt l _ _ => by simp [wdS, It.wd, l.len, Nat.add_comm]
  | _, _, _, .nod l _ _ _ _ _ _ => by simp [wdS, It.wd, l.len, Nat.add_comm]
theorem tellI_txt {o j : Nat} {p : AP} {l : List It} : tellI (.txt o p j :: l) = tellI l ++ p.raw := by
  unfold tellI; rw [List.map_cons]; show tellR ((if p.op = true then RI.opn p.raw else RI.str p.raw) :: _) = _; cases p.op <;> rfl
theorem tellI_nod {t : List Nat} {st : Option (Nat × DI)} {l : List It} : tellI (.nod t st :: l) = tellI l ++ t := rfl
theorem LayR.split : ∀ {B A : List It} {ps : List Nat} {z : Nat}, LayR σ X T k ps (B ++ A) z → ∃ pa pm z1 z2, ps = pa ++ pm ∧ LayR σ X T k pa A z1 ∧ z1 + z2 = z ∧ pm.length = wdS B ∧
    (∀ X'' : List Nat, (∀ b ∈ X'', b ∈ X) → (∀ e ∈ pm, e ∉ X'') → Tolds σ X'' pm (tellI B) k z2) ∧ (∀ e ∈ pm, PartAt σ e) ∧ (B ≠ [] → (∀ o p j, It.txt o p j ∈ B → p.raw ≠ []) → ∃ e ∈ pm, Content σ e)
  | [], A, ps, z, h => ⟨ps, [], z, 0, by simp, h, rfl, rfl, fun _ _ _ => .nil, by simp, fun h => absurd rfl h⟩
  | it :: B, A, ps, z, h => by
    cases h with
    | @txt ps0 _ z0 a o j p l e1 e2 =>
      obtain ⟨pa, pm, z1, z2, h1, h2, h3, h4, h5, h6, h7⟩ := LayR.split l
      refine ⟨pa, pm ++ [a], z1, z2 + 1, by rw [h1, List.append_assoc], h2, by omega, by simp [wdS, It.wd, h4, Nat.add_comm], fun X'' hX hn => ?_, fun e he => ?_, fun _ hr => ?_⟩
      · rw [tellI_txt]
        have := (h5 X'' hX fun e he => hn e (by simp [he])).append (.cons (hn a (by simp)) (.text e1) .nil)
        simpa using this
      · rcases List.mem_append.mp he with he | he
        · exact h6 e he
        · rw [List.mem_singleton.mp he]; exact .inl ⟨_, e1⟩
      · exact ⟨a, by simp, .inl ⟨_, e1, hr o p j (by simp)⟩⟩
    | @nod ps0 _ z0 a b c z1' cc ty t st l e1 e2 e3 e4 e5 e6 =>
      obtain ⟨pa, pm, z1, z2, h1, h2, h3, h4, h5, h6, h7⟩ := LayR.split l
      refine ⟨pa, pm ++ [a, b, c], z1, z2 + (1 + (z1' + 1)), by rw [h1, List.append_assoc], h2, by omega, by simp [wdS, It.wd, h4, Nat.add_comm], fun X'' hX hn => ?_, fun e he => ?_, fun _ hr => ?_⟩
      · rw [tellI_nod]
        have hb : Told σ X'' b t k z1' := Told.go (fun x o h1 h2 => ⟨fun q => h1 (hX x q), h2⟩) e4 fun o ho => ho
        have := (h5 X'' hX fun e he => hn e (by simp [he])).append (.cons (hn a (by simp)) (.text e1) (.cons (hn b (by simp)) hb (.cons (hn c (by simp)) (.text e5) .nil)))
        simpa using this
      · rcases List.mem_append.mp he with he | he
        · exact h6 e he
        · simp only [List.mem_cons, List.not_mem_nil, or_false] at he
          rcases he with rfl | rfl | rfl
          · exact .inl ⟨_, e1⟩
          · exact .inr ⟨_, _, e2, e3⟩
          · exact .inl ⟨_, e5⟩
      · exact ⟨b, by simp, .inr ⟨_, _, e2, e3⟩⟩
end
/-- what does not change -/
structure PG where
  p : Nat
  q : Nat
  m : Nat
  t : Nat
  nx : Nat
  bA : Nat
  nd : Nat
  ds : List Nat
  dis : List DI
  aps : List AP
def PG.sp (c : PG) : List Nat := [c.p, c.q, c.m, c.t, c.nx, c.bA] ++ c.ds
structure PGok (c : PG) : Prop where
  mc : MC c.m c.q c.t c.nx c.nd c.ds c.dis
  ok : AOK c.aps
  hd : c.dis = dl 0 c.aps
  len : c.aps.length ≤ 17
  p0 : c.p ≠ 0
  b0 : c.bA ≠ 0
  pne : c.p ≠ c.q ∧ c.p ≠ c.t ∧ c.p ≠ c.nx
structure PS (c : PG) (i : Nat) (pre suf : List AP) (rl : List It) (pl psuf N : List Nat) (T : List Int) (len : Nat → Int) (co cc : Nat → Bool) (es : List (TKey × Int)) (z : Nat) (σ : St) : Prop where
  aps : c.aps = pre ++ suf
  dl : c.dis.drop i = dl pre.length suf
  il : i ≤ c.dis.length
  hp : σ[c.p]? = some (.list ((pl ++ psuf).map .ref))
  hb : σ[c.bA]? = some (.tdict es)
  mi : MI c.m c.q c.t c.nx c.nd N c.ds c.dis T len co cc σ
  lay : LayR σ (c.sp ++ (pl ++ psuf)) T i pl rl z
  sf : All2 (fun a (p : AP) => σ[a]? = some (dText p.raw)) psuf suf
  nod : (pl ++ psuf).Nodup
  dj : ∀ a ∈ pl ++ psuf, a ∉ c.sp
  nz : ∀ a ∈ pl ++ psuf, a ≠ 0
  tl : T.length = c.aps.length + 1
  cur : ∀ o, pre.length ≤ o → o < c.aps.length → curT T o = (o : Int) + pl.length - pre.length
  rc : RC pre.length rl
  tx : ∀ o p j, It.txt o p j ∈ rl → c.aps[o]? = some p ∧ o < pre.length
  ats : ∀ it ∈ rl, ∀ o ∈ it.at, o < pre.length
  d1 : ∀ it ∈ rl, ∀ j D, it.vO = some (j, D) → j < i ∧ c.dis[j]? = some D
  v1 : ∀ j, j < i → ((co j = true ∧ 0 < len j) ↔ ∃ it ∈ rl, ∃ D, it.vO = some (j, D))
  v1' : ∀ o p j, It.txt o p j ∈ rl → p.op = true → len j = p.raw.length
  v2 : ∀ j D, i ≤ j → c.dis[j]? = some D → len j = D.L ∧ co j = D.co ∧ cc j = D.cc
  pw : rl.Pairwise PW
  bi : ∀ e ∈ es, ∃ mk n : Nat, e.1.1 = [mk] ∧ e.2 = (n : Int) ∧ n ≤ i ∧ ∀ j, j < n → ¬ vis c.dis len co mk j
  bl : es.length ≤ i
  ms : rms (rl.map It.ri) = runM pre
  zl : z ≤ pre.length + i
section
variable {c : PG} {i : Nat} {pre suf : List AP} {rl : List It} {pl psuf N : List Nat} {T : List Int} {len : Nat → Int} {co cc : Nat → Bool} {es es' : List (TKey × Int)} {z : Nat} {σ σ' : St}
/-- only the note of fruitless closers is changed -/
theorem PS.move (h : PS c i pre suf rl pl psuf N T len co cc es z σ) (f : Fr [c.bA] σ σ') (hbne : c.p ≠ c.bA ∧ c.m ≠ c.bA ∧ c.q ≠ c.bA ∧ c.t ≠ c.bA ∧ c.nx ≠ c.bA ∧ c.bA ∉ c.ds) (hb : σ'[c.bA]? = some (.tdict es'))
    (bi : ∀ e ∈ es', ∃ mk n : Nat, e.1.1 = [mk] ∧ e.2 = (n : Int) ∧ n ≤ i ∧ ∀ j, j < n → ¬ vis c.dis len co mk j) (bl : es'.length ≤ i) : PS c i pre suf rl pl psuf N T len co cc es' z σ' := by
  have hx : ∀ {a}, a ≠ c.bA → a ∉ [c.bA] := fun h => by simpa using h
  have hsp : c.bA ∈ c.sp := by simp [PG.sp]
  have keep : ∀ a ∈ pl ++ psuf, ∀ o, σ[a]? = some o → σ'[a]? = some o := fun a ha o e => f.get e (hx fun q => h.dj a ha (q ▸ hsp))
  exact { h with
    hp := f.get h.hp (hx hbne.1)
    hb := hb
    mi := h.mi.fr f fun a ha => by
      rw [List.mem_singleton] at ha; subst ha
      exact ⟨Ne.symm hbne.2.1, Ne.symm hbne.2.2.1, Ne.symm hbne.2.2.2.1, Ne.symm hbne.2.2.2.2.1, hbne.2.2.2.2.2⟩
    lay := h.lay.go (fun b o h1 h2 => ⟨h1, f.get h2 (hx fun q => h1 (by rw [q]; simp [hsp]))⟩) (Nat.le_refl _) (fun a ha => keep a (by simp [ha])) fun _ _ _ _ => rfl
    sf := All2.mono (fun a p e => e) (by
      have : ∀ {l : List Nat} {r : List AP}, All2 (fun a (p : AP) => σ[a]? = some (dText p.raw)) l r → (∀ a ∈ l, a ∈ pl ++ psuf) → All2 (fun a (p : AP) => σ'[a]? = some (dText p.raw)) l r := by
        intro l r h
        induction h with
        | nil => intro _; exact .nil
        | cons e _ ih => intro hl; exact .cons (keep _ (hl _ (by simp)) _ e) (ih fun a ha => hl a (by simp [ha]))
      exact this h.sf fun a ha => by simp [ha])
    bi := bi
    bl := bl }
end
end P1
end Mine
end

/-! W15 -/
section
open PySem PySem.W PyProof.Rows
set_option linter.unusedVariables false
set_option linter.unusedSimpArgs false
namespace Mine
namespace P1
section
variable {c : PG} {i : Nat} {pre suf : List AP} {x : AP} {rl : List It} {pl psuf N : List Nat} {T : List Int} {len : Nat → Int} {co cc : Nat → Bool} {es : List (TKey × Int)} {z : Nat} {σ σ' : St}
theorem PS.head (h : PS c i pre (x :: suf) rl pl psuf N T len co cc es z σ) : ∃ a r, psuf = a :: r ∧ σ[a]? = some (dText x.raw) ∧ All2 (fun a (p : AP) => σ[a]? = some (dText p.raw)) r suf := by
  cases h.sf with
  | cons e r => exact ⟨_, _, rfl, e, r⟩
theorem PS.hdel (h : PS c i pre (x :: suf) rl pl psuf N T len co cc es z σ) (hx : x.del = true) : i < c.dis.length ∧ c.dis[i]? = some (x.di pre.length) ∧ c.dis.drop (i + 1) = P1.dl (pre.length + 1) suf := by
  have e := h.dl
  rw [P1.dl, if_pos hx] at e
  have hl : i < c.dis.length := by
    have := congrArg List.length e
    simp at this; omega
  refine ⟨hl, ?_, ?_⟩
  · have := congrArg (·[0]?) e
    simpa using this
  · rw [← List.drop_drop, e]; rfl
theorem PS.at_pre (h : PS c i pre (x :: suf) rl pl psuf N T len co cc es z σ) : c.aps[pre.length]? = some x := by
  rw [h.aps, List.getElem?_append_right (Nat.le_refl _)]; simp
theorem AP.op_del {p : AP} (h : p.op = true) : p.del = true := by simp [AP.del, h]
theorem AP.cl_del {p : AP} (h : p.cl = true) : p.del = true := by simp [AP.del, h]
theorem PS.push (G : PGok c) (h : PS c i pre (x :: suf) rl pl psuf N T len co cc es z σ) {i' : Nat}
    (hcase : (x.del = false ∧ i' = i) ∨ (x.del = true ∧ i' = i + 1 ∧ (x.cl = true → ∀ o p j, It.txt o p j ∈ rl → p.op = true → p.raw.headD 0 ≠ x.raw.headD 0))) :
    ∃ pl' psuf', pl ++ psuf = pl' ++ psuf' ∧ PS c i' (pre ++ [x]) suf (.txt pre.length x i :: rl) pl' psuf' N T len co cc es (z + 1) σ := by
  obtain ⟨a, r, rfl, ha, hr⟩ := h.head
  have hii : i ≤ i' := by rcases hcase with ⟨_, e⟩ | ⟨_, e, _⟩ <;> omega
  have hl' : (pre ++ [x]).length = pre.length + 1 := by simp
  have hlist : pl ++ a :: r = (pl ++ [a]) ++ r := by simp
  have hopn : x.op = true → c.dis[i]? = some (x.di pre.length) ∧ i' = i + 1 := fun ho => by
    rcases hcase with ⟨e, _⟩ | ⟨e, e2, _⟩
    · rw [AP.op_del ho] at e; cases e
    · exact ⟨(h.hdel e).2.1, e2⟩
  have hrun : runM (pre ++ [x]) = if x.op = true then P1.push (runM pre) x.raw else app (runM pre) x.raw := by
    rw [runM_snoc]
    unfold stepM
    by_cases hc : x.cl = true
    · rw [if_pos hc]
      have hno : pop x.raw (runM pre) [] = none := by
        rw [← h.ms]
        refine pop_none fun it hit => ?_
        obtain ⟨y, hy, rfl⟩ := List.mem_map.mp hit
        rcases hcase with ⟨e, _⟩ | ⟨_, _, e⟩
        · rw [AP.cl_del hc] at e; cases e
        · cases y with
          | nod t st => intro q; cases q
          | txt o p j =>
            intro q
            by_cases hp : p.op = true
            · have q' : (if p.op = true then RI.opn p.raw else RI.str p.raw) = RI.opn x.raw := q
              rw [if_pos hp] at q'
              injection q' with q'
              exact e hc o p j hy hp (by rw [q'])
            · have q' : (if p.op = true then RI.opn p.raw else RI.str p.raw) = RI.opn x.raw := q
              rw [if_neg hp] at q'; cases q'
      rw [hno]
    · rw [if_neg hc]
  refine ⟨pl ++ [a], r, hlist, ?_⟩
  refine { aps := by rw [h.aps]; simp, dl := ?_, il := ?_, hp := by rw [← hlist]; exact h.hp, hb := h.hb, mi := h.mi, lay := ?_, sf := hr, nod := by rw [← hlist]; exact h.nod, dj := by rw [← hlist]; exact h.dj, nz := by rw [← hlist]; exact h.nz, tl := h.tl, cur := ?_, rc := ?_, tx := ?_, ats := ?_, d1 := ?_, v1 := ?_, v1' := ?_, v2 := ?_, pw := ?_, bi := ?_, bl := by have := h.bl; omega, ms := ?_, zl := by have := h.zl; simp; omega }
  · rcases hcase with ⟨e, rfl⟩ | ⟨e, rfl, _⟩
    · rw [hl', h.dl, P1.dl, if_neg (by simp [e])]
    · rw [hl']; exact (h.hdel e).2.2
  · rcases hcase with ⟨e, rfl⟩ | ⟨e, rfl, _⟩
    · exact h.il
    · exact (h.hdel e).1
  · rw [← hlist]
    refine .txt (h.lay.go (fun b o h1 h2 => ⟨h1, h2⟩) hii (fun _ _ _ e => e) fun _ _ _ _ => rfl) ha ?_
    rw [h.cur pre.length (Nat.le_refl _) (by rw [h.aps]; simp)]; omega
  · intro o h1 h2
    rw [h.cur o (by rw [hl'] at h1; omega) h2]; simp; omega
  · exact ⟨hl'.symm, h.rc⟩
  · intro o p j hm
    rcases List.mem_cons.mp hm with e | hm
    · cases e; exact ⟨h.at_pre, by omega⟩
    · have := h.tx o p j hm; exact ⟨this.1, by omega⟩
  · intro it hm o ho
    rcases List.mem_cons.mp hm with rfl | hm
    · simp [It.at] at ho; omega
    · have := h.ats it hm o ho; omega
  · intro it hm j D hv
    rcases List.mem_cons.mp hm with rfl | hm
    · have hv' : (if x.op = true then some (i, x.di pre.length) else none) = some (j, D) := hv
      split at hv'
      · rename_i ho; cases hv'; obtain ⟨e1, e2⟩ := hopn ho; exact ⟨by omega, e1⟩
      · cases hv'
    · have := h.d1 it hm j D hv; exact ⟨by omega, this.2⟩
  · intro j hj
    by_cases hji : j < i
    · rw [h.v1 j hji]
      refine ⟨fun ⟨it, hm, D, e⟩ => ⟨it, by simp [hm], D, e⟩, fun ⟨it, hm, D, e⟩ => ?_⟩
      rcases List.mem_cons.mp hm with rfl | hm
      · have e' : (if x.op = true then some (i, x.di pre.length) else none) = some (j, D) := e
        split at e'
        · cases e'; omega
        · cases e'
      · exact ⟨it, hm, D, e⟩
    · rcases hcase with ⟨_, e2⟩ | ⟨e, e2, _⟩
      · omega
      · have hji' : j = i := by omega
        subst hji'
        obtain ⟨v1, v2, v3⟩ := h.v2 j _ (Nat.le_refl _) (h.hdel e).2.1
        have hne : 0 < x.raw.length := List.length_pos_iff.mpr (G.ok.ne x (List.mem_of_getElem? h.at_pre))
        rw [v1, v2]
        have hc : (x.di pre.length).co = x.op := rfl
        have hL : ((x.di pre.length).L : Int) = x.raw.length := rfl
        rw [hc, hL]
        refine ⟨fun ⟨e1, _⟩ => ⟨.txt pre.length x j, by simp, x.di pre.length, (if_pos e1 : (if x.op = true then some (j, x.di pre.length) else none) = _)⟩, fun ⟨it, hm, D, e⟩ => ?_⟩
        rcases List.mem_cons.mp hm with rfl | hm
        · have e' : (if x.op = true then some (j, x.di pre.length) else none) = some (j, D) := e
          split at e'
          · rename_i ho; exact ⟨ho, by omega⟩
          · cases e'
        · have := (h.d1 it hm j D e).1; omega
  · intro o p j hm ho
    rcases List.mem_cons.mp hm with e | hm
    · cases e
      obtain ⟨e1, _⟩ := hopn ho
      exact (h.v2 i _ (Nat.le_refl _) e1).1
    · exact h.v1' o p j hm ho
  · intro j D hj hD
    exact h.v2 j D (by omega) hD
  · refine List.pairwise_cons.mpr ⟨fun early hm => ⟨fun j D j' D' e1 e2 => ?_, fun mk hs o p j hq hp => ?_⟩, h.pw⟩
    · have e' : (if x.op = true then some (i, x.di pre.length) else none) = some (j, D) := e1
      split at e'
      · cases e'; exact (h.d1 early hm j' D' e2).1
      · cases e'
    · subst hq
      obtain ⟨s1, s2, s3⟩ : x.op = true ∧ x.cl = true ∧ x.raw.headD 0 = mk := hs
      rcases hcase with ⟨e, _⟩ | ⟨_, _, e⟩
      · rw [AP.cl_del s2] at e; cases e
      · rw [← s3]; exact e s2 o p j hm hp
  · intro e he
    obtain ⟨mk, n, h1, h2, h3, h4⟩ := h.bi e he
    exact ⟨mk, n, h1, h2, by omega, h4⟩
  · rw [hrun, List.map_cons]
    show rms ((if x.op = true then RI.opn x.raw else RI.str x.raw) :: _) = _
    split <;> rw [← h.ms] <;> rfl
end
end P1
end Mine
end

/-! W16 -/
section
open PySem PySem.W PyProof.Rows
set_option linter.unusedVariables false
set_option linter.unusedSimpArgs false
namespace Mine
namespace P1
theorem wr_eq {L : Nat} {r c : List Nat} (h : r.length = L) : wrapS (if L = 2 then T_strong else T_emph) c = wr r c := by
  subst h
  unfold wr wrapS
  by_cases h : r.length = 2
  · rw [if_pos h, if_pos h, if_neg (by decide)]
  · rw [if_neg h, if_neg h, if_pos rfl]
theorem ty_or {L : Nat} : (if L = 2 then T_strong else T_emph) = T_emph ∨ (if L = 2 then T_strong else T_emph) = T_strong := by
  split
  · exact .inr rfl
  · exact .inl rfl
theorem wdS_pos {B : List It} (h : B ≠ []) : 1 ≤ wdS B := by
  cases B with
  | nil => exact absurd rfl h
  | cons it B => cases it <;> simp [wdS, It.wd] <;> omega
/-- the delimiter that the closing run would still find in the node's place -/
def stOf : List It → Option (Nat × DI)
  | [.txt o p k] => if p.op = true then some (k, p.di o) else none
  | _ => none
theorem wdS_one {B : List It} (h : wdS B = 1) : ∃ o p k, B = [.txt o p k] := by
  cases B with
  | nil => cases h
  | cons it B =>
    cases it with
    | nod t st => simp [wdS, It.wd] at h; omega
    | txt o p k =>
      cases B with
      | nil => exact ⟨o, p, k, rfl⟩
      | cons it' B => have := wdS_pos (B := it' :: B) (by simp); simp [wdS, It.wd] at h this; omega
theorem stOf_none {B : List It} (h : wdS B ≠ 1) : stOf B = none := by
  unfold stOf
  split
  · exact absurd rfl h
  · rfl
section
variable {c : PG} {i : Nat} {pre suf : List AP} {x : AP} {A B : List It} {pa pm psuf N N' : List Nat} {T T' : List Int} {len len' : Nat → Int} {co cc : Nat → Bool} {es : List (TKey × Int)} {z zA z2 : Nat} {σ σ' : St} {o j a b nn cA : Nat} {p : AP}
theorem PS.matchd (G : PGok c) (h : PS c i pre (x :: suf) (B ++ .txt o p j :: A) ((pa ++ [a]) ++ pm) (b :: psuf) N T len co cc es z σ) (hp : p.op = true) (hxd : x.cl = true) (hmk : p.raw.headD 0 = x.raw.headD 0)
    (hno : ∀ o' p' j', It.txt o' p' j' ∈ B → p'.op = true → p'.raw.headD 0 ≠ x.raw.headD 0) (hB : B ≠ []) (hpm : pm.length = wdS B)
    (hlA : LayR σ (c.sp ++ ((pa ++ [a]) ++ pm ++ b :: psuf)) T i pa A zA) (hz : zA + (z2 + 1) = z)
    (hTs : ∀ X'' : List Nat, (∀ e ∈ X'', e ∈ c.sp ++ ((pa ++ [a]) ++ pm ++ b :: psuf)) → (∀ e ∈ pm, e ∉ X'') → Tolds σ X'' pm (tellI B) i z2)
    (hst : ∀ o' p' k, B = [.txt o' p' k] → curT T o' = (pa.length : Int) + 1)
    (hcA : σ[cA]? = some (.list (pm.map .ref))) (hcn : cA ∉ c.sp ++ ((pa ++ [a]) ++ pm ++ b :: psuf))
    (f : Fr (c.p :: a :: b :: c.t :: c.nx :: c.ds) σ σ') (hnn : σ.length ≤ nn) (hp' : σ'[c.p]? = some (.list (((pa ++ [a, nn, b]) ++ psuf).map .ref))) (hn' : σ'[nn]? = some (dNode (if x.raw.length = 2 then T_strong else T_emph) cA)) (ha' : σ'[a]? = some (dText [])) (hb' : σ'[b]? = some (dText []))
    (hmi : MI c.m c.q c.t c.nx c.nd N' c.ds c.dis T' len' (put co j false) (put cc i false) σ') (hT'l : T'.length = T.length) (hT' : ∀ o', o' < c.aps.length → curT T' o' = curT T o' - if pre.length ≤ o' then ((wdS B : Int) - 1) else 0)
    (l1 : ∀ k, k = j ∨ k = i → len' k = 0) (l2 : wdS B ≠ 1 → ∀ k, j < k → k < i → len' k = 0) (l3 : ∀ k, k ≠ j → k ≠ i → (wdS B = 1 ∨ ¬ (j < k ∧ k < i)) → len' k = len k) (hbA : c.bA ∉ c.p :: a :: b :: c.t :: c.nx :: c.ds) :
    PS c (i + 1) (pre ++ [x]) suf (.nod (wr x.raw (tellI B)) (stOf B) :: A) (pa ++ [a, nn, b]) psuf N' T' len' (put co j false) (put cc i false) es (z + 2) σ' := by
  have hdel := h.hdel (AP.cl_del hxd)
  have hl' : (pre ++ [x]).length = pre.length + 1 := by simp
  have hjm : It.txt o p j ∈ B ++ .txt o p j :: A := by simp
  have hjv : (It.txt o p j).vO = some (j, p.di o) := (if_pos hp : (if p.op = true then some (j, p.di o) else none) = _)
  obtain ⟨hji, hDj⟩ := h.d1 _ hjm j _ hjv
  have htx := h.tx o p j hjm
  have hpwA := (List.pairwise_cons.mp (List.pairwise_append.mp h.pw).2.1)
  have hpwB : ∀ b' ∈ B, ∀ a' ∈ (It.txt o p j :: A), PW b' a' := fun b' hb' a' ha' => (List.pairwise_append.mp h.pw).2.2 b' hb' a' ha'
  have ordA : ∀ it ∈ A, ∀ k D, it.vO = some (k, D) → k < j := fun it hm k D e => (hpwA.1 it hm).1 _ _ _ _ hjv e
  have ordB : ∀ it ∈ B, ∀ k D, it.vO = some (k, D) → j < k := fun it hm k D e => (hpwB it hm _ (by simp)).1 _ _ _ _ e hjv
  have stB : ∀ k D, stOf B = some (k, D) → ∃ o' p', B = [.txt o' p' k] ∧ p'.op = true ∧ D = p'.di o' := by
    intro k D e
    unfold stOf at e
    split at e
    · split at e
      · rename_i o' p' k' ho; cases e; exact ⟨o', p', rfl, ho, rfl⟩
      · cases e
    · cases e
  have stv : ∀ k D, stOf B = some (k, D) → ∃ it ∈ B, it.vO = some (k, D) := by
    intro k D e
    obtain ⟨o', p', rfl, ho, rfl⟩ := stB k D e
    exact ⟨.txt o' p' k, by simp, (if_pos ho : (if p'.op = true then some (k, p'.di o') else none) = _)⟩
  -- the places
  have hnod := h.nod
  have hfull : (pa ++ [a]) ++ pm ++ b :: psuf = pa ++ (a :: (pm ++ b :: psuf)) := by simp
  rw [hfull] at hnod
  obtain ⟨nd1, nd2, nd3⟩ := List.nodup_append.mp hnod
  obtain ⟨nd4, nd5⟩ := List.nodup_cons.mp nd2
  obtain ⟨nd6, nd7, nd8⟩ := List.nodup_append.mp nd5
  obtain ⟨nd9, nd10⟩ := List.nodup_cons.mp nd7
  have splt : ∀ e ∈ c.sp, e < σ.length := by
    intro e he
    simp only [PG.sp, List.mem_append, List.mem_cons, List.not_mem_nil, or_false] at he
    rcases he with (rfl | rfl | rfl | rfl | rfl | rfl) | he
    · exact get_lt h.hp
    · exact get_lt h.mi.hq
    · exact get_lt h.mi.hm
    · exact get_lt h.mi.ht
    · exact get_lt h.mi.hn
    · exact get_lt h.hb
    · obtain ⟨k, hk⟩ := List.getElem?_of_mem he
      obtain ⟨D, _, g⟩ := h.mi.hD.at hk
      exact get_lt g
  have hmut : ∀ e ∈ c.p :: a :: b :: c.t :: c.nx :: c.ds, e ∈ c.sp ∨ e = a ∨ e = b := by
    intro e he
    simp only [List.mem_cons] at he
    rcases he with rfl | rfl | rfl | rfl | rfl | he
    · exact .inl (by simp [PG.sp])
    · exact .inr (.inl rfl)
    · exact .inr (.inr rfl)
    · exact .inl (by simp [PG.sp])
    · exact .inl (by simp [PG.sp])
    · exact .inl (by simp [PG.sp, he])
  have ex : ∀ e ∈ (pa ++ [a]) ++ pm ++ b :: psuf, e < σ.length := by
    intro e he
    rcases List.mem_append.mp he with he | he
    · have hl := h.lay
      rw [← List.append_nil (B ++ It.txt o p j :: A)] at hl
      obtain ⟨pa', pm', z1, z2, e1, e2, _, _, _, e6, _⟩ := hl.split
      cases e2
      rw [List.nil_append] at e1
      rw [e1] at he
      rcases e6 e he with ⟨s, g⟩ | ⟨ty, cc, g, _⟩ <;> exact get_lt g
    · obtain ⟨k, hk⟩ := List.getElem?_of_mem he
      obtain ⟨p', _, g⟩ := h.sf.get hk
      exact get_lt g
  have dja : ∀ e ∈ (pa ++ [a]) ++ pm ++ b :: psuf, e ∉ c.sp := h.dj
  have keep0 : ∀ e, e ∉ c.sp → e ≠ a → e ≠ b → ∀ ob, σ[e]? = some ob → σ'[e]? = some ob := fun e h1 h2 h3 ob hob => f.get hob fun q => by
    rcases hmut e q with q | q | q
    · exact h1 q
    · exact h2 q
    · exact h3 q
  have keepA : ∀ e ∈ pa, ∀ ob, σ[e]? = some ob → σ'[e]? = some ob := fun e he => keep0 e (dja e (by simp [he])) (fun q => nd3 e he a (by simp) q) (fun q => nd3 e he b (by simp) q)
  have keepM : ∀ e ∈ pm, ∀ ob, σ[e]? = some ob → σ'[e]? = some ob := fun e he => keep0 e (dja e (by simp [he])) (fun q => nd4 (by simp [← q, he])) (fun q => nd8 e he b (by simp) q)
  have keepS : ∀ e ∈ psuf, ∀ ob, σ[e]? = some ob → σ'[e]? = some ob := fun e he => keep0 e (dja e (by simp [he])) (fun q => nd4 (by simp [← q, he])) (fun q => nd9 (q ▸ he))
  have nnf : ∀ e, e < σ.length → e ≠ nn := fun e he q => by omega
  -- the new list of places
  have hX' : ∀ e, e ∈ c.sp ++ ((pa ++ [a, nn, b]) ++ psuf) → e = nn ∨ (e ∈ c.sp ++ ((pa ++ [a]) ++ pm ++ b :: psuf) ∧ e ∉ pm) := by
    intro e he
    simp only [List.mem_append, List.mem_cons, List.not_mem_nil, or_false] at he
    rcases he with he | (he | he | he | he) | he
    · exact .inr ⟨by simp [he], fun q => dja e (by simp [q]) he⟩
    · exact .inr ⟨by simp [he], fun q => nd3 e he e (by simp [q]) rfl⟩
    · exact .inr ⟨by simp [he], fun q => nd4 (by simp [← he, q])⟩
    · exact .inl he
    · exact .inr ⟨by simp [he], fun q => nd8 e q e (by simp [he]) rfl⟩
    · exact .inr ⟨by simp [he], fun q => nd8 e q e (by simp [he]) rfl⟩
  have pmX' : ∀ e ∈ pm, e ∉ c.sp ++ ((pa ++ [a, nn, b]) ++ psuf) := fun e he q => by
    rcases hX' e q with q | ⟨_, q⟩
    · exact nnf e (ex e (by simp [he])) q
    · exact q he
  have goX : ∀ (e : Nat) (ob : O), e ∉ c.sp ++ ((pa ++ [a]) ++ pm ++ b :: psuf) → σ[e]? = some ob → e ∉ c.sp ++ ((pa ++ [a, nn, b]) ++ psuf) ∧ σ'[e]? = some ob := by
    intro e ob h1 h2
    refine ⟨fun q => ?_, keep0 e (fun q => h1 (by simp [q])) (fun q => h1 (by simp [q])) (fun q => h1 (by simp [q])) ob h2⟩
    rcases hX' e q with q | ⟨q, _⟩
    · exact nnf e (get_lt h2) q
    · exact h1 q
  -- the children tell the same
  have hTold : Tolds σ' (c.sp ++ ((pa ++ [a, nn, b]) ++ psuf)) pm (tellI B) i z2 := by
    have h1 := hTs (c.sp ++ (pa ++ (a :: b :: psuf))) (fun e he => by
      simp only [List.mem_append, List.mem_cons] at he
      rcases he with he | he | he | he | he <;> simp [he]) (fun e he q => by
      refine pmX' e he ?_
      simp only [List.mem_append, List.mem_cons] at q
      rcases q with q | q | q | q | q <;> simp [q])
    refine Tolds.go (fun e ob h2 h3 => ?_) h1
    have h4 : e ∉ c.sp ++ ((pa ++ [a, nn, b]) ++ psuf) := by
      intro q
      simp only [List.mem_append, List.mem_cons, List.not_mem_nil, or_false] at q
      rcases q with q | (q | q | q | q) | q
      · exact h2 (by simp [q])
      · exact h2 (by simp [q])
      · exact h2 (by simp [q])
      · exact nnf e (get_lt h3) q
      · exact h2 (by simp [q])
      · exact h2 (by simp [q])
    exact ⟨h4, keep0 e (fun q => h2 (by simp [q])) (fun q => h2 (by simp [q])) (fun q => h2 (by simp [q])) ob h3⟩
  have hraw : p.raw = x.raw := G.ok.same p (List.mem_of_getElem? htx.1) x (List.mem_of_getElem? h.at_pre) (AP.op_del hp) (AP.cl_del hxd) hmk
  have hnode : Told σ' (c.sp ++ ((pa ++ [a, nn, b]) ++ psuf)) nn (wr x.raw (tellI B)) (i + 1) (z2 + 1) := by
    rw [← wr_eq (L := x.raw.length) rfl]
    refine .node hn' ty_or (goX cA _ hcn hcA).1 (goX cA _ hcn hcA).2 hTold
  have hxpre : pre.length < c.aps.length := by rw [h.aps]; simp
  have curA : ∀ o', o' < pre.length → curT T' o' = curT T o' := fun o' ho => by rw [hT' o' (by omega), if_neg (by omega)]; omega
  have hlen' : ((pa ++ [a]) ++ pm).length = pa.length + 1 + wdS B := by simp [hpm]; omega
  refine { aps := by rw [h.aps]; simp, dl := by rw [hl']; exact hdel.2.2, il := hdel.1, hp := hp', hb := f.get h.hb hbA, mi := hmi, lay := ?_, sf := ?_, nod := ?_, dj := ?_, nz := ?_, tl := hT'l.trans h.tl, cur := ?_, rc := ?_, tx := ?_, ats := ?_, d1 := ?_, v1 := ?_, v1' := ?_, v2 := ?_, pw := ?_, bi := ?_, bl := by have := h.bl; omega, ms := ?_, zl := by have := h.zl; simp; omega }
  · have hA := hlA.go (X' := c.sp ++ ((pa ++ [a, nn, b]) ++ psuf)) (T' := T') goX (Nat.le_succ i) keepA (fun it hm o' ho => curA o' (h.ats it (by simp [hm]) o' ho))
    have := LayR.nod (st := stOf B) hA ha' hn' ty_or hnode hb' (fun o' ho => ?_)
    · rw [show z + 2 = zA + (z2 + 1) + 2 by omega]; exact this
    · cases hs : stOf B with
      | none => rw [hs] at ho; simp [It.at] at ho
      | some kD =>
        obtain ⟨k, D⟩ := kD
        rw [hs] at ho
        obtain ⟨o2, p2, hB2, hop2, rfl⟩ := stB k D hs
        have ho' : o' = o2 := by simpa [It.at, AP.di] using ho
        subst ho'
        rw [curA o' (h.tx o' p2 k (by rw [hB2]; simp)).2]
        exact hst o' p2 k hB2
  · have hs := h.sf
    cases hs with
    | cons e r =>
      have : ∀ {l : List Nat} {r : List AP}, All2 (fun a (p : AP) => σ[a]? = some (dText p.raw)) l r → (∀ a ∈ l, a ∈ psuf) → All2 (fun a (p : AP) => σ'[a]? = some (dText p.raw)) l r := by
        intro l r h
        induction h with
        | nil => intro _; exact .nil
        | cons e _ ih => intro hl; exact .cons (keepS _ (hl _ (by simp)) _ e) (ih fun a ha => hl a (by simp [ha]))
      exact this r fun a ha => ha
  · have e1 : (pa ++ [a, nn, b]) ++ psuf = pa ++ (a :: nn :: b :: psuf) := by simp
    rw [e1]
    refine List.nodup_append.mpr ⟨nd1, List.nodup_cons.mpr ⟨fun q => ?_, List.nodup_cons.mpr ⟨fun q => ?_, nd7⟩⟩, fun e he e' he' q => ?_⟩
    · rcases List.mem_cons.mp q with q | q
      · exact nnf a (ex a (by simp)) q
      · exact nd4 (List.mem_append.mpr (.inr q))
    · exact nnf nn (ex nn (by simp only [List.mem_append]; exact .inr q)) rfl
    · subst q
      rcases List.mem_cons.mp he' with q | q
      · exact nd3 e he a (by simp) q
      · rcases List.mem_cons.mp q with q | q
        · exact nnf e (ex e (by simp [he])) q
        · exact nd3 e he e (List.mem_cons_of_mem _ (List.mem_append.mpr (.inr q))) rfl
  · intro e he q
    rcases hX' e (List.mem_append.mpr (.inr he)) with r | ⟨r, _⟩
    · have := splt e q; omega
    · rcases List.mem_append.mp r with r2 | r2
      · simp only [List.mem_append, List.mem_cons, List.not_mem_nil, or_false] at he
        rcases he with (he | he | he | he) | he
        · exact dja e (by simp [he]) q
        · exact dja e (by simp [he]) q
        · have := splt e q; omega
        · exact dja e (by simp [he]) q
        · exact dja e (by simp [he]) q
      · exact dja e r2 q
  · intro e he
    simp only [List.mem_append, List.mem_cons, List.not_mem_nil, or_false] at he
    rcases he with (he | he | he | he) | he
    · exact h.nz e (by simp [he])
    · exact h.nz e (by simp [he])
    · have := splt c.p (by simp [PG.sp]); omega
    · exact h.nz e (by simp [he])
    · exact h.nz e (by simp [he])
  · intro o' h1 h2
    rw [hl'] at h1
    rw [hT' o' h2, if_pos (by omega), h.cur o' (by omega) h2, hlen', hl']
    have := wdS_pos hB
    simp; omega
  · obtain ⟨n1, hr1⟩ := RC_drop h.rc
    exact ⟨o, hr1.2⟩
  · intro o' p' j' hm
    rcases List.mem_cons.mp hm with e | hm
    · cases e
    · have := h.tx o' p' j' (by simp [hm]); exact ⟨this.1, by omega⟩
  · intro it hm o' ho
    rcases List.mem_cons.mp hm with rfl | hm
    · cases hs : stOf B with
      | none => rw [hs] at ho; simp [It.at] at ho
      | some kD =>
        obtain ⟨k, D⟩ := kD
        rw [hs] at ho
        obtain ⟨o2, p2, hB2, hop2, rfl⟩ := stB k D hs
        have ho' : o' = o2 := by simpa [It.at, AP.di] using ho
        have := (h.tx o2 p2 k (by rw [hB2]; simp)).2
        omega
    · have := h.ats it (by simp [hm]) o' ho; omega
  · intro it hm k D e
    rcases List.mem_cons.mp hm with rfl | hm
    · obtain ⟨it2, hm2, e2⟩ := stv k D e
      have := h.d1 it2 (by simp [hm2]) k D e2
      exact ⟨by omega, this.2⟩
    · have := h.d1 it (by simp [hm]) k D e; exact ⟨by omega, this.2⟩
  · intro k hk
    by_cases hkj : k = j
    · subst hkj
      rw [put_same]
      refine ⟨fun ⟨e, _⟩ => (by cases e), fun ⟨it, hm, D, e⟩ => ?_⟩
      rcases List.mem_cons.mp hm with rfl | hm
      · obtain ⟨it2, hm2, e2⟩ := stv k D e
        have := ordB it2 hm2 k D e2; omega
      · have := ordA it hm k D e; omega
    · rw [put_ne hkj]
      by_cases hki : k = i
      · subst hki
        rw [l1 k (.inr rfl)]
        refine ⟨fun ⟨_, e⟩ => by omega, fun ⟨it, hm, D, e⟩ => ?_⟩
        rcases List.mem_cons.mp hm with rfl | hm
        · obtain ⟨it2, hm2, e2⟩ := stv k D e
          have := (h.d1 it2 (by simp [hm2]) k D e2).1; omega
        · have := ordA it hm k D e; omega
      · have hki' : k < i := by omega
        by_cases hjk : j < k
        · by_cases hw : wdS B = 1
          · rw [l3 k hkj hki (.inl hw), h.v1 k hki']
            obtain ⟨o2, p2, k2, hB2⟩ := wdS_one hw
            refine ⟨fun ⟨it, hm, D, e⟩ => ?_, fun ⟨it, hm, D, e⟩ => ?_⟩
            · rcases List.mem_append.mp hm with hm | hm
              · rw [hB2, List.mem_singleton] at hm
                subst hm
                refine ⟨.nod (wr x.raw (tellI B)) (stOf B), by simp, D, ?_⟩
                have e' : (if p2.op = true then some (k2, p2.di o2) else none) = some (k, D) := e
                show stOf B = some (k, D)
                rw [hB2]; exact e'
              · rcases List.mem_cons.mp hm with rfl | hm
                · rw [hjv] at e; cases e; exact absurd rfl hkj
                · have := ordA it hm k D e; omega
            · rcases List.mem_cons.mp hm with rfl | hm
              · obtain ⟨it2, hm2, e2⟩ := stv k D e
                exact ⟨it2, by simp [hm2], D, e2⟩
              · exact ⟨it, by simp [hm], D, e⟩
          · rw [l2 hw k hjk hki']
            refine ⟨fun ⟨_, e⟩ => by omega, fun ⟨it, hm, D, e⟩ => ?_⟩
            rcases List.mem_cons.mp hm with rfl | hm
            · have e' : stOf B = some (k, D) := e
              rw [stOf_none hw] at e'; cases e'
            · have := ordA it hm k D e; omega
        · rw [l3 k hkj hki (.inr (by omega)), h.v1 k hki']
          refine ⟨fun ⟨it, hm, D, e⟩ => ?_, fun ⟨it, hm, D, e⟩ => ?_⟩
          · rcases List.mem_append.mp hm with hm | hm
            · have := ordB it hm k D e; omega
            · rcases List.mem_cons.mp hm with rfl | hm
              · rw [hjv] at e; cases e; exact absurd rfl hkj
              · exact ⟨it, by simp [hm], D, e⟩
          · rcases List.mem_cons.mp hm with rfl | hm
            · obtain ⟨it2, hm2, e2⟩ := stv k D e
              exact ⟨it2, by simp [hm2], D, e2⟩
            · exact ⟨it, by simp [hm], D, e⟩
  · intro o' p' j' hm ho
    rcases List.mem_cons.mp hm with e | hm
    · cases e
    · have hv : (It.txt o' p' j').vO = some (j', p'.di o') := (if_pos ho : (if p'.op = true then some (j', p'.di o') else none) = _)
      have := ordA _ hm j' _ hv
      rw [l3 j' (by omega) (by omega) (.inr (by omega))]
      exact h.v1' o' p' j' (by simp [hm]) ho
  · intro k D hk hD
    have := h.v2 k D (by omega) hD
    rw [l3 k (by omega) (by omega) (.inr (by omega)), put_ne (by omega), put_ne (by omega)]
    exact this
  · refine List.pairwise_cons.mpr ⟨fun early hm => ⟨fun k D k' D' e1 e2 => ?_, fun mk hs o' p' j' hq hp' => ?_⟩, hpwA.2⟩
    · have h1 := ordA early hm k' D' e2
      obtain ⟨it2, hm2, e3⟩ := stv k D e1
      have h2 := ordB it2 hm2 k D e3
      omega
    · subst hq
      obtain ⟨k, D, e1, e2⟩ : ∃ k D, stOf B = some (k, D) ∧ D.m = mk := hs
      obtain ⟨o2, p2, hB2, hop2, rfl⟩ := stB k D e1
      -- the run between stands between two signs
      have hrc := h.rc
      rw [hB2] at hrc
      obtain ⟨r1, r2, _⟩ : o2 + 1 = pre.length ∧ o + 1 = o2 ∧ RC o A := hrc
      have t2 := (h.tx o2 p2 k (by rw [hB2]; simp)).1
      have hmid := G.ok.mid o p p2 x htx.1 (by rw [r2]; exact t2) (by rw [show o + 2 = pre.length by omega]; exact h.at_pre) (AP.op_del hp) (AP.op_del hop2) (AP.cl_del hxd)
      have hpw2 := (hpwB (.txt o2 p2 k) (by rw [hB2]; simp) _ (List.mem_cons_of_mem _ hm)).2 mk ⟨hop2, hmid.2, e2⟩
      exact hpw2 o' p' j' rfl hp'
  · intro e he
    obtain ⟨mk, n, h1, h2, h3, h4⟩ := h.bi e he
    refine ⟨mk, n, h1, h2, by omega, fun k hk hv => h4 k hk ?_⟩
    obtain ⟨D, v1, v2, v3, v4⟩ := hv
    by_cases hkj : k = j
    · subst hkj; rw [put_same] at v3; cases v3
    · rw [put_ne hkj] at v3
      refine ⟨D, v1, v2, v3, ?_⟩
      by_cases hki : k = i
      · rw [l1 k (.inr hki)] at v4; omega
      · by_cases hw : wdS B = 1 ∨ ¬ (j < k ∧ k < i)
        · rw [l3 k hkj hki hw] at v4; exact v4
        · have : wdS B ≠ 1 ∧ j < k ∧ k < i := by
            refine ⟨fun q => hw (.inl q), ?_⟩
            by_cases q : j < k ∧ k < i
            · exact q
            · exact absurd (.inr q) hw
          rw [l2 this.1 k this.2.1 this.2.2] at v4; omega
  · rw [runM_snoc, ← h.ms]
    have e1 : (B ++ It.txt o p j :: A).map It.ri = B.map It.ri ++ RI.opn x.raw :: A.map It.ri := by
      rw [List.map_append, List.map_cons]
      congr 2
      show (if p.op = true then RI.opn p.raw else RI.str p.raw) = _
      rw [if_pos hp, hraw]
    rw [e1]
    unfold stepM
    rw [if_pos hxd, pop_at]
    · simp only [List.append_nil]; rfl
    · intro it hit
      obtain ⟨y, hy, rfl⟩ := List.mem_map.mp hit
      cases y with
      | nod t st => intro q; cases q
      | txt o' p' j' =>
        intro q
        by_cases hp2 : p'.op = true
        · have q' : (if p'.op = true then RI.opn p'.raw else RI.str p'.raw) = RI.opn x.raw := q
          rw [if_pos hp2] at q'
          injection q' with q'
          exact hno o' p' j' hy hp2 (by rw [q'])
        · have q' : (if p'.op = true then RI.opn p'.raw else RI.str p'.raw) = RI.opn x.raw := q
          rw [if_neg hp2] at q'; cases q'
end
end P1
end Mine
end

/-! W17 -/
section
open PySem PySem.W PyProof.Rows
set_option linter.unusedVariables false
set_option linter.unusedSimpArgs false
namespace Mine
local macro_rules | `(tactic| one_place) => `(tactic| first | assumption | (simp only [Loc.set, params_cons, params_nil, String.reduceEq, if_true, if_false, reduceIte]; first | rfl | assumption))
local macro_rules | `(tactic| one_item) => `(tactic| first | assumption | exact get_last | (apply get_app; (one_item)) | (apply get_set_eq; (one_item)) | (apply get_set_ne; (first | assumption | omega); (one_item)))
local macro_rules | `(tactic| leaf_len) => `(tactic| first | assumption | rfl | (focus (simp; done)))
local macro_rules | `(tactic| l_ints) => `(tactic| first | assumption | (apply idx_list; (one_item); rfl; (assumption)) | (apply idx_tuple; (one_item); rfl; (assumption)) | (apply idx_list (k := 0); (one_item); rfl; rfl) | (apply idx_tuple (k := 0); (one_item); rfl; rfl) | (apply idx_tuple (k := 1); (one_item); rfl; rfl) | exact idx_str rfl (by assumption))
local macro_rules | `(tactic| pv_eval) => `(tactic| first
  | exact e_int | exact e_str | exact e_bool | exact e_non | exact e_nil
  | (apply e_var; (one_place))
  | (apply e_attr; (pv_eval); (one_item); (leaf_len))
  | (apply e_dget; (pv_eval); (one_item); (leaf_len))
  | (apply e_dhas; (pv_eval); (one_item); (leaf_len))
  | (apply e_dhasnt; (pv_eval); (one_item); (leaf_len))
  | (apply e_dgetd; (pv_eval); (one_item); (pv_eval); (leaf_len))
  | (apply e_sub; (pv_eval); (pv_eval); (l_ints))
  | (apply e_cmp; (pv_eval); (pv_eval); (leaf_len))
  | (apply e_bin; (pv_eval); (pv_eval); (leaf_len))
  | (apply e_lnot; (pv_eval); (one_sign))
  | (apply e_neg; (pv_eval))
  | (apply e_isNone; (pv_eval))
  | (apply e_ands; (modx_arm))
  | (apply e_ors; (modx_arm))
  | (apply e_iteT; (pv_eval); (one_sign); (pv_eval))
  | (apply e_iteF; (pv_eval); (one_sign); (pv_eval))
  | (apply e_list; (mod_arm))
  | (apply e_tuple; (mod_arm))
  | (apply e_dict; (o_shape))
  | exact e_tdict
  | (apply e_bcall; (mod_arm); (first | assumption | (apply len_list; (one_item)) | rfl))
  | (apply e_call; (mod_arm); (assumption))
  | (apply e_slice; (pv_eval); (pv_eval); (pv_eval); (assumption))
  | (apply e_bmeth; (pv_eval); (first | assumption | (apply mOk_str; (focus (simp; done))) | (apply mOk_list; (one_item); (focus (simp; done)))); (mod_arm); (first | assumption | rfl)))
local macro_rules | `(tactic| modx_arm) => `(tactic| first
  | (apply b_last; (pv_eval))
  | (apply b_go; (pv_eval); (one_sign); (modx_arm))
  | (apply b_stop; (pv_eval); (one_sign)))
local macro_rules | `(tactic| mod_arm) => `(tactic| first | exact l_nil | (apply l_cons; (pv_eval); (mod_arm)))
local macro_rules | `(tactic| o_shape) => `(tactic| first | exact kv_nil | (apply kv_cons; (pv_eval); (o_shape)))
local macro_rules | `(tactic| one_sign) => `(tactic| first | rfl | assumption | exact (truthy_list (by one_item)).trans rfl | (refine congrArg some ?_; first | (apply decide_eq_true; (omega)) | (apply decide_eq_false; (omega)) | assumption | (focus (simp; done)) | (focus (simp; omega)) | (focus (simp [*]; done))))
namespace P1
variable {d : Nat}
/-- the other lists stay -/
def KL (X : List Nat) (σ σ' : St) : Prop := ∀ (g : Nat) (vs : List V), σ[g]? = some (O.list vs) → g ∉ X → σ'[g]? = some (O.list vs)
theorem KL.trans {X : List Nat} {σ σ1 σ2 : St} (h : KL X σ σ1) (h' : KL X σ1 σ2) : KL X σ σ2 := fun g vs e n => h' g vs (h g vs e n) n
theorem Fr.kl {X : List Nat} {σ σ' : St} (f : Fr [] σ σ') : KL X σ σ' := fun g vs e _ => f.get0 e
theorem KL.set {X : List Nat} {σ : St} {n : Nat} {o : O} (h : n ∈ X ∨ ∀ vs, σ[n]? ≠ some (O.list vs)) : KL X σ (σ.set n o) := fun g vs e hn => get_set_ne (by
  rintro rfl
  rcases h with h | h
  · exact hn h
  · exact h vs e) e
abbrev pbody : S := match f_process_emphasis_delimiters.body with | .seq _ (.seq _ (.seq _ (.seq (.whileS _ b) _))) => b | s => s
structure PL (c : PG) (i : Nat) (ℓ : Loc) : Prop where
  l1 : ℓ "delimiters" = some (.ref c.q)
  l2 : ℓ "parts" = some (.ref c.p)
  l3 : ℓ "index_map" = some (.ref c.m)
  l4 : ℓ "openers_bottom" = some (.ref c.bA)
  l5 : ℓ "max_depth" = some (.int 20)
  l6 : ℓ "closer_pos" = some (.int (i : Nat))
theorem dl_mem : ∀ {l : List AP} {o : Nat} {D : DI}, D ∈ dl o l → ∃ p ∈ l, ∃ o', p.del = true ∧ D = p.di o'
  | [], _, _, h => by cases h
  | p :: l, o, D, h => by
    unfold dl at h
    split at h
    · rename_i hp
      rcases List.mem_cons.mp h with rfl | h
      · exact ⟨p, by simp, o, hp, rfl⟩
      · obtain ⟨p', h1, h2⟩ := dl_mem h; exact ⟨p', by simp [h1], h2⟩
    · obtain ⟨p', h1, h2⟩ := dl_mem h; exact ⟨p', by simp [h1], h2⟩
theorem LayR.parts {σ : St} {X : List Nat} {T : List Int} {k : Nat} {ps : List Nat} {rl : List It} {z : Nat} (h : LayR σ X T k ps rl z) : ∀ e ∈ ps, PartAt σ e := by
  rw [← List.append_nil rl] at h
  obtain ⟨pa', pm', z1, z2, e1, e2, _, _, _, e6, _⟩ := h.split
  cases e2
  rw [List.nil_append] at e1
  rw [e1]; exact e6
theorem PartAt.fr {σ σ' : St} {e : Nat} (f : Fr [] σ σ') : PartAt σ e → PartAt σ' e
  | .inl ⟨s, g⟩ => .inl ⟨s, f.get0 g⟩
  | .inr ⟨ty, c, g, h⟩ => .inr ⟨ty, c, f.get0 g, h⟩
theorem cut_midV {A G B : List Nat} : cut (A ++ (G ++ B)) A.length (A.length + G.length) = G := cut_mid
theorem lookup_mem {q : TKey} {v : Int} : ∀ {es : List (TKey × Int)}, es.lookup q = some v → (q, v) ∈ es
  | [], h => by cases h
  | (a, b) :: r, h => by
    rw [List.lookup_cons] at h
    by_cases hq : (q == a) = true
    · rw [hq] at h
      have : q = a := eq_of_beq hq
      subst this; cases h; simp
    · have hq : (q == a) = false := by simpa using hq
      rw [hq] at h; exact List.mem_cons_of_mem _ (lookup_mem h)
theorem putT_mem {q : TKey} {v : Int} {es : List (TKey × Int)} {e : TKey × Int} (h : e ∈ putT es q v) : e ∈ es ∨ e = (q, v) := by
  unfold putT at h
  split at h
  · obtain ⟨e', h1, h2⟩ := List.mem_map.mp h
    split at h2
    · exact .inr h2.symm
    · exact .inl (h2 ▸ h1)
  · rcases List.mem_append.mp h with h | h
    · exact .inl h
    · exact .inr (List.mem_singleton.mp h)
theorem putT_len {q : TKey} {v : Int} {es : List (TKey × Int)} : (putT es q v).length ≤ es.length + 1 := by
  unfold putT; split <;> simp
theorem e_none {cf : CallF} {ℓ : Loc} {σ σ1 : St} {e : E} {v : V} {bb : Bool} (h : evalE cf e ℓ σ = some (v, σ1)) (hb : (v == V.none) = bb) : evalE cf (.isNone e) ℓ σ = some (.bool bb, σ1) := by rw [← hb]; exact e_isNone h
section
variable {c : PG} {i : Nat} {pre suf : List AP} {x : AP} {rl : List It} {pl psuf N : List Nat} {T : List Int} {len : Nat → Int} {co cc : Nat → Bool} {es : List (TKey × Int)} {z : Nat} {σ σ' : St}
theorem PS.bne (h : PS c i pre suf rl pl psuf N T len co cc es z σ) : c.p ≠ c.bA ∧ c.m ≠ c.bA ∧ c.q ≠ c.bA ∧ c.t ≠ c.bA ∧ c.nx ≠ c.bA ∧ c.bA ∉ c.ds := by
  have hb := h.hb
  refine ⟨fun e => ?_, fun e => ?_, fun e => ?_, fun e => ?_, fun e => ?_, fun e => ?_⟩
  · have := h.hp; rw [e, hb] at this; cases this
  · have := h.mi.hm; rw [e, hb] at this; cases this
  · have := h.mi.hq; rw [e, hb] at this; cases this
  · have := h.mi.ht; rw [e, hb] at this; cases this
  · have := h.mi.hn; rw [e, hb] at this; cases this
  · obtain ⟨k, hk⟩ := List.getElem?_of_mem e
    obtain ⟨D, _, g⟩ := h.mi.hD.at hk
    rw [hb] at g; cases g
theorem PS.grow (h : PS c i pre suf rl pl psuf N T len co cc es z σ) (f : Fr [] σ σ') : PS c i pre suf rl pl psuf N T len co cc es z σ' :=
  h.move (f.mono (by simp)) h.bne (f.get0 h.hb) h.bi h.bl
set_option maxHeartbeats 2000000 in
/-- one turn: the next delimiter -/
theorem s_iter (G : PGok c) (h : PS c i pre (x :: suf) rl pl psuf N T len co cc es z σ) (hx : x.del = true) {ℓ : Loc} (P : PL c i ℓ) :
    ∃ fl ℓ' σ', execS (callN prog (d + 4)) pbody ℓ σ = some (fl, ℓ', σ') ∧ (fl = .next ∨ fl = .cont) ∧ PL c (i + 1) ℓ' ∧ KL [c.p, c.t, c.nx] σ σ' ∧
      ∃ rl pl psuf N T len co cc es z, PS c (i + 1) (pre ++ [x]) suf rl pl psuf N T len co cc es z σ' := by
  obtain ⟨l1, l2, l3, l4, l5, l6⟩ := P
  obtain ⟨hil, hDi, hdr⟩ := h.hdel hx
  obtain ⟨ci, hci⟩ : ∃ a, c.ds[i]? = some a := ⟨_, List.getElem?_eq_getElem (by rw [h.mi.hD.n]; exact hil)⟩
  obtain ⟨D', hD', gci⟩ := h.mi.hD.at hci
  rw [hDi] at hD'; cases hD'
  obtain ⟨v1, v2, v3⟩ := h.v2 i _ (Nat.le_refl _) hDi
  rw [v1, v2, v3] at gci
  have gci : σ[ci]? = some (Dlm pre.length (x.raw.headD 0) (x.raw.length : Nat) x.op x.cl (x.raw.length : Nat) i) := gci
  have hciv : (c.ds.map V.ref)[i]? = some (.ref ci) := by simp [hci]
  have hq := h.mi.hq
  have hxm : x ∈ c.aps := List.mem_of_getElem? h.at_pre
  obtain ⟨mk, n, hmk, hn12, hraw⟩ := G.ok.run x hxm hx
  have hxl : x.raw.length = n := by rw [hraw]; simp
  have hhd : x.raw.headD 0 = mk := by rw [hraw]; rcases hn12 with rfl | rfl <;> rfl
  have hadd : augOp .add (.int (i : Nat)) (.int 1) = some (.int ((i + 1 : Nat) : Int)) := rfl
  rw [hxl, hhd] at gci
  by_cases hcl : x.cl = true
  · rw [hcl] at gci
    have hlen0 : cmpOp σ .eq (.int (n : Nat)) (.int 0) = some false := by show some (((n : Nat) : Int) == 0) = _; congr 1; simp; omega
    have hmod : binOp σ .mod (.int (n : Nat)) (.int 3) = some (.int (n : Nat), σ) := by rcases hn12 with rfl | rfl <;> rfl
    -- the key, the bottom
    let σ1 := σ ++ [O.tuple [.str [mk], .int (n : Nat), .bool x.op]]
    have f1 : Fr [] σ σ1 := Fr.app
    have h1 := h.grow f1
    have hkey : keyOf σ1 (.ref σ.length) = some ([mk], (n : Int), x.op) := by
      have : σ1[σ.length]? = some (.tuple [.str [mk], .int (n : Nat), .bool x.op]) := get_last
      simp only [keyOf, this]
    have hgT : getT σ1 c.bA = some es := by simp only [getT, h1.hb]
    obtain ⟨bt, hbt, hbi, hbv⟩ : ∃ bt : Nat, (es.lookup ([mk], (n : Int), x.op)).getD 0 = (bt : Int) ∧ bt ≤ i ∧ ∀ j, j < bt → ¬ vis c.dis len co mk j := by
      cases hl : es.lookup ([mk], (n : Int), x.op) with
      | none => exact ⟨0, rfl, Nat.zero_le _, fun j hj => by omega⟩
      | some v =>
        obtain ⟨mk', n', e1, e2, e3, e4⟩ := h.bi _ (lookup_mem hl)
        simp at e1 e2
        subst e1
        exact ⟨n', by simp [e2], e3, e4⟩
    have hget : builtinM σ1 (.ref c.bA) "get" [.ref σ.length, .int 0] = some (.int (bt : Nat), σ1) := by
      simp only [builtinM, hgT, hkey, Option.bind_eq_bind, Option.bind_some, hbt]
    have hmok : mOk σ1 (.ref c.bA) "get" = true := by simp [mOk, hgT]
    have hq1 := h1.mi.hq
    have hLs : ∀ D ∈ c.dis, D.m = (x.di pre.length).m → D.L = (x.di pre.length).L := by
      intro D hD hm
      rw [G.hd] at hD
      obtain ⟨p', hp', o', hpd, rfl⟩ := dl_mem hD
      have : p'.raw = x.raw := G.ok.same p' hp' x hxm hpd hx hm
      show p'.raw.length = x.raw.length
      rw [this]
    have hop := s_opener (d := d + 2) (b := bt) hq1 h1.mi.hD hDi hci hLs (by show x.raw.length = 1 ∨ x.raw.length = 2; omega) hbi (by have := G.mc.nd500; rw [G.mc.hnd] at this; exact this)
    have hmkd : (x.di pre.length).m = mk := hhd
    rw [hmkd] at hop
    -- an open run of this sign is seen
    have hvis : ∀ o p j, It.txt o p j ∈ rl → p.op = true → p.raw.headD 0 = x.raw.headD 0 → vis c.dis len co mk j ∧ j < i := by
      intro o p j hm hp hh
      have hv : (It.txt o p j).vO = some (j, p.di o) := (if_pos hp : (if p.op = true then some (j, p.di o) else none) = _)
      obtain ⟨e1, e2⟩ := h.d1 _ hm j _ hv
      have e3 := (h.v1 j e1).mpr ⟨_, hm, _, hv⟩
      exact ⟨⟨_, e2, by rw [← hhd, ← hh]; rfl, e3.1, e3.2⟩, e1⟩
    have hfirst : ∀ (s : S) (R : Option (Fl × Loc × St)), execS (callN prog (d + 4)) s (((ℓ.set "closer" (.ref ci)).set "opener_key" (.ref σ.length)).set "opener_bottom" (.int (bt : Nat))) σ1 = R →
        execS (callN prog (d + 4)) (.seq (.assign (.one "closer") (.sub (.var "delimiters") (.var "closer_pos"))) (.seq (.ifS (.ors (.cons (.lnot (.attr (.var "closer") "can_close")) (.cons (.cmp .eq (.attr (.var "closer") "length") (.int 0)) .nil))) (.seq (.aug "closer_pos" .add (.int 1)) (.seq .contS .done)) .done)
          (.seq (.assign (.one "opener_key") (.tuple (.cons (.attr (.var "closer") "marker") (.cons (.bin .mod (.attr (.var "closer") "length") (.int 3)) (.cons (.attr (.var "closer") "can_open") .nil))))) (.seq (.assign (.one "opener_bottom") (.bmeth (.var "openers_bottom") "get" (.cons (.var "opener_key") (.cons (.int 0) .nil)))) s)))) ℓ σ = R := fun s R k =>
      seqN (x_assign (by pv_eval)) (seqN (x_ifF (v := .bool false) (by pv_eval) (by one_sign) x_done) (seqN (x_assign (by pv_eval)) (seqN (x_assign (by pv_eval)) k)))
    rcases hop with ⟨hcall, hnone⟩ | ⟨j, oa, hj1, hj2, hoa, hvj, hbetw, hcall⟩
    · -- none is found
      have hset : setItemF σ1 (.ref c.bA) (.ref σ.length) (.int (i : Nat)) = some (σ1.set c.bA (.tdict (putT es ([mk], (n : Int), x.op) (i : Nat)))) := by
        simp only [setItemF, hgT, hkey, Option.bind_eq_bind, Option.bind_some]
        rw [if_pos ⟨by have := h.bl; have := G.mc.nd500; have := G.mc.hnd; omega, G.b0⟩]
      have hno : ∀ j, j < i → ¬ vis c.dis len co mk j := fun j hj => by
        by_cases hjb : j < bt
        · exact hbv j hjb
        · exact hnone j (by omega) hj
      obtain ⟨pl', psuf', e1, hps⟩ := h1.push G (i' := i + 1) (.inr ⟨hx, rfl, fun _ o p j hm hp hh => by
        obtain ⟨q1, q2⟩ := hvis o p j hm hp hh
        exact hno j q2 q1⟩)
      have hfin := hps.move (σ' := σ1.set c.bA (.tdict (putT es ([mk], (n : Int), x.op) (i : Nat)))) (es' := putT es ([mk], (n : Int), x.op) (i : Nat)) (Fr.set (.inl (by simp))) hps.bne (get_set_eq hps.hb) (fun e he => by
        rcases putT_mem he with he | rfl
        · exact hps.bi e he
        · exact ⟨mk, i, rfl, rfl, by omega, hno⟩) (by have := putT_len (q := ([mk], (n : Int), x.op)) (v := (i : Nat)) (es := es); have := h.bl; omega)
      refine ⟨.cont, _, _, hfirst _ _ (seqN (x_assign (e_call (by mod_arm) hcall)) (seqC (x_ifT (v := .bool true) (e_none (e_var (by one_place)) rfl) rfl (seqN (x_setSub (by pv_eval) (by pv_eval) (by pv_eval) hset) (seqN (x_aug (by one_place) (by pv_eval) hadd) (seqC x_cont)))))), .inr rfl, ⟨by one_place, by one_place, by one_place, by one_place, by one_place, by one_place⟩, (Fr.kl f1).trans (KL.set (.inr fun vs q => by rw [h1.hb] at q; cases q)), _, _, _, _, _, _, _, _, _, _, hfin⟩
    · -- one is found
      let σ2 := σ1 ++ [O.tuple [.int (j : Nat), .ref oa]]
      have h2 := h1.grow (σ' := σ2) Fr.app
      obtain ⟨D, hDj, hDm, hcoj, hlj⟩ := hvj
      obtain ⟨it, hit, D', hv⟩ := (h.v1 j hj2).mp ⟨hcoj, hlj⟩
      obtain ⟨_, hDj'⟩ := h.d1 it hit j D' hv
      rw [hDj] at hDj'; cases hDj'
      obtain ⟨B, A, rfl⟩ := List.append_of_mem hit
      obtain ⟨b, r, rfl, gb, hr⟩ := h2.head
      obtain ⟨D2, hD2, goa⟩ := h2.mi.hD.at hoa
      rw [hDj] at hD2; cases hD2
      obtain ⟨Di2, hDi2, gci2⟩ := h2.mi.hD.at hci
      rw [hDi] at hDi2; cases hDi2
      have gci3 : σ2[ci]? = some (Dlm pre.length mk (n : Nat) x.op true (n : Nat) i) := get_app (get_app gci)
      have hTl : T.length < 19 := by rw [h.tl]; have := G.len; omega
      have hpl : pre.length < c.aps.length := by rw [h.aps]; simp
      have hDx : D.x < pre.length := by
        cases it with
        | txt o p j0 =>
          have hv' : (if p.op = true then some (j0, p.di o) else none) = some (j, D) := hv
          split at hv'
          · cases hv'; exact (h.tx o p j hit).2
          · cases hv'
        | nod t st =>
          have hv' : st = some (j, D) := hv
          subst hv'
          exact h.ats _ hit _ (by simp [It.at])
      have hcur1 := s_current (d := d + 3) h2.mi.hm h2.mi.ht goa hTl (by rw [h.tl]; omega)
      have hcur2 := s_current (d := d + 3) h2.mi.hm h2.mi.ht gci3 hTl (by rw [h.tl]; omega)
      have hcn : curT T pre.length = (pl.length : Nat) := by rw [h.cur _ (Nat.le_refl _) hpl]; omega
      rw [hcn] at hcur2
      have hidl : i < 20 := by
        have h1 : ∀ {l : List AP} {o : Nat}, (dl o l).length ≤ l.length := by
          intro l
          induction l with
          | nil => intro o; simp [dl]
          | cons p l ih => intro o; unfold dl; split <;> simp <;> have := @ih (o + 1) <;> omega
        have := @h1 c.aps 0
        rw [← G.hd] at this
        have := G.len; omega
      have hzle : ∀ {ps : List Nat} {rl : List It} {z : Nat}, LayR σ2 (c.sp ++ (pl ++ b :: r)) T i ps rl z → ps.length ≤ z := by
        intro ps rl z hl
        induction hl with
        | nil => simp
        | txt _ _ _ ih => simp; omega
        | nod _ _ _ _ ht _ _ ih => have := ht.zpos; simp; omega
      have hpslen : (pl ++ b :: r).length ≤ 1000 := by
        have e1 := hzle h2.lay
        have e2 := h2.zl
        have e3 := hr.length
        have e4 : c.aps.length = pre.length + (suf.length + 1) := by rw [h.aps]; simp
        have := G.len
        simp; omega
      have hyv : ((pl ++ b :: r).map V.ref)[pl.length]? = some (.ref b) := by simp
      have hy : (pl ++ b :: r)[pl.length]? = some b := by simp
      have hpre2 : ∀ (s : S) (R : Option (Fl × Loc × St)) (xp : Nat), curT T D.x = (xp : Nat) → execS (callN prog (d + 4)) s (((((((((ℓ.set "closer" (.ref ci)).set "opener_key" (.ref σ.length)).set "opener_bottom" (.int (bt : Nat))).set "match" (.ref σ1.length)).set "opener_pos" (.int (j : Nat))).set "opener" (.ref oa)).set "opener_index" (.int (xp : Nat))).set "closer_index" (.int (pl.length : Nat)))) σ2 = R →
          execS (callN prog (d + 4)) (.seq (.assign (.one "match") (.call "_find_emphasis_opener" (.cons (.var "delimiters") (.cons (.var "closer_pos") (.cons (.var "closer") (.cons (.var "opener_bottom") .nil)))))) (.seq (.ifS (.isNone (.var "match")) (.seq (.setSub (.var "openers_bottom") (.var "opener_key") (.var "closer_pos")) (.seq (.aug "closer_pos" .add (.int 1)) (.seq .contS .done))) .done)
            (.seq (.assign (.many ["opener_pos", "opener"]) (.var "match")) (.seq (.assign (.one "opener_index") (.umeth (.var "index_map") "current" (.cons (.var "opener") .nil))) (.seq (.assign (.one "closer_index") (.umeth (.var "index_map") "current" (.cons (.var "closer") .nil))) s))))) (((ℓ.set "closer" (.ref ci)).set "opener_key" (.ref σ.length)).set "opener_bottom" (.int (bt : Nat))) σ1 = R := fun s R xp hxp k => by
        rw [hxp] at hcur1
        exact seqN (x_assign (e_call (by mod_arm) hcall)) (seqN (x_ifF (v := .bool false) (e_none (e_var (by one_place)) rfl) rfl x_done) (seqN (x_assignM (e_var (by one_place)) (show σ2[σ1.length]? = some (.tuple [.int (j : Nat), .ref oa]) from get_last) rfl)
          (seqN (x_assign (e_umeth (e_var (by one_place)) h2.mi.hm rfl (by mod_arm) (by rw [nm_current]; exact hcur1))) (seqN (x_assign (e_umeth (e_var (by one_place)) h2.mi.hm rfl (by mod_arm) (by rw [nm_current]; exact hcur2))) k))))
      cases it with
      | nod t st =>
        have hv' : st = some (j, D) := hv
        subst hv'
        obtain ⟨pl1, pm, z1, z2, e1, e2, e3, e4, e5, e6, e7⟩ := h2.lay.split
        subst e1
        cases e2 with
        | @nod pa _ z0 a1 b1 c1 z1' cc' ty _ _ k1 k2 k3 k4 k5 k6 k7 =>
          have hcx : curT T D.x = ((pa.length + 1 : Nat) : Int) := by rw [k7 D.x (by simp [It.at])]; rfl
          have hlist : ((pa ++ [a1, b1, c1]) ++ pm ++ b :: r) = (pa ++ [a1]) ++ (b1 :: c1 :: (pm ++ b :: r)) := by simp
          have hxv : ((pa ++ [a1, b1, c1]) ++ pm ++ b :: r)[pa.length + 1]? = some b1 := by
            rw [hlist, List.getElem?_append_right (by simp)]; simp
          have hxv' : (((pa ++ [a1, b1, c1]) ++ pm ++ b :: r).map V.ref)[pa.length + 1]? = some (.ref b1) := by rw [List.getElem?_map, hxv]; rfl
          have hty : (ty == T_text) = false := by rcases k4 with rfl | rfl <;> rfl
          have huse := s_use' (d := d + 1) (i := pa.length + 1) (j := ((pa ++ [a1, b1, c1]) ++ pm).length) h2.hp hxv' hyv k3 hty goa gci3
          have hyl : pa.length + 1 < ((pa ++ [a1, b1, c1]) ++ pm).length := by simp only [List.length_append, List.length_cons, List.length_nil]; omega
          obtain ⟨σ3, hch, f3⟩ := s_children' (d := d + 2) (rb := []) (i := pa.length + 1) (j := ((pa ++ [a1, b1, c1]) ++ pm).length) h2.hp hyl hpslen hxv hy k3 k4 (fun e he => by
            have hm : e ∈ (pa ++ [a1, b1, c1]) ++ pm ++ b :: r := List.mem_of_mem_drop (List.mem_of_mem_take he)
            rcases List.mem_append.mp hm with hm | hm
            · exact h2.lay.parts e hm
            · rcases List.mem_cons.mp hm with rfl | hm
              · exact .inl ⟨_, gb⟩
              · obtain ⟨k, hk⟩ := List.getElem?_of_mem hm
                obtain ⟨p', _, g⟩ := hr.get hk
                exact .inl ⟨_, g⟩)
          obtain ⟨pl', psuf', q1, hps⟩ := (h2.grow f3).push G (i' := i + 1) (.inr ⟨hx, rfl, fun _ o p j' hm hp hh => by
            have hv2 : (It.txt o p j').vO = some (j', p.di o) := (if_pos hp : (if p.op = true then some (j', p.di o) else none) = _)
            obtain ⟨q1, q2⟩ := hvis o p j' hm hp hh
            rcases List.mem_append.mp hm with hm | hm
            · have := (List.pairwise_append.mp h.pw).2.2 _ hm _ (List.mem_cons_self (a := It.nod t (some (j, D)))) |>.1 _ _ _ _ hv2 rfl
              exact hbetw j' this q2 q1
            · rcases List.mem_cons.mp hm with q | hm
              · cases q
              · have := (List.pairwise_cons.mp (List.pairwise_append.mp h.pw).2.1).1 _ hm |>.2 mk ⟨j, D, rfl, hDm⟩ o p j' rfl hp
                rw [hh, hhd] at this
                exact this rfl⟩)
          refine ⟨.cont, _, σ3, hfirst _ _ (hpre2 _ _ (pa.length + 1) hcx (seqN (x_assign (e_call (by mod_arm) huse)) (seqN (x_assign (e_call (by mod_arm) hch)) (seqC (x_ifT (v := .bool true) (e_ors (b_stop (e_none (e_var (by one_place)) rfl) rfl)) rfl (seqN (x_aug (by one_place) (by pv_eval) hadd) (seqC x_cont))))))), .inr rfl, ⟨by one_place, by one_place, by one_place, by one_place, by one_place, by one_place⟩, Fr.kl ((f1.trans Fr.app).trans f3), _, _, _, _, _, _, _, _, _, _, hps⟩
      | txt o p j0 =>
        have hv' : (if p.op = true then some (j0, p.di o) else none) = some (j, D) := hv
        split at hv'
        · rename_i hp
          cases hv'
          obtain ⟨pl1, pm, z1, z2, e1, e2, e3, e4, e5, e6, e7⟩ := h2.lay.split
          subst e1
          cases e2 with
          | @txt pa _ zA a _ _ _ k1 k2 k3 =>
            have htx := h.tx o p j hit
            have hmkp : p.raw.headD 0 = x.raw.headD 0 := by rw [hhd]; exact hDm
            have hpr : p.raw = x.raw := G.ok.same p (List.mem_of_getElem? htx.1) x hxm (AP.op_del hp) hx hmkp
            have hB : B ≠ [] := by
              rintro rfl
              have hrc : o + 1 = pre.length ∧ RC o A := h.rc
              exact G.ok.adj o p x htx.1 (by rw [hrc.1]; exact h.at_pre) (AP.op_del hp) hx hmkp
            have hwp := wdS_pos hB
            have hnod := h2.nod
            have hlist : ((pa ++ [a]) ++ pm ++ b :: r) = pa ++ (a :: (pm ++ b :: r)) := by simp
            have hab : a ≠ b := by
              rw [hlist] at hnod
              have := (List.nodup_cons.mp (List.nodup_append.mp hnod).2.1).1
              rintro rfl; exact this (by simp)
            have hcx : curT T (p.di o).x = ((pa.length : Nat) : Int) := k3
            have hxv : ((pa ++ [a]) ++ pm ++ b :: r)[pa.length]? = some a := by rw [hlist, List.getElem?_append_right (Nat.le_refl _)]; simp
            have hxv' : (((pa ++ [a]) ++ pm ++ b :: r).map V.ref)[pa.length]? = some (.ref a) := by rw [List.getElem?_map, hxv]; rfl
            have hyl : ((pa ++ [a]) ++ pm).length = pa.length + 1 + pm.length := by simp only [List.length_append, List.length_cons, List.length_nil]
            have hcut : cut ((pa ++ [a]) ++ pm ++ b :: r) (pa.length + 1) ((pa ++ [a]) ++ pm).length = pm := by
              have := cut_midV (A := pa ++ [a]) (G := pm) (B := b :: r)
              rw [hyl]
              simpa using this
            have hlj2 : len j = (n : Int) := by rw [h.v1' o p j hit hp, hpr, hxl]
            have goa3 : σ2[oa]? = some (Dlm (p.di o).x (p.di o).m (n : Nat) (co j) (cc j) (n : Nat) j) := by
              have hLe : (p.di o).L = n := by show p.raw.length = n; rw [hpr, hxl]
              rw [hlj2, hLe] at goa; exact goa
            have huse := s_use (d := d + 1) (i := pa.length) (j := ((pa ++ [a]) ++ pm).length) h2.hp hxv' hyv k2 gb goa3 gci3 (by omega) (by rw [hpr, hxl]) (by rw [hxl])
            have hBt : ∀ o' p' j', It.txt o' p' j' ∈ B → p'.raw ≠ [] := fun o' p' j' hm => G.ok.ne p' (List.mem_of_getElem? (h.tx o' p' j' (by simp [hm])).1)
            have hT0 : Tolds σ2 [] pm (tellI B) i z2 := e5 [] (by simp) (by simp)
            have hzz : z2 ≤ 1000 := by
              have e2 := h2.zl
              have e4 : c.aps.length = pre.length + (suf.length + 1) := by rw [h.aps]; simp
              have := G.len
              omega
            obtain ⟨cA, σ3, hch, f3, hcA0, hcA⟩ := s_children (d := d + 2) (i := pa.length) (j := ((pa ++ [a]) ++ pm).length) (X := []) (t := tellI B) (k := i) (z := z2) h2.hp (by rw [hyl]; omega) hpslen hxv hy k2 gb (by rw [hcut]; exact e6) (by rw [hcut]; exact e7 hB hBt) (by rw [hcut]; exact hT0) hidl hzz
            rw [hcut] at hcA
            have h3 := h2.grow f3
            have hnab : a ≠ 0 ∧ b ≠ 0 := ⟨h2.nz a (by simp), h2.nz b (by simp)⟩
            obtain ⟨nn, N4, len4, σ4, hap, f4, p4, n4, g4, ga4, gb4, mi4, q1, q2, q3⟩ := s_apply (d := d + 1) (x := pa.length) (y := ((pa ++ [a]) ++ pm).length) (L := n) (c := cA) G.mc h3.mi h3.hp hpslen (by rw [hyl]; omega) hxv hy hab (f3.get0 k2) (f3.get0 gb) (by rw [hpr, hxl]) hxl hDj hDi hoa hci hj2 hlj2 (by rw [v1]; show ((x.raw.length : Nat) : Int) = n; rw [hxl]) hn12 hTl ⟨G.p0, hnab.1, hnab.2⟩ G.pne
            have hrem : ((pa ++ [a]) ++ pm).length - pa.length - 2 = wdS B - 1 := by rw [hyl, e4]; omega
            rw [hrem] at mi4 q2 q3
            have htk : ((pa ++ [a]) ++ pm ++ b :: r).take (pa.length + 1) = pa ++ [a] := by
              have : (pa ++ [a]) ++ pm ++ b :: r = (pa ++ [a]) ++ (pm ++ b :: r) := by simp
              rw [this, List.take_left' (by simp)]
            have hdr2 : ((pa ++ [a]) ++ pm ++ b :: r).drop ((pa ++ [a]) ++ pm).length = b :: r := List.drop_left
            rw [htk, hdr2] at p4
            have p4' : σ4[c.p]? = some (.list (((pa ++ [a, nn, b]) ++ r).map .ref)) := by rw [p4]; simp
            have hbA : c.bA ∉ c.p :: a :: b :: c.t :: c.nx :: c.ds := by
              obtain ⟨b1, b2, b3, b4, b5, b6⟩ := h3.bne
              simp only [List.mem_cons, not_or]
              have hsp : c.bA ∈ c.sp := by simp [PG.sp]
              exact ⟨Ne.symm b1, fun q => h3.dj a (by simp) (q ▸ hsp), fun q => h3.dj b (by simp) (q ▸ hsp), Ne.symm b4, Ne.symm b5, b6⟩
            have hcn2 : cA ∉ c.sp ++ ((pa ++ [a]) ++ pm ++ b :: r) := by
              intro q
              have hlt : ∀ e ∈ c.sp ++ ((pa ++ [a]) ++ pm ++ b :: r), e < σ2.length := by
                intro e he
                rcases List.mem_append.mp he with he | he
                · simp only [PG.sp, List.mem_append, List.mem_cons, List.not_mem_nil, or_false] at he
                  rcases he with (rfl | rfl | rfl | rfl | rfl | rfl) | he
                  · exact get_lt h2.hp
                  · exact get_lt h2.mi.hq
                  · exact get_lt h2.mi.hm
                  · exact get_lt h2.mi.ht
                  · exact get_lt h2.mi.hn
                  · exact get_lt h2.hb
                  · obtain ⟨k, hk⟩ := List.getElem?_of_mem he
                    obtain ⟨D, _, g⟩ := h2.mi.hD.at hk
                    exact get_lt g
                · rcases List.mem_append.mp he with he | he
                  · rcases h2.lay.parts e he with ⟨s, g⟩ | ⟨ty, cc, g, _⟩ <;> exact get_lt g
                  · rcases List.mem_cons.mp he with rfl | he
                    · exact get_lt gb
                    · obtain ⟨k, hk⟩ := List.getElem?_of_mem he
                      obtain ⟨p', _, g⟩ := hr.get hk
                      exact get_lt g
              have := hlt cA q; omega
            have hst : ∀ o' p' k, B = [.txt o' p' k] → curT T o' = (pa.length : Int) + 1 := by
              intro o' p' k hBe
              subst hBe
              have hl := h2.lay
              generalize (pa ++ [a]) ++ pm = Q at hl
              cases hl with
              | txt l g1 g2 =>
                have w1 := l.len
                have w2 := k1.len
                rw [g2, w1, w2]
                simp [wdS, It.wd]; omega
            have hmat := h3.matchd (A := A) (B := B) (o := o) (j := j) (a := a) (b := b) (nn := nn) (cA := cA) (p := p) (zA := zA) (z2 := z2) G hp hcl hmkp (fun o' p' j' hm hp' hh => by
                have hv2 : (It.txt o' p' j').vO = some (j', p'.di o') := (if_pos hp' : (if p'.op = true then some (j', p'.di o') else none) = _)
                obtain ⟨r1, r2⟩ := hvis o' p' j' (by simp [hm]) hp' hh
                have := (List.pairwise_append.mp h.pw).2.2 _ hm _ (List.mem_cons_self (a := It.txt o p j)) |>.1 _ _ _ _ hv2 hv
                exact hbetw j' this r2 r1) hB e4 (k1.go (fun b o h1 h2 => ⟨h1, f3.get0 h2⟩) (Nat.le_refl _) (fun a _ o e => f3.get0 e) fun _ _ _ _ => rfl) (by omega)
              (fun X'' w1 w2 => Tolds.go (fun b o w3 w4 => ⟨w3, f3.get0 w4⟩) (e5 X'' w1 w2)) hst hcA hcn2 f4 n4 p4' (by rw [hxl]; exact g4) ga4 gb4 mi4 (by split <;> simp [upd_len]) (fun o' ho' => by
                have hDx2 : (x.di pre.length).x = pre.length := rfl
                rw [hDx2]
                by_cases hw : wdS B - 1 = 0
                · rw [if_pos hw]; split <;> omega
                · rw [if_neg hw, cur_upd hTl (by rw [h.tl]; omega) (by rw [h.tl]; omega)]
                  split <;> omega) q1 (fun hw => q2 (by omega)) (fun k w1 w2 w3 => q3 k w1 w2 (w3.imp (fun w => by omega) id)) hbA
            have hkl : KL [c.p, c.t, c.nx] σ σ4 := fun g vs e hg => by
              have e3 : σ3[g]? = some (O.list vs) := f3.get0 (get_app (get_app e))
              refine f4.get e3 fun q => ?_
              simp only [List.mem_cons, List.not_mem_nil, or_false, not_or] at hg q
              rcases q with q | q | q | q | q | q
              · exact hg.1 q
              · rw [q, f3.get0 k2] at e3; cases e3
              · rw [q, f3.get0 gb] at e3; cases e3
              · exact hg.2.1 q
              · exact hg.2.2 q
              · obtain ⟨kk, hkk⟩ := List.getElem?_of_mem q
                obtain ⟨_, _, gg⟩ := h3.mi.hD.at hkk
                rw [gg] at e3; cases e3
            obtain ⟨_, e1', goa5⟩ := mi4.hD.at hoa
            rw [hDj] at e1'; cases e1'
            rw [put_same] at goa5
            obtain ⟨_, e2', gci5⟩ := mi4.hD.at hci
            rw [hDi] at e2'; cases e2'
            rw [put_same] at gci5
            refine ⟨.next, _, σ4, hfirst _ _ (hpre2 _ _ pa.length hcx (seqN (x_assign (e_call (by mod_arm) huse)) (seqN (x_assign (e_call (by mod_arm) hch)) (seqN (x_ifF (v := .bool false) (e_ors (b_go (e_none (e_var (by one_place)) rfl) rfl (b_last (e_none (e_var (by one_place)) rfl)))) rfl x_done)
              (seqN (x_expr (v := .none) (e_call (by mod_arm) hap)) (seqN (x_ifF (v := .bool false) (e_ors (b_go (e_attr (e_var (by one_place)) goa5 rfl) rfl (b_last (e_attr (e_var (by one_place)) gci5 rfl)))) rfl (seqN (x_aug (by one_place) (by pv_eval) hadd) x_done)) x_done)))))),
              .inl rfl, ⟨by one_place, by one_place, by one_place, by one_place, by one_place, by one_place⟩, hkl, _, _, _, _, _, _, _, _, _, _, hmat⟩
        · cases hv'
  · have hcl : x.cl = false := by simpa using hcl
    rw [hcl] at gci
    obtain ⟨pl', psuf', e1, hps⟩ := h.push G (i' := i + 1) (.inr ⟨hx, rfl, fun q => by rw [hcl] at q; cases q⟩)
    exact ⟨.cont, _, σ, seqN (x_assign (by pv_eval)) (seqC (x_ifT (v := .bool (!false)) (by pv_eval) rfl (seqN (x_aug (by one_place) (by pv_eval) hadd) (seqC x_cont)))), .inr rfl, ⟨by one_place, by one_place, by one_place, by one_place, by one_place, by one_place⟩, Fr.kl Fr.refl, _, _, _, _, _, _, _, _, _, _, hps⟩
end
end P1
end Mine
end

/-! W18 -/
section
open PySem PySem.W PyProof.Rows
set_option linter.unusedVariables false
set_option linter.unusedSimpArgs false
namespace Mine
local macro_rules | `(tactic| one_place) => `(tactic| first | assumption | (simp only [Loc.set, params_cons, params_nil, String.reduceEq, if_true, if_false, reduceIte]; first | rfl | assumption))
local macro_rules | `(tactic| one_item) => `(tactic| first | assumption | exact get_last | (apply get_app; (one_item)) | (apply get_set_eq; (one_item)) | (apply get_set_ne; (first | assumption | omega); (one_item)))
local macro_rules | `(tactic| leaf_len) => `(tactic| first | assumption | rfl | (focus (simp; done)))
local macro_rules | `(tactic| l_ints) => `(tactic| first | assumption | (apply idx_list; (one_item); rfl; (assumption)) | (apply idx_tuple; (one_item); rfl; (assumption)) | (apply idx_list (k := 0); (one_item); rfl; rfl) | (apply idx_tuple (k := 0); (one_item); rfl; rfl) | (apply idx_tuple (k := 1); (one_item); rfl; rfl) | exact idx_str rfl (by assumption))
local macro_rules | `(tactic| pv_eval) => `(tactic| first
  | exact e_int | exact e_str | exact e_bool | exact e_non | exact e_nil
  | (apply e_var; (one_place))
  | (apply e_attr; (pv_eval); (one_item); (leaf_len))
  | (apply e_dget; (pv_eval); (one_item); (leaf_len))
  | (apply e_dhas; (pv_eval); (one_item); (leaf_len))
  | (apply e_dhasnt; (pv_eval); (one_item); (leaf_len))
  | (apply e_dgetd; (pv_eval); (one_item); (pv_eval); (leaf_len))
  | (apply e_sub; (pv_eval); (pv_eval); (l_ints))
  | (apply e_cmp; (pv_eval); (pv_eval); (leaf_len))
  | (apply e_bin; (pv_eval); (pv_eval); (leaf_len))
  | (apply e_lnot; (pv_eval); (one_sign))
  | (apply e_neg; (pv_eval))
  | (apply e_isNone; (pv_eval))
  | (apply e_ands; (modx_arm))
  | (apply e_ors; (modx_arm))
  | (apply e_iteT; (pv_eval); (one_sign); (pv_eval))
  | (apply e_iteF; (pv_eval); (one_sign); (pv_eval))
  | (apply e_list; (mod_arm))
  | (apply e_tuple; (mod_arm))
  | (apply e_dict; (o_shape))
  | exact e_tdict
  | (apply e_bcall; (mod_arm); (first | assumption | (apply len_list; (one_item)) | rfl))
  | (apply e_call; (mod_arm); (assumption))
  | (apply e_slice; (pv_eval); (pv_eval); (pv_eval); (assumption))
  | (apply e_bmeth; (pv_eval); (first | assumption | (apply mOk_str; (focus (simp; done))) | (apply mOk_list; (one_item); (focus (simp; done)))); (mod_arm); (first | assumption | rfl)))
local macro_rules | `(tactic| modx_arm) => `(tactic| first
  | (apply b_last; (pv_eval))
  | (apply b_go; (pv_eval); (one_sign); (modx_arm))
  | (apply b_stop; (pv_eval); (one_sign)))
local macro_rules | `(tactic| mod_arm) => `(tactic| first | exact l_nil | (apply l_cons; (pv_eval); (mod_arm)))
local macro_rules | `(tactic| o_shape) => `(tactic| first | exact kv_nil | (apply kv_cons; (pv_eval); (o_shape)))
local macro_rules | `(tactic| one_sign) => `(tactic| first | rfl | assumption | exact (truthy_list (by one_item)).trans rfl | (refine congrArg some ?_; first | (apply decide_eq_true; (omega)) | (apply decide_eq_false; (omega)) | assumption | (focus (simp; done)) | (focus (simp; omega)) | (focus (simp [*]; done))))
namespace P1
variable {d : Nat}
section
variable {c : PG} {i : Nat} {N : List Nat} {T : List Int} {len : Nat → Int} {co cc : Nat → Bool} {es : List (TKey × Int)} {σ : St}
theorem PS.adv (G : PGok c) : ∀ {suf pre : List AP} {rl : List It} {pl psuf : List Nat} {z : Nat}, PS c i pre suf rl pl psuf N T len co cc es z σ → i < c.dis.length →
    ∃ pre' x suf' rl' pl' psuf' z', PS c i pre' (x :: suf') rl' pl' psuf' N T len co cc es z' σ ∧ x.del = true
  | [], pre, rl, pl, psuf, z, h, hi => by
    have := h.dl
    rw [P1.dl] at this
    have h2 := congrArg List.length this
    rw [List.length_drop, List.length_nil] at h2
    omega
  | x :: suf, pre, rl, pl, psuf, z, h, hi => by
    by_cases hx : x.del = true
    · exact ⟨_, _, _, _, _, _, _, h, hx⟩
    · obtain ⟨pl', psuf', _, h'⟩ := h.push G (i' := i) (.inl ⟨by simpa using hx, rfl⟩)
      exact PS.adv G h' hi
theorem PS.fin (G : PGok c) : ∀ {suf pre : List AP} {rl : List It} {pl psuf : List Nat} {z : Nat}, PS c i pre suf rl pl psuf N T len co cc es z σ → i = c.dis.length →
    ∃ rl' pl' z', PS c i c.aps [] rl' pl' [] N T len co cc es z' σ
  | [], pre, rl, pl, psuf, z, h, hi => by
    have : pre = c.aps := by rw [h.aps]; simp
    subst this
    have hs := h.sf
    cases hs
    exact ⟨_, _, _, h⟩
  | x :: suf, pre, rl, pl, psuf, z, h, hi => by
    by_cases hx : x.del = true
    · have := (h.hdel hx).1; omega
    · obtain ⟨pl', psuf', _, h'⟩ := h.push G (i' := i) (.inl ⟨by simpa using hx, rfl⟩)
      exact PS.fin G h' hi
end
theorem LayR.ends {σ : St} {X : List Nat} {T : List Int} {k : Nat} : ∀ {ps : List Nat} {rl : List It} {z : Nat}, LayR σ X T k ps rl z → (∀ o p j, It.txt o p j ∈ rl → endsS p.raw [38] = false) → ∀ a ∈ ps, ∀ s, σ[a]? = some (dText s) → endsS s [38] = false
  | _, _, _, .nil, _, a, ha, _, _ => by cases ha
  | _, _, _, .txt (o := o) (p := p) (j := j) l e1 e2, h, a, ha, s, g => by
    rcases List.mem_append.mp ha with ha | ha
    · exact l.ends (fun o p j hm => h o p j (by simp [hm])) a ha s g
    · rw [List.mem_singleton.mp ha, e1] at g
      have : s = p.raw := by simpa using g.symm
      rw [this]; exact h o p j (by simp)
  | _, _, _, .nod l e1 e2 e3 e4 e5 e6, h, a, ha, s, g => by
    have he : endsS [] [38] = false := by decide
    rcases List.mem_append.mp ha with ha | ha
    · exact l.ends (fun o p j hm => h o p j (by simp [hm])) a ha s g
    · simp only [List.mem_cons, List.not_mem_nil, or_false] at ha
      rcases ha with rfl | rfl | rfl
      · rw [e1] at g
        have : s = [] := by simpa using g.symm
        rw [this]; exact he
      · rw [e2] at g; simp at g
      · rw [e5] at g
        have : s = [] := by simpa using g.symm
        rw [this]; exact he
theorem cur_zero {n o : Nat} : curT (List.replicate n 0) o = o := by
  unfold curT
  have : (fun x => (List.replicate n (0 : Int)).getD x 0) = fun _ => 0 := funext fun x => by
    rw [List.getD_eq_getElem?_getD]
    by_cases h : x < n
    · rw [List.getElem?_replicate_of_lt h]; rfl
    · rw [List.getElem?_eq_none (by simpa using h)]; rfl
  rw [this]
  have : ∀ l : List Nat, (l.map fun _ => (0 : Int)).sum = 0 := fun l => by induction l with
    | nil => rfl
    | cons a l ih => rw [List.map_cons, List.sum_cons, ih]; rfl
  rw [this]; omega
theorem s_process {σ : St} {p q : Nat} {ps ds : List Nat} {dis : List DI} {aps : List AP} (hp : σ[p]? = some (.list (ps.map .ref))) (hq : σ[q]? = some (.list (ds.map .ref))) (hpq : p ≠ q) (hp0 : p ≠ 0) (A : AOK aps) (hd : dis = dl 0 aps) (hal : aps.length ≤ 17)
    (hpa : All2 (fun a (p : AP) => σ[a]? = some (dText p.raw)) ps aps) (hpn : ps.Nodup) (hdn : ds.Nodup) (hnz : (∀ a ∈ ps, a ≠ 0) ∧ ∀ a ∈ ds, a ≠ 0) (hdl : ds.length = dis.length)
    (hdo : ∀ (k : Nat) (D : DI), dis[k]? = some D → ∃ a, ds[k]? = some a ∧ σ[a]? = some (Dlm D.x D.m D.L D.co D.cc D.L k)) (hdpq : ∀ a ∈ ps, a ≠ p ∧ a ≠ q) :
    ∃ σ' ps' k z, callN prog (d + 5) "_process_emphasis_delimiters" [.ref p, .ref q, .int 20] σ = some (.none, σ') ∧ σ'[p]? = some (.list (ps'.map .ref)) ∧ Tolds σ' [] ps' (flatM (runM aps)) k z ∧ k ≤ 17 ∧ ps'.length ≤ 1000 ∧ (∀ a ∈ ps', ∀ s, σ'[a]? = some (dText s) → endsS s [38] = false) ∧ KL [p] σ σ' := by
  have hdll : dis.length ≤ 17 := by
    have h1 : ∀ {l : List AP} {o : Nat}, (dl o l).length ≤ l.length := by
      intro l
      induction l with
      | nil => intro o; simp [dl]
      | cons p l ih => intro o; unfold dl; split <;> simp <;> have := @ih (o + 1) <;> omega
    have := @h1 aps 0
    rw [← hd] at this; omega
  have hpl := get_lt hp
  have hql := get_lt hq
  have hpsl : ps.length = aps.length := hpa.length
  have hpso : ∀ a ∈ ps, ∃ s, σ[a]? = some (dText s) := fun a ha => by
    obtain ⟨k, hk⟩ := List.getElem?_of_mem ha
    obtain ⟨p', _, g⟩ := hpa.get hk
    exact ⟨_, g⟩
  have hdso : ∀ a ∈ ds, ∃ fs, σ[a]? = some (O.inst "_Delimiter" fs) := fun a ha => by
    obtain ⟨k, hk⟩ := List.getElem?_of_mem ha
    have hkl : k < dis.length := by rw [← hdl]; exact (List.getElem?_eq_some_iff.mp hk).1
    obtain ⟨a', h1, h2⟩ := hdo k _ (List.getElem?_eq_getElem hkl)
    rw [hk] at h1; cases h1
    exact ⟨_, h2⟩
  let σ1 := σ ++ [O.inst "_DelimiterIndex" []]
  obtain ⟨t, nx, σ2, hinit, f2, gm, gt, gn, htl, htn⟩ := s_index_init (d := d + 3) (σ := σ1) (m := σ.length) (q := q) (n := ps.length) get_last (by omega) (get_app hq) (by omega) (by rw [List.length_map]; omega)
  have hl1 : σ1.length = σ.length + 1 := by simp [σ1]
  have keep : ∀ {a o}, σ[a]? = some o → σ2[a]? = some o := fun {a o} e => f2.get (get_app e) (by simp; exact Nat.ne_of_lt (get_lt e))
  let σ3 := σ2 ++ [O.tdict []]
  have f3 : Fr [] σ2 σ3 := Fr.app
  have hml : σ.length < σ2.length := get_lt gm
  have htl2 := get_lt gt
  have hnl2 := get_lt gn
  let c : PG := ⟨p, q, σ.length, t, nx, σ2.length, dis.length, ds, dis, aps⟩
  have G : PGok c := by
    refine ⟨⟨rfl, by show dis.length ≤ 500; omega, by show nx ≠ 0; omega, by show t ≠ 0; omega, hnz.2, hdn, by show q ≠ nx; omega, by show q ≠ t; omega, by show t ≠ nx; omega⟩, A, hd, hal, hp0, by show σ2.length ≠ 0; omega, hpq, by show p ≠ t; omega, by show p ≠ nx; omega⟩
  have hgn : σ3[nx]? = some (nlist (List.range (dis.length + 1))) := by
    have := get_app (τ := [O.tdict []]) gn
    rw [List.length_map, hdl] at this
    exact this
  have hgt : σ3[t]? = some (.list ((List.replicate (ps.length + 1) (0 : Int)).map .int)) := by
    have := get_app (τ := [O.tdict []]) gt
    rw [List.map_replicate]; exact this
  have start : PS c 0 [] aps [] [] ps (List.range (dis.length + 1)) (List.replicate (ps.length + 1) 0) (fun j => ((dis[j]?.map (·.L)).getD 0 : Nat)) (fun j => (dis[j]?.map (·.co)).getD false) (fun j => (dis[j]?.map (·.cc)).getD false) [] 0 σ3 := by
    refine { aps := rfl, dl := by rw [List.drop_zero]; exact hd, il := Nat.zero_le _, hp := f3.get0 (keep hp), hb := get_last, mi := ⟨f3.get0 gm, f3.get0 (keep hq), hgt, hgn, ⟨by simp; rfl, fun i r e => ?_, fun i r e j j1 j2 => ?_⟩, ⟨hdl, fun j D hj => ?_⟩⟩, lay := .nil, sf := hpa.mono fun a p e => f3.get0 (keep e), nod := by simpa using hpn, dj := ?_, nz := by simpa using hnz.1, tl := by simp [hpsl]; rfl, cur := fun o _ _ => by rw [cur_zero]; simp, rc := trivial, tx := by simp, ats := by simp, d1 := by simp, v1 := by simp, v1' := by simp, v2 := ?_, pw := .nil, bi := by simp, bl := by simp, ms := rfl, zl := by simp }
    · have hlt := (List.getElem?_eq_some_iff.mp e).1
      simp at hlt
      rw [List.getElem?_range hlt] at e; cases e
      exact ⟨Nat.le_refl _, by show i ≤ dis.length; omega⟩
    · have hlt := (List.getElem?_eq_some_iff.mp e).1
      simp at hlt
      rw [List.getElem?_range hlt] at e; cases e
      omega
    · obtain ⟨a, h1, h2⟩ := hdo j D hj
      refine ⟨a, h1, ?_⟩
      have hj' : dis[j]? = some D := hj
      simp only [hj', Option.map_some, Option.getD_some]
      exact f3.get0 (keep h2)
    · intro a ha hsp
      have ha : a ∈ ps := by simpa using ha
      obtain ⟨s, g⟩ := hpso a ha
      have hal := get_lt g
      simp only [PG.sp, List.mem_append, List.mem_cons, List.not_mem_nil, or_false] at hsp
      rcases hsp with (h | h | h | h | h | h) | h
      · exact (hdpq a ha).1 h
      · exact (hdpq a ha).2 h
      · have h : a = σ.length := h
        omega
      · have h : a = t := h
        omega
      · have h : a = nx := h
        omega
      · have h : a = σ2.length := h
        omega
      · obtain ⟨fs, g'⟩ := hdso a h
        rw [g] at g'; cases g'
    · intro j D _ hj
      have hj' : dis[j]? = some D := hj
      simp [hj']
  let ℓ0 := ((((params ["parts", "delimiters", "max_depth"] [.ref p, .ref q, .int 20]).set "index_map" (.ref σ.length)).set "closer_pos" (.int 0)).set "openers_bottom" (.ref σ2.length))
  obtain ⟨fl, ℓ', σ', h1, rfl, hkl, pre, suf, rl, pl, psuf, N, T, len, co, cc, es, z, h2⟩ := while_inv (c := fun ℓ σ => evalC (callN prog (d + 4)) (.cmp .lt (.var "closer_pos") (.bcall "len" (.cons (.var "delimiters") .nil))) ℓ σ) (b := fun ℓ σ => execS (callN prog (d + 4)) pbody ℓ σ)
    (fun m ℓ σ' => KL [p, t, nx] σ3 σ' ∧ ∃ i pre suf rl pl psuf N T len co cc es z, PS c i pre suf rl pl psuf N T len co cc es z σ' ∧ PL c i ℓ ∧ m + i = dis.length)
    (fun fl ℓ σ' => fl = .next ∧ KL [p, t, nx] σ3 σ' ∧ ∃ pre suf rl pl psuf N T len co cc es z, PS c dis.length pre suf rl pl psuf N T len co cc es z σ') (fun m ℓ σ hi => by
      obtain ⟨hk0, i, pre, suf, rl, pl, psuf, N, T, len, co, cc, es, z, h, P, hm⟩ := hi
      have hlen : builtinF σ "len" [.ref c.q] = some (.int dis.length, σ) := by
        have := len_list h.mi.hq
        rw [List.length_map, h.mi.hD.n] at this
        exact this
      obtain ⟨l1, l2, l3, l4, l5, l6⟩ := id P
      by_cases hi : i < dis.length
      · right
        have hlt : cmpOp σ .lt (.int (i : Nat)) (.int (dis.length : Nat)) = some true := congrArg some (decide_eq_true (by omega))
        obtain ⟨pre', x, suf', rl', pl', psuf', z', h', hx⟩ := h.adv G hi
        obtain ⟨fl, ℓ2, σ2, e1, e2, e3, ek, rl2, pl2, psuf2, N2, T2, len2, co2, cc2, es2, z2, e4⟩ := s_iter (d := d) G h' hx P
        exact ⟨σ, fl, ℓ2, σ2, c_of (v := .bool true) (by simp) (by pv_eval) rfl, e1, .inl ⟨e2, m - 1, by omega, hk0.trans ek, i + 1, _, _, _, _, _, _, _, _, _, _, _, _, e4, e3, by omega⟩⟩
      · left
        have hlt : cmpOp σ .lt (.int (i : Nat)) (.int (dis.length : Nat)) = some false := congrArg some (decide_eq_false (by omega))
        have : i = dis.length := by have := h.il; have h' : i ≤ dis.length := this; omega
        subst this
        exact ⟨σ, c_of (v := .bool false) (by simp) (by pv_eval) rfl, rfl, hk0, _, _, _, _, _, _, _, _, _, _, _, _, h⟩) WLIM dis.length ℓ0 σ3 (by unfold WLIM; omega)
    ⟨Fr.kl Fr.refl, 0, _, _, _, _, _, _, _, _, _, _, _, _, start, ⟨by one_place, by one_place, by one_place, by one_place, by one_place, by one_place⟩, rfl⟩
  obtain ⟨rl', pl', z', h3⟩ := h2.fin G rfl
  have hlay := h3.lay
  rw [List.append_nil] at hlay
  have hle : pl'.length ≤ z' := by
    have : ∀ {ps : List Nat} {rl : List It} {z : Nat}, LayR σ' (c.sp ++ pl') T dis.length ps rl z → ps.length ≤ z := by
      intro ps rl z hl
      induction hl with
      | nil => simp
      | txt _ _ _ ih => simp; omega
      | nod _ _ _ _ ht _ _ ih => have := ht.zpos; simp; omega
    exact this hlay
  have hends := hlay.ends fun o p j hm => A.ends p (List.mem_of_getElem? (h3.tx o p j hm).1)
  rw [← List.append_nil rl'] at hlay
  obtain ⟨pa, pm, z1, z2, e1, e2, e3, e4, e5, e6, e7⟩ := hlay.split
  cases e2
  rw [List.nil_append] at e1
  subst e1
  have htell : tellI rl' = flatM (runM aps) := by
    have := h3.ms
    unfold tellI
    rw [← flat_rms, this]
  have hzl := h3.zl
  have hcal : c.aps.length ≤ 17 := hal
  refine ⟨σ', pl', dis.length, z2, call0 rfl rfl (runN (x_assign (e_new (l_cons (e_var (by one_place)) (l_cons (e_bcall (l_cons (e_var (by one_place)) l_nil) (len_list hp)) l_nil)) (by rw [nm_init, List.length_map]; exact hinit))) (runN (x_assign (by pv_eval)) (runN (x_assign e_tdict) (runN (x_while.trans h1) run_done)))), ?_, ?_, by omega, by omega, hends, fun g vs e hg => hkl g vs (f3.get0 (keep e)) ?_⟩
  · have := h3.hp
    rw [List.append_nil] at this
    exact this
  · rw [← htell]; exact e5 [] (by simp) (by simp)
  · have := get_lt e
    simp only [List.mem_cons, List.not_mem_nil, or_false, not_or] at hg ⊢
    exact ⟨hg, by omega, by omega⟩
end P1
end Mine
end

/-! W19 -/
section
open PySem PySem.W PyProof.Rows
set_option linter.unusedVariables false
set_option linter.unusedSimpArgs false
namespace Mine
local macro_rules | `(tactic| one_place) => `(tactic| first | assumption | (simp only [Loc.set, params_cons, params_nil, String.reduceEq, if_true, if_false, reduceIte]; first | rfl | assumption))
local macro_rules | `(tactic| one_item) => `(tactic| first | assumption | exact get_last | (apply get_app; (one_item)) | (apply get_set_eq; (one_item)) | (apply get_set_ne; (first | assumption | omega); (one_item)))
local macro_rules | `(tactic| leaf_len) => `(tactic| first | assumption | rfl | (focus (simp; done)))
local macro_rules | `(tactic| l_ints) => `(tactic| first | assumption | (apply idx_list; (one_item); rfl; (assumption)) | (apply idx_tuple; (one_item); rfl; (assumption)) | (apply idx_list (k := 0); (one_item); rfl; rfl) | (apply idx_tuple (k := 0); (one_item); rfl; rfl) | (apply idx_tuple (k := 1); (one_item); rfl; rfl) | exact idx_str rfl (by assumption))
local macro_rules | `(tactic| pv_eval) => `(tactic| first
  | exact e_int | exact e_str | exact e_bool | exact e_non | exact e_nil
  | (apply e_var; (one_place))
  | (apply e_attr; (pv_eval); (one_item); (leaf_len))
  | (apply e_dget; (pv_eval); (one_item); (leaf_len))
  | (apply e_dhas; (pv_eval); (one_item); (leaf_len))
  | (apply e_dhasnt; (pv_eval); (one_item); (leaf_len))
  | (apply e_dgetd; (pv_eval); (one_item); (pv_eval); (leaf_len))
  | (apply e_sub; (pv_eval); (pv_eval); (l_ints))
  | (apply e_cmp; (pv_eval); (pv_eval); (leaf_len))
  | (apply e_bin; (pv_eval); (pv_eval); (leaf_len))
  | (apply e_lnot; (pv_eval); (one_sign))
  | (apply e_neg; (pv_eval))
  | (apply e_isNone; (pv_eval))
  | (apply e_ands; (modx_arm))
  | (apply e_ors; (modx_arm))
  | (apply e_iteT; (pv_eval); (one_sign); (pv_eval))
  | (apply e_iteF; (pv_eval); (one_sign); (pv_eval))
  | (apply e_list; (mod_arm))
  | (apply e_tuple; (mod_arm))
  | (apply e_dict; (o_shape))
  | exact e_tdict
  | (apply e_bcall; (mod_arm); (first | assumption | (apply len_list; (one_item)) | rfl))
  | (apply e_call; (mod_arm); (assumption))
  | (apply e_slice; (pv_eval); (pv_eval); (pv_eval); (assumption))
  | (apply e_bmeth; (pv_eval); (first | assumption | (apply mOk_str; (focus (simp; done))) | (apply mOk_list; (one_item); (focus (simp; done)))); (mod_arm); (first | assumption | rfl)))
local macro_rules | `(tactic| modx_arm) => `(tactic| first
  | (apply b_last; (pv_eval))
  | (apply b_go; (pv_eval); (one_sign); (modx_arm))
  | (apply b_stop; (pv_eval); (one_sign)))
local macro_rules | `(tactic| mod_arm) => `(tactic| first | exact l_nil | (apply l_cons; (pv_eval); (mod_arm)))
local macro_rules | `(tactic| o_shape) => `(tactic| first | exact kv_nil | (apply kv_cons; (pv_eval); (o_shape)))
local macro_rules | `(tactic| one_sign) => `(tactic| first | rfl | assumption | exact (truthy_list (by one_item)).trans rfl | (refine congrArg some ?_; first | (apply decide_eq_true; (omega)) | (apply decide_eq_false; (omega)) | assumption | (focus (simp; done)) | (focus (simp; omega)) | (focus (simp [*]; done))))
namespace P1
variable {d : Nat}
theorem dl_at : ∀ {l : List AP} {o : Nat} {D : DI}, D ∈ dl o l → o ≤ D.x ∧ ∃ p, l[D.x - o]? = some p ∧ p.del = true ∧ D = p.di D.x
  | [], _, _, h => by cases h
  | p :: l, o, D, h => by
    have hrec : D ∈ dl (o + 1) l → o ≤ D.x ∧ ∃ q, (p :: l)[D.x - o]? = some q ∧ q.del = true ∧ D = q.di D.x := fun h => by
      obtain ⟨h1, q, h2, h3⟩ := dl_at h
      exact ⟨by omega, q, by rw [show D.x - o = (D.x - (o + 1)) + 1 by omega]; simpa using h2, h3⟩
    unfold dl at h
    split at h
    · rename_i hp
      rcases List.mem_cons.mp h with rfl | h
      · exact ⟨Nat.le_refl _, p, by simp [AP.di], hp, rfl⟩
      · exact hrec h
    · exact hrec h
theorem dl_of : ∀ {l : List AP} {o k : Nat} {p : AP}, l[k]? = some p → p.del = true → p.di (o + k) ∈ dl o l
  | [], _, _, _, h, _ => by simp at h
  | q :: l, o, 0, p, h, hp => by
    simp at h; subst h
    unfold dl; rw [if_pos hp]; simp
  | q :: l, o, k + 1, p, h, hp => by
    have := dl_of (o := o + 1) (l := l) (k := k) (by simpa using h) hp
    rw [show o + (k + 1) = o + 1 + k by omega]
    unfold dl
    split
    · exact List.mem_cons_of_mem _ this
    · exact this
theorem step_plain {S : MS} {p : AP} (h : p.del = false) : stepM S p = app S p.raw := by
  have : p.cl = false ∧ p.op = false := by simp [AP.del] at h; exact ⟨h.2, h.1⟩
  simp [stepM, this]
theorem flat_step {S : MS} {p : AP} (h : p.cl = true → pop p.raw S [] = none) : flatM (stepM S p) = flatM S ++ p.raw := by
  unfold stepM
  split
  · rename_i hc
    rw [h hc]
    dsimp only
    split
    · exact flat_push
    · exact flat_app'
  · split
    · exact flat_push
    · exact flat_app'
def DEnt (σ : St) (lo : Nat) (a : Nat) (s : List Nat) : Prop := (σ[a]? = some (dText s) ∧ endsS s [38] = false) ∨ ∃ c t0 s0, σ[a]? = some (dNode T_emph c) ∧ lo < c ∧ σ[c]? = some (.list [.ref t0]) ∧ σ[t0]? = some (dText s0) ∧ s = wrapS T_emph s0
theorem DEnt.go {σ σ' : St} {lo a : Nat} {s : List Nat} (h : ∀ (a : Nat) (fs : List (String × V)), σ[a]? = some (O.dict fs) → σ'[a]? = some (O.dict fs)) (hl : ∀ (c : Nat) (vs : List V), lo < c → σ[c]? = some (O.list vs) → σ'[c]? = some (O.list vs)) : DEnt σ lo a s → DEnt σ' lo a s
  | .inl ⟨e, he⟩ => .inl ⟨h _ _ e, he⟩
  | .inr ⟨c, t0, s0, e1, e2, e3, e4, e5⟩ => .inr ⟨c, t0, s0, h _ _ e1, e2, hl _ _ e2 e3, h _ _ e4, e5⟩
theorem dents_tolds {σ : St} {lo : Nat} : ∀ {as : List Nat} {ss : List (List Nat)}, All2 (DEnt σ lo) as ss → ∃ z, Tolds σ [] as ss.flatten 1 z
  | _, _, .nil => ⟨0, .nil⟩
  | _, _, .cons (.inl ⟨e, _⟩) r => let ⟨z, h⟩ := dents_tolds r; ⟨1 + z, .cons (by simp) (.text e) h⟩
  | _, _, .cons (.inr ⟨c, t0, s0, e1, e2, e3, e4, e5⟩) r => by
    obtain ⟨z, h⟩ := dents_tolds r
    subst e5
    have h1 : Tolds σ [] [t0] (s0 ++ []) 0 (1 + 0) := .cons (by simp) (.text e4) .nil
    rw [List.append_nil] at h1
    exact ⟨_, .cons (by simp) (.node (cs := [t0]) e1 (.inl rfl) (by simp) e3 h1) h⟩
theorem dents_ends {σ : St} {lo : Nat} {as : List Nat} {ss : List (List Nat)} (h : All2 (DEnt σ lo) as ss) : ∀ a ∈ as, ∀ s, σ[a]? = some (dText s) → endsS s [38] = false := by
  induction h with
  | nil => intro a ha; cases ha
  | @cons a s as ss e r ih =>
    intro b hb s' g
    rcases List.mem_cons.mp hb with rfl | hb
    · rcases e with ⟨e, he⟩ | ⟨c, t0, s0, e1, _⟩
      · rw [e] at g
        have : s = s' := by simpa using g
        rw [← this]; exact he
      · rw [e1] at g; simp at g
    · exact ih b hb s' g
/-- what the quick road sees when all is as it wants -/
structure DnOK (aps : List AP) (dis : List DI) (mk : Nat) : Prop where
  len : aps.length = 2 * dis.length
  at_ : ∀ (k : Nat) (D : DI), dis[k]? = some D → D.m = mk ∧ D.L = 1 ∧ D.x = 2 * k
theorem DnOK.ev {aps : List AP} {dis : List DI} {mk : Nat} (h : DnOK aps dis mk) (A : AOK aps) (hd : dis = dl 0 aps) {k : Nat} (hk : k < dis.length) : ∃ p, aps[2 * k]? = some p ∧ p.del = true ∧ dis[k]? = some (p.di (2 * k)) ∧ p.raw = [mk] := by
  obtain ⟨D, hD⟩ : ∃ D, dis[k]? = some D := ⟨_, List.getElem?_eq_getElem hk⟩
  obtain ⟨h1, h2, h3⟩ := h.at_ k D hD
  have hm := List.mem_of_getElem? hD
  rw [hd] at hm
  obtain ⟨_, p, e1, e2, e3⟩ := dl_at hm
  rw [Nat.sub_zero] at e1
  rw [h3] at e1 e3
  refine ⟨p, e1, e2, by rw [hD, e3], ?_⟩
  obtain ⟨m, n, _, _, hr⟩ := A.run p (List.mem_of_getElem? e1) e2
  rw [e3] at h1 h2
  have hl : p.raw.length = 1 := h2
  have hh : p.raw.headD 0 = mk := h1
  cases hp : p.raw with
  | nil => rw [hp] at hl; cases hl
  | cons a r =>
    rw [hp] at hl hh
    have : r = [] := List.length_eq_zero_iff.mp (by simpa using hl)
    subst this
    simp at hh; rw [hh]
theorem DnOK.od {aps : List AP} {dis : List DI} {mk : Nat} (h : DnOK aps dis mk) (hd : dis = dl 0 aps) {k : Nat} (hk : k < dis.length) : ∃ p, aps[2 * k + 1]? = some p ∧ p.del = false := by
  obtain ⟨p, hp⟩ : ∃ p, aps[2 * k + 1]? = some p := ⟨_, List.getElem?_eq_getElem (by rw [h.len]; omega)⟩
  refine ⟨p, hp, ?_⟩
  cases hdp : p.del with
  | false => rfl
  | true =>
    exfalso
    have := dl_of (o := 0) hp hdp
    rw [← hd] at this
    obtain ⟨j, hj⟩ := List.getElem?_of_mem this
    have := (h.at_ j _ hj).2.2
    have e : (p.di (0 + (2 * k + 1))).x = 0 + (2 * k + 1) := rfl
    rw [e] at this
    omega
/-- four parts on -/
theorem dense_step {aps : List AP} {dis : List DI} {mk : Nat} (h : DnOK aps dis mk) (A : AOK aps) (hd : dis = dl 0 aps) {i : Nat} (hi : 2 * i + 1 < dis.length) {s : List Nat} (hr : runM (aps.take (4 * i)) = ([], s))
    (ho : ∀ D, dis[2 * i]? = some D → D.co = true) (hc : ∀ D, dis[2 * i + 1]? = some D → D.cc = true) :
    ∃ p t u, aps[4 * i + 1]? = some t ∧ aps[4 * i + 3]? = some u ∧ t.raw ≠ [] ∧ runM (aps.take (4 * (i + 1))) = ([], s ++ wrapS T_emph t.raw ++ u.raw) ∧ dis[2 * i]? = some p := by
  obtain ⟨p, hp, pd, hpD, hpr⟩ := h.ev A hd (k := 2 * i) (by omega)
  obtain ⟨t, ht, td⟩ := h.od hd (k := 2 * i) (by omega)
  obtain ⟨q, hq, qd, hqD, hqr⟩ := h.ev A hd (k := 2 * i + 1) (by omega)
  obtain ⟨u, hu, ud⟩ := h.od hd (k := 2 * i + 1) (by omega)
  have pop' : p.op = true := ho _ hpD
  have qcl : q.cl = true := hc _ hqD
  rw [show 2 * (2 * i) = 4 * i by omega] at hp ht
  rw [show 2 * (2 * i + 1) = 4 * i + 2 by omega] at hq hu
  have tk : ∀ {k : Nat} {x : AP}, aps[k]? = some x → aps.take (k + 1) = aps.take k ++ [x] := fun {k x} e => by rw [List.take_add_one, e]; rfl
  have e4 : aps.take (4 * (i + 1)) = (((aps.take (4 * i) ++ [p]) ++ [t]) ++ [q]) ++ [u] := by
    rw [show 4 * (i + 1) = 4 * i + 3 + 1 by omega, tk hu, show 4 * i + 3 = 4 * i + 2 + 1 by omega, tk hq, show 4 * i + 2 = 4 * i + 1 + 1 by omega, tk ht, tk hp]
  refine ⟨_, t, u, ht, hu, A.ne t (List.mem_of_getElem? ht), ?_, hpD⟩
  rw [e4, runM_snoc, runM_snoc, runM_snoc, runM_snoc, hr]
  have s1 : stepM ([], s) p = ([([mk], [])], s) := by
    unfold stepM
    have : pop p.raw ([], s) [] = none := rfl
    rw [this, pop', hpr]
    split <;> rfl
  rw [s1, step_plain td]
  have s2 : app ([([mk], [])], s) t.raw = ([([mk], t.raw)], s) := rfl
  rw [s2]
  have s3 : stepM ([([mk], t.raw)], s) q = ([], s ++ wrapS T_emph t.raw) := by
    unfold stepM
    rw [if_pos qcl, hqr]
    have : pop [mk] ([([mk], t.raw)], s) [] = some ([], s ++ wr [mk] (t.raw ++ [])) := by
      show popTo [mk] [([mk], t.raw)] s [] = _
      unfold popTo; rw [if_pos rfl]; rfl
    rw [this]
    rw [List.append_nil]
    have := (wr_eq (L := 1) (r := [mk]) (c := t.raw) rfl)
    rw [← this]; rfl
  rw [s3, step_plain ud]
  rfl
end P1
end Mine
end

/-! W20 -/
section
open PySem PySem.W PyProof.Rows
set_option linter.unusedVariables false
set_option linter.unusedSimpArgs false
namespace Mine
local macro_rules | `(tactic| one_place) => `(tactic| first | assumption | (simp only [Loc.set, params_cons, params_nil, String.reduceEq, if_true, if_false, reduceIte]; first | rfl | assumption))
local macro_rules | `(tactic| one_item) => `(tactic| first | assumption | exact get_last | (apply get_app; (one_item)) | (apply get_set_eq; (one_item)) | (apply get_set_ne; (first | assumption | omega); (one_item)))
local macro_rules | `(tactic| leaf_len) => `(tactic| first | assumption | rfl | (focus (simp; done)))
local macro_rules | `(tactic| l_ints) => `(tactic| first | assumption | (apply idx_list; (one_item); rfl; (assumption)) | (apply idx_tuple; (one_item); rfl; (assumption)) | (apply idx_list (k := 0); (one_item); rfl; rfl) | (apply idx_tuple (k := 0); (one_item); rfl; rfl) | (apply idx_tuple (k := 1); (one_item); rfl; rfl) | exact idx_str rfl (by assumption))
local macro_rules | `(tactic| pv_eval) => `(tactic| first
  | exact e_int | exact e_str | exact e_bool | exact e_non | exact e_nil
  | (apply e_var; (one_place))
  | (apply e_attr; (pv_eval); (one_item); (leaf_len))
  | (apply e_dget; (pv_eval); (one_item); (leaf_len))
  | (apply e_dhas; (pv_eval); (one_item); (leaf_len))
  | (apply e_dhasnt; (pv_eval); (one_item); (leaf_len))
  | (apply e_dgetd; (pv_eval); (one_item); (pv_eval); (leaf_len))
  | (apply e_sub; (pv_eval); (pv_eval); (l_ints))
  | (apply e_cmp; (pv_eval); (pv_eval); (leaf_len))
  | (apply e_bin; (pv_eval); (pv_eval); (leaf_len))
  | (apply e_lnot; (pv_eval); (one_sign))
  | (apply e_neg; (pv_eval))
  | (apply e_isNone; (pv_eval))
  | (apply e_ands; (modx_arm))
  | (apply e_ors; (modx_arm))
  | (apply e_iteT; (pv_eval); (one_sign); (pv_eval))
  | (apply e_iteF; (pv_eval); (one_sign); (pv_eval))
  | (apply e_list; (mod_arm))
  | (apply e_tuple; (mod_arm))
  | (apply e_dict; (o_shape))
  | exact e_tdict
  | (apply e_bcall; (mod_arm); (first | assumption | (apply len_list; (one_item)) | rfl))
  | (apply e_call; (mod_arm); (assumption))
  | (apply e_slice; (pv_eval); (pv_eval); (pv_eval); (assumption))
  | (apply e_bmeth; (pv_eval); (first | assumption | (apply mOk_str; (focus (simp; done))) | (apply mOk_list; (one_item); (focus (simp; done)))); (mod_arm); (first | assumption | rfl)))
local macro_rules | `(tactic| modx_arm) => `(tactic| first
  | (apply b_last; (pv_eval))
  | (apply b_go; (pv_eval); (one_sign); (modx_arm))
  | (apply b_stop; (pv_eval); (one_sign)))
local macro_rules | `(tactic| mod_arm) => `(tactic| first | exact l_nil | (apply l_cons; (pv_eval); (mod_arm)))
local macro_rules | `(tactic| o_shape) => `(tactic| first | exact kv_nil | (apply kv_cons; (pv_eval); (o_shape)))
local macro_rules | `(tactic| one_sign) => `(tactic| first | rfl | assumption | exact (truthy_list (by one_item)).trans rfl | (refine congrArg some ?_; first | (apply decide_eq_true; (omega)) | (apply decide_eq_false; (omega)) | assumption | (focus (simp; done)) | (focus (simp; omega)) | (focus (simp [*]; done))))
namespace P1
variable {d : Nat}
/-- what the quick road leaves -/
def DnPost (σ0 : St) (p : Nat) (aps : List AP) (b : Bool) (σ' : St) : Prop :=
  (b = false → Fr [] σ0 σ') ∧ (b = true → ∃ ps' k z, σ'[p]? = some (.list (ps'.map .ref)) ∧ Tolds σ' [] ps' (flatM (runM aps)) k z ∧ k ≤ 17 ∧ ps'.length ≤ 1000 ∧ (∀ a ∈ ps', ∀ s, σ'[a]? = some (dText s) → endsS s [38] = false) ∧ KL [p] σ0 σ')
theorem dn_false {σ0 σ' : St} {p : Nat} {aps : List AP} (f : Fr [] σ0 σ') : DnPost σ0 p aps false σ' := ⟨fun _ => f, fun h => by cases h⟩
theorem all2_drop {α β : Type} {R : α → β → Prop} {as : List α} {bs : List β} (h : All2 R as bs) (n : Nat) : All2 R (as.drop n) (bs.drop n) := h.drop n
theorem flat_tail {s : List Nat} : ∀ {l : List AP}, (l = [] ∨ ∃ p t, l = [p, t] ∧ t.del = false) → flatM (l.foldl stepM ([], s)) = s ++ (l.map (·.raw)).flatten := by
  intro l h
  rcases h with rfl | ⟨p, t, rfl, ht⟩
  · simp [flatM]
  · simp only [List.foldl_cons, List.foldl_nil]
    rw [step_plain ht, flat_app', flat_step (fun _ => rfl)]
    simp [flatM]
set_option maxHeartbeats 2000000 in
theorem s_dense {σ : St} {p q : Nat} {ps ds : List Nat} {dis : List DI} {aps : List AP} (hp : σ[p]? = some (.list (ps.map .ref))) (hq : σ[q]? = some (.list (ds.map .ref))) (hpq : p ≠ q) (hp0 : p ≠ 0) (A : AOK aps) (hd : dis = dl 0 aps) (hal : aps.length ≤ 17)
    (hpa : All2 (fun a (p : AP) => σ[a]? = some (dText p.raw)) ps aps) (hdl : ds.length = dis.length) (hdll : dis.length ≤ 17)
    (hdo : ∀ (k : Nat) (D : DI), dis[k]? = some D → ∃ a, ds[k]? = some a ∧ σ[a]? = some (Dlm D.x D.m D.L D.co D.cc D.L k)) :
    ∃ b σ', callN prog (d + 2) "_process_dense_emphasis" [.ref p, .ref q] σ = some (.bool b, σ') ∧ DnPost σ p aps b σ' := by
  have hpsl : ps.length = aps.length := hpa.length
  have hlq : ∀ {σ' : St}, Fr [] σ σ' → builtinF σ' "len" [.ref q] = some (.int dis.length, σ') := fun f => by
    have := len_list (f.get0 hq); rw [List.length_map, hdl] at this; exact this
  have hlp : ∀ {σ' : St}, Fr [] σ σ' → builtinF σ' "len" [.ref p] = some (.int ps.length, σ') := fun f => by
    have := len_list (f.get0 hp); rw [List.length_map] at this; exact this
  have hlq0 := hlq (σ' := σ) Fr.refl
  have hDx : ∀ (k : Nat) (D : DI), dis[k]? = some D → D.x < aps.length ∧ isMk D.m = true := by
    intro k D hk
    have hm := List.mem_of_getElem? hk
    rw [hd] at hm
    obtain ⟨_, p', e1, e2, e3⟩ := dl_at hm
    rw [Nat.sub_zero] at e1
    refine ⟨(List.getElem?_eq_some_iff.mp e1).1, ?_⟩
    obtain ⟨m, n, h1, h2, h3⟩ := A.run p' (List.mem_of_getElem? e1) e2
    rw [e3]
    show isMk (p'.raw.headD 0) = true
    rw [h3]; rcases h2 with rfl | rfl <;> exact h1
  by_cases h4 : dis.length < 4
  · have hlt : cmpOp σ .lt (.int (dis.length : Nat)) (.int 4) = some true := congrArg some (decide_eq_true (by omega))
    exact ⟨false, σ, call1 rfl rfl (runR (run_ifT (v := .bool true) (by pv_eval) rfl (runR (run_ret (by pv_eval))))), dn_false Fr.refl⟩
  have hlt : cmpOp σ .lt (.int (dis.length : Nat)) (.int 4) = some false := congrArg some (decide_eq_false (by omega))
  obtain ⟨D0, hD0⟩ : ∃ D, dis[0]? = some D := ⟨_, List.getElem?_eq_getElem (by omega)⟩
  obtain ⟨a0, ha0, g0⟩ := hdo 0 D0 hD0
  generalize hmk : D0.m = mk at g0
  have hmkm : isMk mk = true := by rw [← hmk]; exact (hDx 0 D0 hD0).2
  have ha0v : (ds.map V.ref)[0]? = some (.ref a0) := by simp [ha0]
  have hix0 : index σ (.ref q) (.int 0) = some (.ref a0) := idx_list hq (k := 0) rfl ha0v
  let σ1 := σ ++ [O.tuple [.str [42], .str [95]]]
  have f1 : Fr [] σ σ1 := Fr.app
  have hq1 := f1.get0 hq
  have hp1 := f1.get0 hp
  have hnotin : cmpOp σ1 .notin (.str [mk]) (.ref σ.length) = some false := by
    have hg : σ1[σ.length]? = some (.tuple [.str [42], .str [95]]) := get_last
    show notIn σ1 (.str [mk]) (.ref σ.length) = some false
    simp only [notIn, hg, allStrs, Option.map_some]
    simp [isMk] at hmkm
    rcases hmkm with rfl | rfl <;> rfl
  have hlp1 := hlp f1
  have hlq1 := hlq f1
  have hmul : binOp σ1 .mul (.int (dis.length : Nat)) (.int 2) = some (.int ((2 * dis.length : Nat) : Int), σ1) := by
    simp only [binOp]
    rw [if_pos (by unfold LIM; omega)]
    congr 3; omega
  by_cases hL : ps.length = 2 * dis.length
  rotate_left
  · have hne : cmpOp σ1 .ne (.int (ps.length : Nat)) (.int ((2 * dis.length : Nat) : Int)) = some true := by
      show some (((ps.length : Nat) : Int) != ((2 * dis.length : Nat) : Int)) = _
      congr 1; simp; omega
    exact ⟨false, σ1, call1 rfl rfl (runN (x_ifF (v := .bool false) (by pv_eval) rfl x_done) (runN (x_assign (by pv_eval)) (runR (run_ifT (v := .bool true) (by pv_eval) rfl (runR (run_ret (by pv_eval))))))), dn_false f1⟩
  have hne : cmpOp σ1 .ne (.int (ps.length : Nat)) (.int ((2 * dis.length : Nat) : Int)) = some false := by
    show some (((ps.length : Nat) : Int) != ((2 * dis.length : Nat) : Int)) = _
    rw [hL]; simp
  let ℓ1 := (params ["parts", "delimiters"] [.ref p, .ref q]).set "marker" (.str [mk])
  -- the look at all
  obtain ⟨fl, ℓ2, σ2, hx1, hpost1⟩ := for_inv (src := .enum q) (t := .many ["index", "delimiter"]) (n := dis.length) (b := fun ℓ σ => execS (callN prog (d + 1)) (match f_process_dense_emphasis.body with | .seq _ (.seq _ (.seq _ (.seq (.forS _ _ b) _))) => b | s => s) ℓ σ)
    (fun k ℓ σ' => σ' = σ1 ∧ ℓ "marker" = some (.str [mk]) ∧ ℓ "parts" = some (.ref p) ∧ ℓ "delimiters" = some (.ref q) ∧ ∀ (j : Nat) (D : DI), j < k → dis[j]? = some D → D.m = mk ∧ D.L = 1 ∧ D.x = 2 * j)
    (fun fl ℓ σ' => σ' = σ1 ∧ (fl = .ret (.bool false) ∨ fl = .next ∧ ℓ "parts" = some (.ref p) ∧ ℓ "delimiters" = some (.ref q) ∧ ∀ (j : Nat) (D : DI), j < dis.length → dis[j]? = some D → D.m = mk ∧ D.L = 1 ∧ D.x = 2 * j))
    (fun k ℓ σ' _ hi => by rw [hi.1, size_enum hq1, List.length_map, hdl]) (fun k ℓ σ' hk hi => by
      obtain ⟨rfl, l1, l2, l3, hall⟩ := hi
      obtain ⟨D, hDk⟩ : ∃ D, dis[k]? = some D := ⟨_, List.getElem?_eq_getElem hk⟩
      obtain ⟨a, ha, g⟩ := hdo k D hDk
      have g1 : σ1[a]? = some (Dlm D.x D.m D.L D.co D.cc D.L k) := f1.get0 g
      obtain ⟨hx, _⟩ := hDx k D hDk
      have hb : (Src.enum q).bind σ1 ℓ (.many ["index", "delimiter"]) k = some ((ℓ.set "index" (.int k)).set "delimiter" (.ref a)) := bind_enum hq1 (by simp [ha])
      by_cases c1 : D.m = mk
      rotate_left
      · have e1 : cmpOp σ1 .ne (.str [D.m]) (.str [mk]) = some true := by show some ([D.m] != [mk]) = _; simp [c1]
        exact ⟨_, _, _, _, hb, seqR (x_ifT (v := .bool true) (by pv_eval) rfl (seqR (x_ret (by pv_eval)))), .inr ⟨_, rfl, rfl, .inl rfl⟩⟩
      have e1 : cmpOp σ1 .ne (.str [D.m]) (.str [mk]) = some false := by show some ([D.m] != [mk]) = _; simp [c1]
      by_cases c2 : D.L = 1
      rotate_left
      · have e2 : cmpOp σ1 .ne (.int (D.L : Nat)) (.int 1) = some true := by show some (((D.L : Nat) : Int) != 1) = _; congr 1; simp; omega
        exact ⟨_, _, _, _, hb, seqR (x_ifT (v := .bool true) (by pv_eval) rfl (seqR (x_ret (by pv_eval)))), .inr ⟨_, rfl, rfl, .inl rfl⟩⟩
      have e2 : cmpOp σ1 .ne (.int (D.L : Nat)) (.int 1) = some false := by show some (((D.L : Nat) : Int) != 1) = _; rw [c2]; rfl
      have m1 : binOp σ1 .mul (.int (k : Nat)) (.int 2) = some (.int ((2 * k : Nat) : Int), σ1) := by
        simp only [binOp]
        rw [if_pos (by unfold LIM; omega)]
        congr 3; omega
      by_cases c3 : D.x = 2 * k
      rotate_left
      · have e3 : cmpOp σ1 .ne (.int (D.x : Nat)) (.int ((2 * k : Nat) : Int)) = some true := by show some (((D.x : Nat) : Int) != ((2 * k : Nat) : Int)) = _; congr 1; simp; omega
        exact ⟨_, _, _, _, hb, seqR (x_ifT (v := .bool true) (by pv_eval) rfl (seqR (x_ret (by pv_eval)))), .inr ⟨_, rfl, rfl, .inl rfl⟩⟩
      have e3 : cmpOp σ1 .ne (.int (D.x : Nat)) (.int ((2 * k : Nat) : Int)) = some false := by show some (((D.x : Nat) : Int) != ((2 * k : Nat) : Int)) = _; rw [c3]; simp
      obtain ⟨x1, hx1⟩ : ∃ e, ps[D.x]? = some e := ⟨_, List.getElem?_eq_getElem (by omega)⟩
      obtain ⟨x2, hx2⟩ : ∃ e, ps[D.x + 1]? = some e := ⟨_, List.getElem?_eq_getElem (by omega)⟩
      obtain ⟨p1, _, k1⟩ := hpa.get hx1
      obtain ⟨p2, _, k2⟩ := hpa.get hx2
      have i1 : index σ1 (.ref p) (.int (D.x : Nat)) = some (.ref x1) := idx_list hp1 rfl (by simp [hx1])
      have i2 : index σ1 (.ref p) (.int ((D.x : Int) + 1)) = some (.ref x2) := idx_list hp1 (k := D.x + 1) (by omega) (by simp [hx2])
      have k1' : σ1[x1]? = some (dText p1.raw) := f1.get0 k1
      have k2' : σ1[x2]? = some (dText p2.raw) := f1.get0 k2
      refine ⟨_, .next, _, _, hb, seqN (x_ifF (v := .bool false) (by pv_eval) rfl x_done) x_done, .inl ⟨.inl rfl, rfl, by one_place, by one_place, by one_place, fun j D' hj hD' => ?_⟩⟩
      by_cases hjk : j = k
      · subst hjk; rw [hDk] at hD'; cases hD'; exact ⟨c1, c2, c3⟩
      · exact hall j D' (by omega) hD') (fun ℓ σ' hi => ⟨hi.1, .inr ⟨rfl, hi.2.2.1, hi.2.2.2.1, hi.2.2.2.2⟩⟩) dis.length 0 ℓ1 σ1 (by omega) ⟨rfl, by one_place, by one_place, by one_place, fun j D hj => by omega⟩
  obtain ⟨rfl, hpost1⟩ := hpost1
  have hfor1 : execS (callN prog (d + 1)) (match f_process_dense_emphasis.body with | .seq _ (.seq _ (.seq _ (.seq f _))) => f | s => s) ℓ1 σ1 = some (fl, ℓ2, σ1) := run_for (src_enum (by pv_eval)) (by rw [size_enum hq1, List.length_map, hdl]) hx1
  rcases hpost1 with rfl | ⟨rfl, lp, lq, hall⟩
  · exact ⟨false, σ1, call1 rfl rfl (runN (x_ifF (v := .bool false) (by pv_eval) rfl x_done) (runN (x_assign (by pv_eval)) (runN (x_ifF (v := .bool false) (by pv_eval) rfl x_done) (runR (run_of hfor1))))), dn_false f1⟩
  have ok : DnOK aps dis mk := ⟨by omega, fun k D hk => hall k D (List.getElem?_eq_some_iff.mp hk).1 hk⟩
  -- the pairs
  obtain ⟨pc, hpc⟩ : ∃ pc, dis.length = 2 * pc ∨ dis.length = 2 * pc + 1 := ⟨dis.length / 2, by omega⟩
  have hpc2 : 2 ≤ pc := by omega
  have hdiv : binOp σ1 .fdiv (.int (dis.length : Nat)) (.int 2) = some (.int (pc : Nat), σ1) := by
    simp only [binOp]
    rw [if_pos (by unfold LIM; omega)]
    congr 3
    rw [Int.fdiv_eq_ediv_of_nonneg _ (by omega)]; omega
  let σ2 := σ1 ++ [O.list []]
  have f2 : Fr [] σ σ2 := f1.trans Fr.app
  have hgt : ∀ k : Nat, k < dis.length → ∃ D a, dis[k]? = some D ∧ ds[k]? = some a ∧ σ[a]? = some (Dlm D.x D.m D.L D.co D.cc D.L k) := fun k hk => by
    obtain ⟨D, hD⟩ : ∃ D, dis[k]? = some D := ⟨_, List.getElem?_eq_getElem hk⟩
    obtain ⟨a, h1, h2⟩ := hdo k D hD
    exact ⟨D, a, hD, h1, h2⟩
  have hpt : ∀ k : Nat, k < ps.length → ∃ e t, ps[k]? = some e ∧ aps[k]? = some t ∧ σ[e]? = some (dText t.raw) := fun k hk => by
    obtain ⟨e, he⟩ : ∃ e, ps[k]? = some e := ⟨_, List.getElem?_eq_getElem hk⟩
    obtain ⟨t, h1, h2⟩ := hpa.get he
    exact ⟨e, t, he, h1, h2⟩
  let pr := σ1.length
  have hprl : σ.length < pr := by show σ.length < σ1.length; simp [σ1]
  let I : Nat → Loc → St → Prop := fun i ℓ σ' => Fr [] σ σ' ∧ ℓ "parts" = some (.ref p) ∧ ℓ "delimiters" = some (.ref q) ∧ ℓ "processed" = some (.ref pr) ∧ ℓ "pair_count" = some (.int (pc : Nat)) ∧ ∃ as ss s, σ'[pr]? = some (.list (as.map .ref)) ∧ All2 (DEnt σ' pr) as ss ∧ runM (aps.take (4 * i)) = ([], s) ∧ as.length ≤ 2 * i ∧
    ((i = 0 ∧ s = ss.flatten) ∨ ∃ u, 0 < i ∧ aps[4 * i - 1]? = some u ∧ s = ss.flatten ++ u.raw)
  let Q : Fl → Loc → St → Prop := fun fl ℓ σ' => (fl = .ret (.bool false) ∧ Fr [] σ σ') ∨ (fl = .next ∧ I pc ℓ σ')
  obtain ⟨fl, ℓ3, σ3, hx2, hpost2⟩ := for_inv (src := .rng 0 (pc : Nat)) (t := .one "pair_index") (n := pc) (b := fun ℓ σ => execS (callN prog (d + 1)) (match f_process_dense_emphasis.body with | .seq _ (.seq _ (.seq _ (.seq _ (.seq _ (.seq _ (.seq (.forS _ _ b) _)))))) => b | s => s) ℓ σ) I Q
    (fun k ℓ σ' _ hi => by simp [Src.size]) (fun i ℓ σ' hi hI => by
      obtain ⟨fr, l1, l2, l3, l4, as, ss, s, gpr, hE, hrun, hasl, hs⟩ := hI
      obtain ⟨Do, ao, hDo, hao, go⟩ := hgt (2 * i) (by omega)
      obtain ⟨Dc, ac, hDc, hac, gc⟩ := hgt (2 * i + 1) (by omega)
      obtain ⟨o1, o2, o3⟩ := hall _ _ (by omega) hDo
      obtain ⟨c1, c2, c3⟩ := hall _ _ (by omega) hDc
      have go1 := fr.get0 go
      have gc1 := fr.get0 gc
      have hb : (Src.rng 0 (pc : Nat)).bind σ' ℓ (.one "pair_index") i = some (ℓ.set "pair_index" (.int (i : Nat))) := by simp [Src.bind]
      have m1 : ∀ σ'', binOp σ'' .mul (.int (i : Nat)) (.int 2) = some (.int ((2 * i : Nat) : Int), σ'') := fun σ'' => by
        simp only [binOp]
        rw [if_pos (by unfold LIM; omega)]
        congr 3; omega
      have m1' := m1 σ'
      have hq' := fr.get0 hq
      have hp' := fr.get0 hp
      have x1 : index σ' (.ref q) (.int ((2 * i : Nat) : Int)) = some (.ref ao) := idx_list hq' rfl (by simp [hao])
      have x2 : index σ' (.ref q) (.int (((2 * i : Nat) : Int) + 1)) = some (.ref ac) := idx_list hq' (k := 2 * i + 1) (by omega) (by simp [hac])
      cases hco : Do.co with
      | false =>
        rw [hco] at go1
        exact ⟨_, _, _, _, hb, seqN (x_assign (by pv_eval)) (seqN (x_assign (by pv_eval)) (seqR (x_ifT (v := .bool (!false)) (by pv_eval) rfl (seqR (x_ret (by pv_eval)))))), .inr ⟨_, rfl, .inl ⟨rfl, fr⟩⟩⟩
      | true =>
        rw [hco] at go1
        cases hcc : Dc.cc with
        | false =>
          rw [hcc] at gc1
          exact ⟨_, _, _, _, hb, seqN (x_assign (by pv_eval)) (seqN (x_assign (by pv_eval)) (seqR (x_ifT (v := .bool (!false)) (by pv_eval) rfl (seqR (x_ret (by pv_eval)))))), .inr ⟨_, rfl, .inl ⟨rfl, fr⟩⟩⟩
        | true =>
          rw [hcc] at gc1
          rw [o2] at go1
          rw [c2] at gc1
          have hcm := s_can_match (d := d) go1 gc1 rfl rfl rfl rfl (.inl rfl)
          obtain ⟨pp, t, u, ht, hu, htne, hrun2, _⟩ := dense_step ok A hd (i := i) (by omega) hrun (fun D e => by rw [hDo] at e; cases e; exact hco) (fun D e => by rw [hDc] at e; cases e; exact hcc)
          obtain ⟨et, t', het, ht', gt⟩ := hpt (4 * i + 1) (by omega)
          rw [ht] at ht'; cases ht'
          have gt1 := fr.get0 gt
          have hcut : cut ps (4 * i + 1) (4 * i + 2) = [et] := by
            unfold cut
            rw [show 4 * i + 2 - (4 * i + 1) = 1 by omega, List.drop_eq_getElem_cons (by omega)]
            have := List.getElem?_eq_getElem (l := ps) (i := 4 * i + 1) (by omega)
            rw [het] at this
            simp only [List.take_succ_cons, List.take_zero]
            rw [Option.some.inj this]
          obtain ⟨bb, σ4, hcon, f4, hb4⟩ := s_content (d := d) (i := 4 * i + 1) (j := 4 * i + 2) hp' (by omega) (by omega) (by omega) (by rw [hcut]; intro a ha; rw [List.mem_singleton.mp ha]; exact .inl ⟨_, gt1⟩)
          have hbt := hb4 ⟨et, by rw [hcut]; simp, .inl ⟨_, gt1, htne⟩⟩
          subst hbt
          have fr4 := fr.trans f4
          have a1 : binOp σ' .add (.int (Do.x : Nat)) (.int 1) = some (.int ((4 * i + 1 : Nat) : Int), σ') := by simp only [binOp]; congr 3; omega
          have hDcx : (Dc.x : Nat) = 4 * i + 2 := by omega
          have hcall : evalE (callN prog (d + 1)) (.call "_has_emphasis_content" (.cons (.var "parts") (.cons (.bin .add (.attr (.var "opener") "index") (.int 1)) (.cons (.attr (.var "closer") "index") .nil)))) (((ℓ.set "pair_index" (.int (i : Nat))).set "opener" (.ref ao)).set "closer" (.ref ac)) σ' = some (.bool true, σ4) := by
            refine e_call (vs := [.ref p, .int ((4 * i + 1 : Nat) : Int), .int (Dc.x : Nat)]) (by mod_arm) ?_
            rw [hDcx]; exact hcon
          have hcond : evalE (callN prog (d + 1)) (.ors (.cons (.lnot (.attr (.var "opener") "can_open")) (.cons (.lnot (.attr (.var "closer") "can_close")) (.cons (.lnot (.call "_can_match_emphasis_delimiters" (.cons (.var "opener") (.cons (.var "closer") .nil)))) (.cons (.lnot (.call "_has_emphasis_content" (.cons (.var "parts") (.cons (.bin .add (.attr (.var "opener") "index") (.int 1)) (.cons (.attr (.var "closer") "index") .nil))))) .nil))))) (((ℓ.set "pair_index" (.int (i : Nat))).set "opener" (.ref ao)).set "closer" (.ref ac)) σ' = some (.bool (!true), σ4) :=
            e_ors (b_go (v := .bool (!true)) (by pv_eval) rfl (b_go (v := .bool (!true)) (by pv_eval) rfl (b_go (v := .bool (!true)) (by pv_eval) rfl (b_last (e_lnot hcall rfl)))))
          have go4 := fr4.get0 go
          rw [hco, o2] at go4
          have hp4 := fr4.get0 hp
          have gpr4 := f4.get0 gpr
          have hE4 : All2 (DEnt σ4 pr) as ss := hE.mono fun a s q => q.go (fun a fs e => f4.get0 e) fun c vs _ e => f4.get0 e
          have kpd : ∀ {σ'' : St} {vs vs' : List V}, σ''[pr]? = some (.list vs) → (∀ a fs, σ''[a]? = some (O.dict fs) → (σ''.set pr (.list vs'))[a]? = some (O.dict fs)) ∧ ∀ (c : Nat) ws, pr < c → σ''[c]? = some (O.list ws) → (σ''.set pr (.list vs'))[c]? = some (O.list ws) := fun h => ⟨fun a fs e => get_set_ne (not_dict_of_list h e) e, fun c ws hc e => get_set_ne (by omega) e⟩
          -- what stands before the pair
          obtain ⟨σ5, as5, ss5, hst5, f5, gpr5, hE5, hs5, hl5⟩ : ∃ σ5 as5 ss5, execS (callN prog (d + 1)) (.ifS (.var "pair_index") (.seq (.expr (.bmeth (.var "processed") "append" (.cons (.sub (.var "parts") (.bin .sub (.attr (.var "opener") "index") (.int 1))) .nil))) .done) .done) (((ℓ.set "pair_index" (.int (i : Nat))).set "opener" (.ref ao)).set "closer" (.ref ac)) σ4 =
              some (.next, (((ℓ.set "pair_index" (.int (i : Nat))).set "opener" (.ref ao)).set "closer" (.ref ac)), σ5) ∧ Fr [] σ σ5 ∧ σ5[pr]? = some (.list (as5.map .ref)) ∧ All2 (DEnt σ5 pr) as5 ss5 ∧ s = ss5.flatten ∧ as5.length ≤ 2 * i + 1 := by
            rcases hs with ⟨hi0, hs⟩ | ⟨u', hi0, hu', hs⟩
            · subst hi0
              exact ⟨σ4, as, ss, x_ifF (v := .int ((0 : Nat) : Int)) (by pv_eval) rfl x_done, fr4, gpr4, hE4, hs, by omega⟩
            · obtain ⟨eu, u2, heu, hu2, gu⟩ := hpt (4 * i - 1) (by omega)
              rw [hu'] at hu2; cases hu2
              have gu4 := fr4.get0 gu
              have b1 : binOp σ4 .sub (.int (Do.x : Nat)) (.int 1) = some (.int ((4 * i - 1 : Nat) : Int), σ4) := by simp only [binOp]; congr 3; omega
              have y1 : index σ4 (.ref p) (.int ((4 * i - 1 : Nat) : Int)) = some (.ref eu) := idx_list hp4 rfl (by simp [heu])
              have happ : builtinM σ4 (.ref pr) "append" [.ref eu] = some (.none, σ4.set pr (.list ((as ++ [eu]).map .ref))) := by
                rw [List.map_append]; exact app_list gpr4 ⟨by rw [List.length_map]; unfold LIM; omega, by omega⟩
              have htr : truthy σ4 (.int (i : Nat)) = some true := congrArg some (bne_iff_ne.mpr (by omega))
              refine ⟨_, as ++ [eu], ss ++ [u'.raw], x_ifT (v := .int (i : Nat)) (by pv_eval) htr (seqN (x_expr (by pv_eval)) x_done), fr4.setNew (.inr (Nat.le_of_lt hprl)), get_set_eq gpr4, All2.append (hE4.mono fun a s q => q.go (kpd gpr4).1 (kpd gpr4).2) (.cons (.inl ⟨(kpd gpr4).1 _ _ gu4, A.ends _ (List.mem_of_getElem? hu')⟩) .nil), by rw [hs]; simp, by simp; omega⟩
          have hp5 := f5.get0 hp
          have go5 := f5.get0 go
          have gt5 := f5.get0 gt
          rw [hco, o2] at go5
          have b2 : binOp σ5 .add (.int (Do.x : Nat)) (.int 1) = some (.int ((4 * i + 1 : Nat) : Int), σ5) := by simp only [binOp]; congr 3; omega
          have y2 : index σ5 (.ref p) (.int ((4 * i + 1 : Nat) : Int)) = some (.ref et) := idx_list hp5 rfl (by simp [het])
          have hpr5 : pr < σ5.length := get_lt gpr5
          let σ6 := (σ5 ++ [O.list [.ref et]]) ++ [dNode T_emph σ5.length]
          have hl6 : (σ5 ++ [O.list [.ref et]]).length = σ5.length + 1 := by simp
          have gpr6 : σ6[pr]? = some (.list (as5.map .ref)) := get_app (get_app gpr5)
          have happ2 : builtinM σ6 (.ref pr) "append" [.ref (σ5 ++ [O.list [.ref et]]).length] = some (.none, σ6.set pr (.list ((as5 ++ [σ5.length + 1]).map .ref))) := by
            rw [List.map_append, hl6]; exact app_list gpr6 ⟨by rw [List.length_map]; unfold LIM; omega, by omega⟩
          refine ⟨_, .next, _, _, hb, seqN (x_assign (by pv_eval)) (seqN (x_assign (by pv_eval)) (seqN (x_ifF hcond rfl x_done) (seqN hst5 (seqN (x_expr (by pv_eval)) x_done)))), .inl ⟨.inl rfl, ((f5.trans Fr.app).trans Fr.app).setNew (.inr (Nat.le_of_lt hprl)), by one_place, by one_place, by one_place, by one_place, as5 ++ [σ5.length + 1], ss5 ++ [wrapS T_emph t.raw], _, get_set_eq gpr6, ?_, hrun2, by simp; omega, .inr ⟨u, by omega, by rw [show 4 * (i + 1) - 1 = 4 * i + 3 by omega]; exact hu, by rw [hs5]; simp⟩⟩⟩
          refine All2.append (hE5.mono fun a s q => (q.go (σ' := σ6) (fun a fs e => get_app (get_app e)) fun c vs _ e => get_app (get_app e)).go (kpd gpr6).1 (kpd gpr6).2) (.cons (.inr ⟨σ5.length, et, t.raw, ?_, hpr5, ?_, ?_, rfl⟩) .nil)
          · refine (kpd gpr6).1 _ _ ?_
            rw [← hl6]; exact get_last
          · exact (kpd gpr6).2 _ _ hpr5 (get_app get_last)
          · exact (kpd gpr6).1 _ _ (get_app (get_app gt5))) (fun ℓ σ' hi => .inr ⟨rfl, hi⟩) pc 0 ((ℓ2.set "pair_count" (.int (pc : Nat))).set "processed" (.ref pr)) σ2 (by omega)
    ⟨f2, by one_place, by one_place, by one_place, by one_place, [], [], [], get_last, .nil, rfl, by simp, .inl ⟨rfl, rfl⟩⟩
  have hfor2 : execS (callN prog (d + 1)) (match f_process_dense_emphasis.body with | .seq _ (.seq _ (.seq _ (.seq _ (.seq _ (.seq _ (.seq f _)))))) => f | s => s) ((ℓ2.set "pair_count" (.int (pc : Nat))).set "processed" (.ref pr)) σ2 = some (fl, ℓ3, σ3) :=
    run_for (src_rng (y := (pc : Nat)) (by pv_eval) (by pv_eval) ⟨by decide, by unfold LIM; omega⟩) (by simp [Src.size]) hx2
  rcases hpost2 with ⟨rfl, fr⟩ | ⟨rfl, fr, l1, l2, l3, l4, as, ss, s, gpr, hE, hrun, hasl, hs⟩
  · exact ⟨false, σ3, call1 rfl rfl (runN (x_ifF (v := .bool false) (by pv_eval) rfl x_done) (runN (x_assign (by pv_eval)) (runN (x_ifF (v := .bool false) (by pv_eval) rfl x_done) (runN hfor1 (runN (x_assign (by pv_eval)) (runN (x_assign (by pv_eval)) (runR (run_of hfor2)))))))), dn_false fr⟩
  · obtain ⟨u, _, hu, hs⟩ : ∃ u, 0 < pc ∧ aps[4 * pc - 1]? = some u ∧ s = ss.flatten ++ u.raw := by
      rcases hs with ⟨h0, _⟩ | h
      · omega
      · exact h
    obtain ⟨Dl, al, hDl, hal', gl⟩ := hgt (2 * pc - 1) (by omega)
    obtain ⟨_, _, d3⟩ := hall _ _ (by omega) hDl
    have gl3 := fr.get0 gl
    have hp3 := fr.get0 hp
    have hq3 := fr.get0 hq
    have m3 : binOp σ3 .mul (.int (pc : Nat)) (.int 2) = some (.int ((2 * pc : Nat) : Int), σ3) := by
      simp only [binOp]
      rw [if_pos (by unfold LIM; omega)]
      congr 3; omega
    have m4 : binOp σ3 .sub (.int ((2 * pc : Nat) : Int)) (.int 1) = some (.int ((2 * pc - 1 : Nat) : Int), σ3) := by simp only [binOp]; congr 3; omega
    have x3 : index σ3 (.ref q) (.int ((2 * pc - 1 : Nat) : Int)) = some (.ref al) := idx_list hq3 rfl (by simp [hal'])
    have a3 : binOp σ3 .add (.int (Dl.x : Nat)) (.int 1) = some (.int ((4 * pc - 1 : Nat) : Int), σ3) := by simp only [binOp]; congr 3; omega
    have hLm : (ps.map V.ref).length ≤ LIM := by rw [List.length_map]; unfold LIM; omega
    have hcutl : cut (ps.map V.ref) (4 * pc - 1) (ps.map V.ref).length = (ps.drop (4 * pc - 1)).map .ref := by
      rw [List.length_map, cut_map]
      unfold cut
      rw [List.take_of_length_le (by rw [List.length_drop]; omega)]
    let σ4 := σ3 ++ [O.list ((ps.drop (4 * pc - 1)).map .ref)]
    have hsl : sliceOf σ3 (.ref p) (.int ((4 * pc - 1 : Nat) : Int)) .none = some (.ref σ3.length, σ4) := by
      have := slice_list (v := .int ((4 * pc - 1 : Nat) : Int)) (w := .none) hp3 (bnd_nat (k := 4 * pc - 1) rfl (by rw [List.length_map]; omega) hLm) rfl
      rw [hcutl] at this; exact this
    have gpr4 : σ4[pr]? = some (.list (as.map .ref)) := get_app gpr
    let σ5 := σ4 ++ [O.list ((as ++ ps.drop (4 * pc - 1)).map .ref)]
    have hadd : binOp σ4 .add (.ref pr) (.ref σ3.length) = some (.ref σ4.length, σ5) := by
      have q1 := list_of gpr4
      have q2 : getList σ4 (.ref σ3.length) = some (σ3.length, (ps.drop (4 * pc - 1)).map .ref) := list_of get_last
      simp only [binOp, addLists, q1, q2, Option.bind_eq_bind, Option.bind_some]
      rw [if_pos (by simp; unfold LIM; omega)]
      simp only [σ5, List.map_append]
    have hpl : p < σ.length := get_lt hp
    have hfl3 := fr.1
    have hset : setSliceF σ5 (.ref p) .none .none (.ref σ4.length) = some (σ5.set p (.list ((as ++ ps.drop (4 * pc - 1)).map .ref))) := by
      have q1 : getList σ5 (.ref p) = some (p, ps.map .ref) := list_of (get_app (get_app hp3))
      have q2 : getList σ5 (.ref σ4.length) = some (σ4.length, (as ++ ps.drop (4 * pc - 1)).map .ref) := list_of get_last
      have q3 : bnd (ps.map V.ref).length 0 .none = some 0 := rfl
      have q4 : bnd (ps.map V.ref).length (ps.map V.ref).length .none = some (ps.map V.ref).length := rfl
      simp only [setSliceF, q1, q2, q3, q4, Option.bind_eq_bind, Option.bind_some]
      rw [if_pos ⟨by simp [σ4]; omega, Nat.zero_le _, by simp; unfold LIM; omega, hp0⟩]
      simp only [List.take_zero, List.nil_append, List.drop_length, List.append_nil]
    have htr : truthy σ3 (.int (pc : Nat)) = some true := congrArg some (bne_iff_ne.mpr (by omega))
    have hlc : evalE (callN prog (d + 1)) (.attr (.sub (.var "delimiters") (.bin .sub (.bin .mul (.var "pair_count") (.int 2)) (.int 1))) "index") ℓ3 σ3 = some (.int (Dl.x : Nat), σ3) := by pv_eval
    have hp5 : σ5[p]? = some (.list (ps.map .ref)) := get_app (get_app hp3)
    have hsum : evalE (callN prog (d + 1)) (.bin .add (.var "processed") (.slice (.var "parts") (.bin .add (.var "last_close") (.int 1)) .nil)) (ℓ3.set "last_close" (.int (Dl.x : Nat))) σ3 = some (.ref σ4.length, σ5) :=
      e_bin (e_var (by one_place)) (e_slice (e_var (by one_place)) (e_bin (e_var (by one_place)) e_int a3) e_nil hsl) hadd
    refine ⟨true, σ5.set p (.list ((as ++ ps.drop (4 * pc - 1)).map .ref)), call1 rfl rfl (runN (x_ifF (v := .bool false) (by pv_eval) rfl x_done) (runN (x_assign (by pv_eval)) (runN (x_ifF (v := .bool false) (by pv_eval) rfl x_done) (runN hfor1 (runN (x_assign (by pv_eval)) (runN (x_assign (by pv_eval)) (runN hfor2
      (runN (x_ifT (v := .int (pc : Nat)) (by pv_eval) htr (seqN (x_assign hlc) (seqN (x_setSlice hsum (e_var (by one_place)) e_nil e_nil hset) x_done))) (runR (run_ret (by pv_eval))))))))))), fun h => (by cases h), fun _ => ?_⟩
    have kd : ∀ (a : Nat) (fs : List (String × V)), σ3[a]? = some (O.dict fs) → (σ5.set p (.list ((as ++ ps.drop (4 * pc - 1)).map .ref)))[a]? = some (O.dict fs) := fun a fs e => get_set_ne (not_dict_of_list hp5 (get_app (get_app e))) (get_app (get_app e))
    have kl : ∀ (c : Nat) (vs : List V), pr < c → σ3[c]? = some (O.list vs) → (σ5.set p (.list ((as ++ ps.drop (4 * pc - 1)).map .ref)))[c]? = some (O.list vs) := fun c vs hc e => get_set_ne (by omega) (get_app (get_app e))
    have hE' : All2 (DEnt (σ5.set p (.list ((as ++ ps.drop (4 * pc - 1)).map .ref))) pr) (as ++ ps.drop (4 * pc - 1)) (ss ++ (aps.drop (4 * pc - 1)).map (·.raw)) := by
      refine All2.append (hE.mono fun a s q => q.go kd kl) ?_
      have : ∀ {l : List Nat} {r : List AP}, All2 (fun a (p : AP) => σ[a]? = some (dText p.raw)) l r → (∀ t ∈ r, t ∈ aps) → All2 (DEnt (σ5.set p (.list ((as ++ ps.drop (4 * pc - 1)).map .ref))) pr) l (r.map (·.raw)) := by
        intro l r h
        induction h with
        | nil => intro _; exact .nil
        | cons e _ ih => intro hl; exact .cons (.inl ⟨kd _ _ (fr.get0 e), A.ends _ (hl _ (by simp))⟩) (ih fun t ht => hl t (by simp [ht]))
      exact this (hpa.drop _) fun t ht => List.mem_of_mem_drop ht
    obtain ⟨z, hT⟩ := dents_tolds hE'
    have hdrop : aps.drop (4 * pc - 1) = u :: aps.drop (4 * pc) := by
      have h1 : 4 * pc - 1 < aps.length := (List.getElem?_eq_some_iff.mp hu).1
      rw [List.drop_eq_getElem_cons h1, show 4 * pc - 1 + 1 = 4 * pc by omega]
      have := List.getElem?_eq_getElem h1
      rw [hu] at this
      rw [← Option.some.inj this]
    have htell : flatM (runM aps) = (ss ++ (aps.drop (4 * pc - 1)).map (·.raw)).flatten := by
      have e1 : runM aps = (aps.drop (4 * pc)).foldl stepM (runM (aps.take (4 * pc))) := by
        unfold runM; rw [← List.foldl_append, List.take_append_drop]
      rw [e1, hrun, flat_tail, hdrop, hs]
      · simp
      · rcases hpc with hpc | hpc
        · left; apply List.drop_eq_nil_of_le; omega
        · right
          obtain ⟨t, ht, td⟩ := ok.od hd (k := 2 * pc) (by omega)
          rw [show 2 * (2 * pc) + 1 = 4 * pc + 1 by omega] at ht
          have h1 : 4 * pc < aps.length := by omega
          have h2 : 4 * pc + 1 < aps.length := by omega
          refine ⟨aps[4 * pc], t, ?_, td⟩
          rw [List.drop_eq_getElem_cons h1, List.drop_eq_getElem_cons h2]
          have := List.getElem?_eq_getElem h2
          rw [ht] at this
          rw [← Option.some.inj this]
          congr 2
          apply List.drop_eq_nil_of_le; omega
    refine ⟨as ++ ps.drop (4 * pc - 1), 1, z, get_set_eq hp5, by rw [htell]; exact hT, by omega, by simp; omega, dents_ends hE', fun g vs e hg => get_set_ne (by rintro rfl; exact hg (by simp)) (get_app (get_app (fr.get0 e)))⟩
end P1
end Mine
end

/-! W21 -/
section
open PySem PySem.W PyProof.Rows
set_option linter.unusedVariables false
set_option linter.unusedSimpArgs false
namespace Mine
local macro_rules | `(tactic| one_place) => `(tactic| first | assumption | (simp only [Loc.set, params_cons, params_nil, String.reduceEq, if_true, if_false, reduceIte]; first | rfl | assumption))
local macro_rules | `(tactic| one_item) => `(tactic| first | assumption | exact get_last | (apply get_app; (one_item)) | (apply get_set_eq; (one_item)) | (apply get_set_ne; (first | assumption | omega); (one_item)))
local macro_rules | `(tactic| leaf_len) => `(tactic| first | assumption | rfl | (focus (simp; done)))
local macro_rules | `(tactic| l_ints) => `(tactic| first | assumption | (apply idx_list; (one_item); rfl; (assumption)) | (apply idx_tuple; (one_item); rfl; (assumption)) | (apply idx_list (k := 0); (one_item); rfl; rfl) | (apply idx_tuple (k := 0); (one_item); rfl; rfl) | (apply idx_tuple (k := 1); (one_item); rfl; rfl) | exact idx_str rfl (by assumption))
local macro_rules | `(tactic| pv_eval) => `(tactic| first
  | exact e_int | exact e_str | exact e_bool | exact e_non | exact e_nil
  | (apply e_var; (one_place))
  | (apply e_attr; (pv_eval); (one_item); (leaf_len))
  | (apply e_dget; (pv_eval); (one_item); (leaf_len))
  | (apply e_dhas; (pv_eval); (one_item); (leaf_len))
  | (apply e_dhasnt; (pv_eval); (one_item); (leaf_len))
  | (apply e_dgetd; (pv_eval); (one_item); (pv_eval); (leaf_len))
  | (apply e_sub; (pv_eval); (pv_eval); (l_ints))
  | (apply e_cmp; (pv_eval); (pv_eval); (leaf_len))
  | (apply e_bin; (pv_eval); (pv_eval); (leaf_len))
  | (apply e_lnot; (pv_eval); (one_sign))
  | (apply e_neg; (pv_eval))
  | (apply e_isNone; (pv_eval))
  | (apply e_ands; (modx_arm))
  | (apply e_ors; (modx_arm))
  | (apply e_iteT; (pv_eval); (one_sign); (pv_eval))
  | (apply e_iteF; (pv_eval); (one_sign); (pv_eval))
  | (apply e_list; (mod_arm))
  | (apply e_tuple; (mod_arm))
  | (apply e_dict; (o_shape))
  | exact e_tdict
  | (apply e_bcall; (mod_arm); (first | assumption | (apply len_list; (one_item)) | rfl))
  | (apply e_call; (mod_arm); (assumption))
  | (apply e_slice; (pv_eval); (pv_eval); (pv_eval); (assumption))
  | (apply e_bmeth; (pv_eval); (first | assumption | (apply mOk_str; (focus (simp; done))) | (apply mOk_list; (one_item); (focus (simp; done)))); (mod_arm); (first | assumption | rfl)))
local macro_rules | `(tactic| modx_arm) => `(tactic| first
  | (apply b_last; (pv_eval))
  | (apply b_go; (pv_eval); (one_sign); (modx_arm))
  | (apply b_stop; (pv_eval); (one_sign)))
local macro_rules | `(tactic| mod_arm) => `(tactic| first | exact l_nil | (apply l_cons; (pv_eval); (mod_arm)))
local macro_rules | `(tactic| o_shape) => `(tactic| first | exact kv_nil | (apply kv_cons; (pv_eval); (o_shape)))
local macro_rules | `(tactic| one_sign) => `(tactic| first | rfl | assumption | exact (truthy_list (by one_item)).trans rfl | (refine congrArg some ?_; first | (apply decide_eq_true; (omega)) | (apply decide_eq_false; (omega)) | assumption | (focus (simp; done)) | (focus (simp; omega)) | (focus (simp [*]; done))))
namespace P1
variable {d : Nat}
theorem idx_all2 {α β : Type} {R : α → β → Prop} : ∀ {as : List α} {bs : List β}, as.length = bs.length → (∀ (k : Nat) (b : β), bs[k]? = some b → ∃ a, as[k]? = some a ∧ R a b) → All2 R as bs
  | [], [], _, _ => .nil
  | [], b :: bs, h, _ => by simp at h
  | a :: as, [], h, _ => by simp at h
  | a :: as, b :: bs, h, g => by
    obtain ⟨a', h1, h2⟩ := g 0 b rfl
    simp at h1; subst h1
    refine .cons h2 (idx_all2 (by simpa using h) fun k b hb => ?_)
    obtain ⟨a', h1, h2⟩ := g (k + 1) b (by simpa using hb)
    exact ⟨a', by simpa using h1, h2⟩
theorem ann_len {t : List Nat} : ∀ {gs : List Grp} {pos : Nat}, (ann t pos gs).length = gs.length
  | [], _ => rfl
  | g :: r, pos => by simp [ann, ann_len]
theorem ann_get {t : List Nat} : ∀ {gs : List Grp} {pos k : Nat} {p : AP}, (ann t pos gs)[k]? = some p → ∃ g, gs[k]? = some g ∧ p.raw = g.raw ∧ (g.run = false → p.del = false)
  | [], _, _, _, h => by simp [ann] at h
  | g :: r, pos, 0, p, h => by
    simp [ann] at h; subst h
    exact ⟨g, rfl, rfl, fun e => by simp [AP.del, e]⟩
  | g :: r, pos, k + 1, p, h => by
    simp [ann] at h
    obtain ⟨g', h1, h2⟩ := ann_get h
    exact ⟨g', by simpa using h1, h2⟩
theorem ann_raw {t : List Nat} : ∀ {gs : List Grp} {pos : Nat}, ((ann t pos gs).map (·.raw)).flatten = flat gs
  | [], _ => rfl
  | g :: r, pos => by
    have := ann_raw (t := t) (gs := r) (pos := pos + g.raw.length)
    simp [ann, flat_cons, this]
theorem run_plain : ∀ {l : List AP} {S : MS}, (∀ p ∈ l, p.del = false) → flatM (l.foldl stepM S) = flatM S ++ (l.map (·.raw)).flatten
  | [], S, _ => by simp
  | p :: l, S, h => by
    rw [List.foldl_cons, run_plain (fun q hq => h q (by simp [hq])), step_plain (h p (by simp)), flat_app']
    simp
/-! nothing grows -/
theorem flat_len_app {S : MS} {t : List Nat} : (flatM (app S t)).length = (flatM S).length + t.length := by rw [flat_app']; simp
theorem wr_len {r c : List Nat} : (wr r c).length = c.length + 2 := by unfold wr; split <;> simp
theorem popTo_len {r : List Nat} : ∀ {st : List (List Nat × List Nat)} {b c : List Nat} {S : MS}, popTo r st b c = some S → (flatM S).length + r.length = (flatM (st, b)).length + c.length + 2
  | [], b, c, S, h => by cases h
  | (o, s) :: st, b, c, S, h => by
    unfold popTo at h
    split at h
    · rename_i ho; subst ho
      cases h
      rw [flat_len_app, wr_len]
      simp [flatM]; omega
    · have := popTo_len h
      simp [flatM] at this ⊢; omega
theorem step_len {S : MS} {p : AP} (h : p.raw ≠ []) : (flatM (stepM S p)).length ≤ (flatM S).length + p.raw.length := by
  have hl := List.length_pos_iff.mpr h
  unfold stepM
  split
  · cases hp : pop p.raw S [] with
    | none =>
      dsimp only
      split
      · rw [flat_push]; simp
      · rw [flat_app']; simp
    | some S' =>
      dsimp only
      have := popTo_len hp
      simp at this
      have e : flatM (S.fst, S.snd) = flatM S := rfl
      rw [e] at this
      omega
  · split
    · rw [flat_push]; simp
    · rw [flat_app']; simp
theorem run_len : ∀ {l : List AP} {S : MS}, (∀ p ∈ l, p.raw ≠ []) → (flatM (l.foldl stepM S)).length ≤ (flatM S).length + ((l.map (·.raw)).flatten).length
  | [], S, _ => by simp
  | p :: l, S, h => by
    have h1 := run_len (l := l) (S := stepM S p) fun q hq => h q (by simp [hq])
    have h2 := step_len (S := S) (h p (by simp))
    simp only [List.foldl_cons, List.map_cons, List.flatten_cons, List.length_append]
    omega
set_option maxHeartbeats 1000000 in
theorem s_final {σ : St} {tl tok : Nat} {t : List Nat} {gs : List Grp} (hc : σ[tl]? = some (.list [.ref tok])) (ht : σ[tok]? = some (dText t)) (h0 : 0 < tl ∧ 0 < tok) (htg : t = flat gs) (hok : GOK gs) (A : AOK (ann t 0 gs)) (hal : gs.length ≤ 17) (hlen : t.length ≤ 200) :
    ∃ r rs σ' k z, callN prog (d + 6) "finalize_emphasis_tokens" [.ref tl, .bool true, .int 20] σ = some (.ref r, σ') ∧ σ'[r]? = some (.list (rs.map .ref)) ∧ Tolds σ' [] rs (flatM (runM (ann t 0 gs))) k z ∧ k ≤ 17 ∧ KL [] σ σ' := by
  have htl := get_lt hc
  have hlen1 : builtinF σ "len" [.ref tl] = some (.int ((1 : Nat) : Int), σ) := len_list hc
  have hgt : cmpOp σ .gt (.int ((1 : Nat) : Int)) (.int 1) = some false := rfl
  have hcon := s_contains (d := d + 4) hc ht
  have hrawt : ((ann t 0 gs).map (·.raw)).flatten = t := by rw [ann_raw, htg]
  cases hmk : (t.contains 42 || t.contains 95) with
  | false =>
    rw [hmk] at hcon
    have hcl := s_clean (d := d + 4) ht rfl rfl
    have hcomp : evalE (callN prog (d + 5)) (.comp [] (.call "_clean_emphasis_token" (.cons (.var "token") .nil)) (.one "token") (.var "tokens") .nil) (params ["tokens", "enabled", "max_depth"] [.ref tl, .bool true, .int 20]) σ = some (.ref σ.length, σ ++ [.list [.ref tok]]) := by
      have e1 : evalSrc (callN prog (d + 5)) (.var "tokens") (params ["tokens", "enabled", "max_depth"] [.ref tl, .bool true, .int 20]) σ = some (.list tl, σ) := src_var (by one_place)
      have e2 := size_list hc
      have e3 : (Src.list tl).bind σ (Loc.only (params ["tokens", "enabled", "max_depth"] [.ref tl, .bool true, .int 20]) []) (.one "token") 0 = some ((Loc.only (params ["tokens", "enabled", "max_depth"] [.ref tl, .bool true, .int 20]) []).set "token" (.ref tok)) := bind_list hc rfl
      have e4 : evalE (callN prog (d + 5)) (.call "_clean_emphasis_token" (.cons (.var "token") .nil)) ((Loc.only (params ["tokens", "enabled", "max_depth"] [.ref tl, .bool true, .int 20]) []).set "token" (.ref tok)) σ = some (.ref tok, σ) := by
        have : ((Loc.only (params ["tokens", "enabled", "max_depth"] [.ref tl, .bool true, .int 20]) []).set "token" (.ref tok)) "token" = some (.ref tok) := by simp [Loc.set]
        pv_eval
      have e5 : ∀ ℓ σ, evalC (callN prog (d + 5)) .nil ℓ σ = some (true, σ) := fun ℓ σ => by simp only [evalC]
      rw [evalE]
      simp only [e1, e2, Option.bind_eq_bind, Option.bind_some, List.length_cons, List.length_nil, compGo, e2, if_true, e3, e5, e4, List.nil_append]
      rw [if_pos (by unfold LIM; simp)]
    refine ⟨σ.length, [tok], _, 0, 1 + 0, call1 rfl rfl (runN (x_ifF (v := .bool false) (by pv_eval) rfl x_done) (runR (run_ifT (v := .bool (!false)) (by pv_eval) rfl (runR (run_ret hcomp))))), get_last, ?_, by omega, Fr.kl Fr.app⟩
    have hpl : flatM (runM (ann t 0 gs)) = t := by
      unfold runM
      rw [run_plain, hrawt]
      · simp [flatM]
      · intro p hp
        obtain ⟨k, hk⟩ := List.getElem?_of_mem hp
        obtain ⟨g, hg, hr, hn⟩ := ann_get hk
        refine hn ?_
        cases hgr : g.run with
        | false => rfl
        | true =>
          exfalso
          have : ∀ {l : List Grp}, GOK l → ∀ g ∈ l, g.run = true → ∃ c ∈ flat l, isMk c = true := by
            intro l
            induction l with
            | nil => intro _ g hg; cases hg
            | cons a l ih =>
              intro h g hg hr
              obtain ⟨h1, h2, h3⟩ := h
              rcases List.mem_cons.mp hg with rfl | hg
              · rw [hr] at h2
                simp only [if_true] at h2
                obtain ⟨m, n, e1, e2, _⟩ := h2
                cases n with
                | zero => simp at e2; exact absurd e2 h1
                | succ n => exact ⟨m, by rw [flat_cons, e2, List.replicate_succ]; simp, e1⟩
              · obtain ⟨c, e1, e2⟩ := ih h3 g hg hr
                exact ⟨c, by rw [flat_cons]; simp [e1], e2⟩
          obtain ⟨c, e1, e2⟩ := this hok g (List.mem_of_getElem? hg) hgr
          rw [← htg] at e1
          simp only [Bool.or_eq_false_iff, List.contains_eq_mem, decide_eq_false_iff_not] at hmk
          simp [isMk] at e2
          rcases e2 with rfl | rfl
          · exact hmk.1 e1
          · exact hmk.2 e1
    rw [hpl]
    have : Tolds (σ ++ [O.list [.ref tok]]) [] [tok] (t ++ []) 0 (1 + 0) := .cons (by simp) (.text (get_app ht)) .nil
    rw [List.append_nil] at this
    exact this
  | true =>
    rw [hmk] at hcon
    let σ1 := σ ++ [O.list []]
    let σ2 := σ1 ++ [O.list []]
    have hl1 : σ1.length = σ.length + 1 := by simp [σ1]
    have hc2 : σ2[tl]? = some (.list [.ref tok]) := get_app (get_app hc)
    have ht2 : σ2[tok]? = some (dText t) := get_app (get_app ht)
    obtain ⟨σ3, hsrc, f3⟩ := s_source (d := d + 4) hc2 ht2 (by omega) (by simp [σ2, σ1])
    have hc3 := f3.get0 hc2
    have ht3 := f3.get0 ht2
    have hp3 : σ3[σ.length]? = some (.list []) := f3.get0 (get_app get_last)
    have hq3 : σ3[σ1.length]? = some (.list []) := f3.get0 get_last
    obtain ⟨σ4, ps, ds, hsp, SI⟩ := s_split (d := d + 2) htg hok (by omega) (by omega) ht3 hp3 hq3 (by omega) (by omega) (by omega)
    have hs3 : 2 ≤ σ3.length := by have := f3.1; simp [σ2, σ1] at this; omega
    have notpq : ∀ e, e < σ.length → e ∉ [σ.length, σ1.length] := fun e he => by simp; omega
    have hc4 : σ4[tl]? = some (.list [.ref tok]) := SI.fr.get hc3 (notpq _ htl)
    have ht4 : σ4[tok]? = some (dText t) := SI.fr.get ht3 (notpq _ (get_lt ht))
    have hsl := s_srclen (d := d + 4) ht4
    generalize hap : ann t 0 gs = aps at *
    have hd : dlms t 0 0 gs = dl 0 aps := by rw [dlms_ann, hap]
    have hapl : aps.length = gs.length := by rw [← hap]; exact ann_len
    have hpa : All2 (fun a (p : AP) => σ4[a]? = some (dText p.raw)) ps aps := idx_all2 (by rw [SI.plen, hapl]) fun k p hk => by
      rw [← hap] at hk
      obtain ⟨g, hg, hr, _⟩ := ann_get hk
      obtain ⟨a, h1, h2⟩ := SI.po k g hg
      exact ⟨a, h1, by rw [hr]; exact h2⟩
    have hdll : (dlms t 0 0 gs).length ≤ 17 := by
      have h1 : ∀ {l : List AP} {o : Nat}, (dl o l).length ≤ l.length := by
        intro l
        induction l with
        | nil => intro o; simp [dl]
        | cons p l ih => intro o; unfold dl; split <;> simp <;> have := @ih (o + 1) <;> omega
      have := @h1 aps 0
      rw [← hd] at this; omega
    have hpq : σ.length ≠ σ1.length := by omega
    obtain ⟨b, σ5, hdn, hpost⟩ := s_dense (d := d + 3) SI.pl SI.ql hpq (by omega) A hd (by omega) hpa SI.dlen hdll SI.dobj
    have hf3 := f3.1
    have hl3 : σ.length + 2 ≤ σ3.length := by simp [σ2, σ1] at hf3; omega
    have htl2 : (flatM (runM aps)).length ≤ 1000 := by
      have := run_len (l := aps) (S := ([], [])) A.ne
      have e : ((aps.map (·.raw)).flatten).length = t.length := by rw [hrawt]
      have e2 : flatM (([], []) : MS) = [] := by simp [flatM]
      rw [e, e2] at this
      unfold runM
      simp at this ⊢
      omega
    -- the road up to the quick one
    have hloop : execS (callN prog (d + 5)) (.forS (.one "token") (.var "tokens") (.seq (.ifS (.ands (.cons (.cmp .eq (.dget (.var "token") "type") (.str [116, 101, 120, 116])) (.cons (.dgetd (.var "token") "_emphasis" (.bool true)) .nil)))
        (.seq (.expr (.call "_split_text_token" (.cons (.var "token") (.cons (.var "source") (.cons (.var "source_pos") (.cons (.var "parts") (.cons (.var "delimiters") .nil))))))) .done) (.seq (.expr (.bmeth (.var "parts") "append" (.cons (.call "_clean_emphasis_token" (.cons (.var "token") .nil)) .nil))) .done)) (.seq (.aug "source_pos" .add (.call "_emphasis_source_length" (.cons (.var "token") .nil))) .done)))
        (((((params ["tokens", "enabled", "max_depth"] [.ref tl, .bool true, .int 20]).set "parts" (.ref σ.length)).set "delimiters" (.ref σ1.length)).set "source" (.str t)).set "source_pos" (.int 0)) σ3 =
        some (.next, ((((((params ["tokens", "enabled", "max_depth"] [.ref tl, .bool true, .int 20]).set "parts" (.ref σ.length)).set "delimiters" (.ref σ1.length)).set "source" (.str t)).set "source_pos" (.int 0)).set "token" (.ref tok)).set "source_pos" (.int (0 + (t.length : Nat))), σ4) :=
      run_for (src_var (by one_place)) (size_list hc3) (for_one (size_list hc3) (bind_list hc3 rfl) (seqN (x_ifT (v := .bool true) (by pv_eval) rfl (seqN (x_expr (v := .none) (by pv_eval)) x_done)) (seqN (x_aug (by one_place) (by pv_eval) rfl) x_done)) (size_list hc4))
    have hpre : ∀ (s : S) (R : Option (Fl × St)), runS (callN prog (d + 5)) s (((((((params ["tokens", "enabled", "max_depth"] [.ref tl, .bool true, .int 20]).set "parts" (.ref σ.length)).set "delimiters" (.ref σ1.length)).set "source" (.str t)).set "source_pos" (.int 0)).set "token" (.ref tok)).set "source_pos" (.int (0 + (t.length : Nat)))) σ4 = R →
        runS (callN prog (d + 5)) (match f_finalize_emphasis_tokens.body with | .seq a (.seq b (.seq c (.seq e (.seq f (.seq g (.seq h _)))))) => .seq a (.seq b (.seq c (.seq e (.seq f (.seq g (.seq h s)))))) | s => s) (params ["tokens", "enabled", "max_depth"] [.ref tl, .bool true, .int 20]) σ = R := fun s R k =>
      runN (x_ifF (v := .bool false) (by pv_eval) rfl x_done) (runN (x_ifF (v := .bool (!true)) (by pv_eval) rfl x_done) (runN (x_assign (by pv_eval)) (runN (x_assign (by pv_eval)) (runN (x_assign (by pv_eval)) (runN (x_assign (by pv_eval)) (runN hloop k))))))
    have k4 : ∀ (g : Nat) (vs : List V), σ[g]? = some (O.list vs) → σ4[g]? = some (O.list vs) ∧ g ∉ [σ.length] := fun g vs e => by
      have hg := get_lt e
      exact ⟨SI.fr.get (f3.get0 (get_app (get_app e))) (notpq _ hg), by simp; omega⟩
    cases b with
    | true =>
      obtain ⟨ps', k, z, g1, g2, g3, g4, g5, gk⟩ := hpost.2 rfl
      obtain ⟨r, rs, σ6, z', hmg, g6, g7, g8⟩ := s_merge (d := d + 3) g1 g2 (by omega) htl2 (by rintro rfl; simp at g1) g5
      exact ⟨r, rs, σ6, k, z', call1 rfl rfl (hpre _ _ (runR (run_ifT (v := .bool true) (by pv_eval) rfl (runR (run_ret (by pv_eval)))))), g6, g7, g3, fun g vs e _ => g8.get0 (gk _ _ (k4 _ _ e).1 (k4 _ _ e).2)⟩
    | false =>
      have f5 := hpost.1 rfl
      obtain ⟨σ6, ps', k, z, hpr, g1, g2, g3, g4, g5, gk⟩ := s_process (d := d) (dis := dlms t 0 0 gs) (f5.get0 SI.pl) (f5.get0 SI.ql) hpq (by omega) A hd (by omega) (hpa.mono fun a p e => f5.get0 e) SI.pnd SI.dnd ⟨fun a ha => by have := SI.pf a ha; omega, fun a ha => by have := SI.df a ha; omega⟩ SI.dlen
        (fun k D hk => let ⟨a, h1, h2⟩ := SI.dobj k D hk; ⟨a, h1, f5.get0 h2⟩) (fun a ha => by have := SI.pf a ha; omega)
      obtain ⟨r, rs, σ7, z', hmg, g6, g7, g8⟩ := s_merge (d := d + 3) g1 g2 (by omega) htl2 (by rintro rfl; simp at g1) g5
      exact ⟨r, rs, σ7, k, z', call1 rfl rfl (hpre _ _ (runN (x_ifF (v := .bool false) (by pv_eval) rfl x_done) (runN (x_expr (v := .none) (by pv_eval)) (runR (run_ret (by pv_eval)))))), g6, g7, g3, fun g vs e _ => g8.get0 (gk _ _ (f5.get0 (k4 _ _ e).1) (k4 _ _ e).2)⟩
end P1
end Mine
end

/-! W22 -/
section
open PySem PySem.W PyProof.Rows
set_option linter.unusedVariables false
set_option linter.unusedSimpArgs false
namespace Mine
namespace P1
theorem ends_of {l : List Nat} (h : 38 ∉ l) : endsS l [38] = false := by
  cases he : endsS l [38] with
  | false => rfl
  | true =>
    exfalso
    unfold endsS Txt.endswith at he
    rw [Bool.and_eq_true] at he
    have h2 := he.2
    unfold Builtin.Str.subAt at h2
    have h3 := eq_of_beq h2
    have h4 := congrArg Array.toList h3
    have h5 : (38 : Nat) ∈ ((mkS l).cps.extract ((mkS l).length - (mkS [38]).length) ((mkS l).length - (mkS [38]).length + (mkS [38]).length)).toList := by
      rw [h4]; simp [mkS]
    rw [Array.toList_extract] at h5
    unfold List.extract at h5
    exact h (List.mem_of_mem_drop (List.mem_of_mem_take h5))
/-! the signs -/
theorem ch_ok : ([10, 32, 46, 97, 42, 95] : List Nat).all (fun c => (spaceS [c] == (c == 10 || c == 32)) && (alnumS [c] == (c == 97))) = true := by decide +kernel
def chs : List Nat := [10, 32, 46, 97, 42, 95]
theorem sp_ch {c : Nat} (h : c ∈ chs) : spaceS [c] = (c == 10 || c == 32) := by
  have := List.all_eq_true.mp ch_ok c h
  rw [Bool.and_eq_true] at this
  exact eq_of_beq this.1
theorem al_ch {c : Nat} (h : c ∈ chs) : alnumS [c] = (c == 97) := by
  have := List.all_eq_true.mp ch_ok c h
  rw [Bool.and_eq_true] at this
  exact eq_of_beq this.2
def leftF (p q : Nat) : Bool := !(q == 32 || q == 10) && (q == 97 || p != 97)
def rightF (p q : Nat) : Bool := !(p == 32 || p == 10) && (p == 97 || q != 97)
def opF (m p q : Nat) : Bool := if m = 95 then leftF p q && (!rightF p q || (p == 46 || p == 42 || p == 95)) else leftF p q
def clF (m p q : Nat) : Bool := if m = 95 then rightF p q && (!leftF p q || (q == 46 || q == 42 || q == 95)) else rightF p q
theorem canO_eq {m p q : Nat} (hp : p ∈ chs) (hq : q ∈ chs) : canO m p q = opF m p q := by
  unfold canO opF leftF rightF punct
  rw [sp_ch hp, sp_ch hq, al_ch hp, al_ch hq]
  by_cases hm : m = 95
  · simp only [hm, if_true, true_and]
    simp only [chs, List.mem_cons, List.not_mem_nil, or_false] at hp hq
    rcases hp with rfl | rfl | rfl | rfl | rfl | rfl <;> rcases hq with rfl | rfl | rfl | rfl | rfl | rfl <;> rfl
  · simp only [hm, if_false, false_and]
    simp only [chs, List.mem_cons, List.not_mem_nil, or_false] at hp hq
    rcases hp with rfl | rfl | rfl | rfl | rfl | rfl <;> rcases hq with rfl | rfl | rfl | rfl | rfl | rfl <;> rfl
theorem canC_eq {m p q : Nat} (hp : p ∈ chs) (hq : q ∈ chs) : canC m p q = clF m p q := by
  unfold canC clF leftF rightF punct
  rw [sp_ch hp, sp_ch hq, al_ch hp, al_ch hq]
  by_cases hm : m = 95
  · simp only [hm, if_true, true_and]
    simp only [chs, List.mem_cons, List.not_mem_nil, or_false] at hp hq
    rcases hp with rfl | rfl | rfl | rfl | rfl | rfl <;> rcases hq with rfl | rfl | rfl | rfl | rfl | rfl <;> rfl
  · simp only [hm, if_false, false_and]
    simp only [chs, List.mem_cons, List.not_mem_nil, or_false] at hp hq
    rcases hp with rfl | rfl | rfl | rfl | rfl | rfl <;> rcases hq with rfl | rfl | rfl | rfl | rfl | rfl <;> rfl
theorem mid_flags {m p q : Nat} (hp : isMk p = true) (hq : isMk q = true) : canO m p q = true ∧ canC m p q = true := by
  have h : ∀ {c : Nat}, isMk c = true → c = 42 ∨ c = 95 := fun h => by simpa [isMk] using h
  rcases h hp with rfl | rfl <;> rcases h hq with rfl | rfl <;> (rw [canO_eq (by decide) (by decide), canC_eq (by decide) (by decide)]; unfold opF clF; split <;> exact ⟨rfl, rfl⟩)
/-! pieces brought together -/
def grp : List Grp → List Grp
  | [] => []
  | x :: r => if x.run = true then x :: grp r else match grp r with
    | ⟨y, false⟩ :: r' => ⟨x.raw ++ y, false⟩ :: r'
    | gs => x :: gs
theorem flat_grp : ∀ {us : List Grp}, flat (grp us) = flat us
  | [] => rfl
  | x :: r => by
    have ih := flat_grp (us := r)
    unfold grp
    split
    · rw [flat_cons, flat_cons, ih]
    · split
      · rename_i y r' h
        rw [h] at ih
        rw [flat_cons] at ih ⊢
        rw [flat_cons, ← ih]; simp
      · rw [flat_cons, flat_cons, ih]
theorem grp_len : ∀ {us : List Grp}, (grp us).length ≤ us.length
  | [] => by simp [grp]
  | x :: r => by
    have ih := grp_len (us := r)
    unfold grp
    split
    · simp; exact ih
    · split
      · rename_i y r' h; rw [h] at ih; simp at ih ⊢; omega
      · simp; exact ih
theorem run_grp {t : List Nat} : ∀ {us : List Grp} {pos : Nat} {S : MS}, (ann t pos (grp us)).foldl stepM S = (ann t pos us).foldl stepM S
  | [], _, _ => rfl
  | x :: r, pos, S => by
    unfold grp
    split
    · rename_i hx
      unfold ann
      rw [List.foldl_cons, List.foldl_cons, run_grp (us := r)]
    · rename_i hx
      have hx : x.run = false := by simpa using hx
      split
      · rename_i y r' h
        rw [ann, List.foldl_cons, step_plain (by simp [AP.del])]
        conv => rhs; rw [ann, List.foldl_cons, step_plain (by simp [AP.del, hx]), ← run_grp (us := r), h, ann, List.foldl_cons, step_plain (by simp [AP.del])]
        dsimp only
        have : ∀ {S : MS} {a b : List Nat}, app (app S a) b = app S (a ++ b) := by
          intro S a b
          obtain ⟨st, c⟩ := S
          cases st with
          | nil => simp [app]
          | cons o st => obtain ⟨o, s⟩ := o; simp [app]
        rw [this, List.length_append, Nat.add_assoc]
      · rw [ann, List.foldl_cons, run_grp (us := r), ann, List.foldl_cons]
/-- the pieces, as the law builds them -/
def UOK (a b : Nat) : List Grp → Prop
  | [] => True
  | g :: r => (if g.run = true then (g.raw = List.replicate a 42 ∨ g.raw = List.replicate b 95) ∧ (∀ h, r.head? = some h → h.raw ≠ g.raw) else g.raw = [97] ∨ g.raw = [32] ∨ g.raw = [46]) ∧ UOK a b r
theorem UOK.mem {a b : Nat} : ∀ {us : List Grp}, UOK a b us → ∀ g ∈ us, (g.run = true ∧ (g.raw = List.replicate a 42 ∨ g.raw = List.replicate b 95)) ∨ (g.run = false ∧ (g.raw = [97] ∨ g.raw = [32] ∨ g.raw = [46]))
  | x :: r, h, g, hg => by
    obtain ⟨h1, h2⟩ := h
    rcases List.mem_cons.mp hg with rfl | hg
    · cases hr : g.run with
      | true => rw [hr] at h1; simp only [if_true] at h1; exact .inl ⟨rfl, h1.1⟩
      | false => rw [hr] at h1; simp only [Bool.false_eq_true, if_false] at h1; exact .inr ⟨rfl, h1⟩
    · exact h2.mem g hg
theorem grp_run {us : List Grp} : ∀ g ∈ grp us, g.run = true → g ∈ us := by
  induction us with
  | nil => intro g hg; cases hg
  | cons x r ih =>
    intro g hg hr
    unfold grp at hg
    split at hg
    · rcases List.mem_cons.mp hg with rfl | hg
      · simp
      · exact List.mem_cons_of_mem _ (ih g hg hr)
    · split at hg
      · rename_i y r' h
        rcases List.mem_cons.mp hg with rfl | hg
        · cases hr
        · exact List.mem_cons_of_mem _ (ih g (by rw [h]; simp [hg]) hr)
      · rcases List.mem_cons.mp hg with rfl | hg
        · simp
        · exact List.mem_cons_of_mem _ (ih g hg hr)
theorem grp_chars {a b : Nat} : ∀ {us : List Grp}, UOK a b us → ∀ g ∈ grp us, g.run = false → ∀ c ∈ g.raw, c = 97 ∨ c = 32 ∨ c = 46
  | [], _, g, hg, _ => by cases hg
  | x :: r, h, g, hg, hr => by
    obtain ⟨h1, h2⟩ := h
    have ih := grp_chars h2
    unfold grp at hg
    split at hg
    · rename_i hx
      rcases List.mem_cons.mp hg with rfl | hg
      · rw [hr] at hx; cases hx
      · exact ih g hg hr
    · rename_i hx
      rw [if_neg hx] at h1
      have hxr : ∀ c ∈ x.raw, c = 97 ∨ c = 32 ∨ c = 46 := by
        intro c hc
        rcases h1 with h1 | h1 | h1 <;> rw [h1] at hc <;> simp at hc <;> simp [hc]
      split at hg
      · rename_i y r' h
        rcases List.mem_cons.mp hg with rfl | hg
        · intro c hc
          rcases List.mem_append.mp hc with hc | hc
          · exact hxr c hc
          · exact ih ⟨y, false⟩ (by rw [h]; simp) rfl c hc
        · exact ih g (by rw [h]; simp [hg]) hr
      · rcases List.mem_cons.mp hg with rfl | hg
        · exact hxr
        · exact ih g hg hr
theorem rep_head {n m : Nat} (h : 1 ≤ n) : (List.replicate n m).head? = some m ∧ (List.replicate n m).headD 0 = m := by
  cases n with
  | zero => omega
  | succ n => exact ⟨rfl, rfl⟩
theorem gok_grp {a b : Nat} (ha : 1 ≤ a) (hb : 1 ≤ b) : ∀ {us : List Grp}, UOK a b us → GOK (grp us)
  | [], _ => trivial
  | x :: r, h => by
    have hmem := h.mem
    obtain ⟨h1, h2⟩ := h
    have ih := gok_grp ha hb h2
    unfold grp
    split
    · rename_i hx
      rw [if_pos hx] at h1
      obtain ⟨h3, h4⟩ := h1
      refine ⟨?_, ?_, ih⟩
      · intro e; rcases h3 with h3 | h3 <;> rw [h3] at e <;> have := congrArg List.length e <;> simp at this <;> omega
      · rw [if_pos hx]
        have hnext : ∀ m, (x.raw = List.replicate a 42 ∧ m = 42 ∨ x.raw = List.replicate b 95 ∧ m = 95) → (flat (grp r)).head? ≠ some m := by
          intro m hm e
          rw [flat_grp] at e
          cases r with
          | nil => cases e
          | cons y r =>
            have hy := h4 y rfl
            rw [flat_cons] at e
            rcases hmem y (by simp) with ⟨_, k | k⟩ | ⟨_, k | k | k⟩
            · rw [k, List.head?_append, (rep_head ha).1] at e
              simp at e
              rcases hm with ⟨hm, rfl⟩ | ⟨hm, rfl⟩
              · exact hy (by rw [k, hm])
              · omega
            · rw [k, List.head?_append, (rep_head hb).1] at e
              simp at e
              rcases hm with ⟨hm, rfl⟩ | ⟨hm, rfl⟩
              · omega
              · exact hy (by rw [k, hm])
            · rw [k] at e; simp at e; rcases hm with ⟨_, rfl⟩ | ⟨_, rfl⟩ <;> omega
            · rw [k] at e; simp at e; rcases hm with ⟨_, rfl⟩ | ⟨_, rfl⟩ <;> omega
            · rw [k] at e; simp at e; rcases hm with ⟨_, rfl⟩ | ⟨_, rfl⟩ <;> omega
        rcases h3 with h3 | h3
        · exact ⟨42, a, rfl, h3, hnext 42 (.inl ⟨h3, rfl⟩)⟩
        · exact ⟨95, b, rfl, h3, hnext 95 (.inr ⟨h3, rfl⟩)⟩
    · rename_i hx
      have hxf : x.run = false := by simpa using hx
      rw [if_neg hx] at h1
      have hxr : ∀ c ∈ x.raw, isMk c = false := by
        intro c hc
        rcases h1 with h1 | h1 | h1 <;> rw [h1] at hc <;> simp at hc <;> subst hc <;> rfl
      have hxn : x.raw ≠ [] := by rcases h1 with h1 | h1 | h1 <;> rw [h1] <;> simp
      split
      · rename_i y r' h
        rw [h] at ih
        obtain ⟨i1, i2, i3⟩ := ih
        simp only [Bool.false_eq_true, if_false] at i2
        refine ⟨by simp [hxn], ?_, i3⟩
        simp only [Bool.false_eq_true, if_false]
        refine ⟨fun c hc => ?_, i2.2⟩
        rcases List.mem_append.mp hc with hc | hc
        · exact hxr c hc
        · exact i2.1 c hc
      · rename_i hno
        refine ⟨hxn, ?_, ih⟩
        rw [hxf]
        simp only [Bool.false_eq_true, if_false]
        refine ⟨hxr, fun c hc => ?_⟩
        cases hg : grp r with
        | nil => rw [hg] at hc; cases hc
        | cons g gs =>
          obtain ⟨raw, run⟩ := g
          cases run with
          | false => exact absurd hg (hno raw gs)
          | true =>
            have hm := grp_run ⟨raw, true⟩ (by rw [hg]; simp) rfl
            rw [hg, flat_cons] at hc
            rcases hmem ⟨raw, true⟩ (List.mem_cons_of_mem _ hm) with ⟨_, k | k⟩ | ⟨k, _⟩
            · dsimp only at k hc
              rw [k, List.head?_append, (rep_head ha).1] at hc
              simp at hc; subst hc; rfl
            · dsimp only at k hc
              rw [k, List.head?_append, (rep_head hb).1] at hc
              simp at hc; subst hc; rfl
            · cases k
end P1
end Mine
end

/-! W23 -/
section
open PySem PySem.W PyProof.Rows
set_option linter.unusedVariables false
set_option linter.unusedSimpArgs false
namespace Mine
namespace P1
theorem ann_at {t : List Nat} : ∀ {gs : List Grp} {pos k : Nat} {p : AP}, (ann t pos gs)[k]? = some p → ∃ A g B, gs = A ++ g :: B ∧ A.length = k ∧
    p = ⟨g.raw, g.run && canO (g.raw.headD 0) (chBefore t (pos + (flat A).length)) (chBehind t (pos + (flat A).length + g.raw.length)), g.run && canC (g.raw.headD 0) (chBefore t (pos + (flat A).length)) (chBehind t (pos + (flat A).length + g.raw.length))⟩
  | [], _, _, _, h => by simp [ann] at h
  | g :: r, pos, 0, p, h => by
    simp [ann] at h; subst h
    exact ⟨[], g, r, rfl, rfl, by simp [flat]⟩
  | g :: r, pos, k + 1, p, h => by
    simp [ann] at h
    obtain ⟨A, g', B, h1, h2, h3⟩ := ann_at h
    refine ⟨g :: A, g', B, by rw [h1]; rfl, by simp [h2], ?_⟩
    rw [h3, flat_cons, List.length_append, Nat.add_assoc pos]
theorem aok_grp {a b : Nat} (ha : a = 1 ∨ a = 2) (hb : b = 1 ∨ b = 2) {us : List Grp} (h : UOK a b us) {t : List Nat} (ht : t = flat (grp us)) : AOK (ann t 0 (grp us)) := by
  have hgok := gok_grp (a := a) (b := b) (by omega) (by omega) h
  have hget : ∀ {k : Nat} {p : AP}, (ann t 0 (grp us))[k]? = some p → ∃ g, (grp us)[k]? = some g ∧ p.raw = g.raw ∧ (p.del = true → g.run = true) := fun e => by
    obtain ⟨g, h1, h2, h3⟩ := ann_get e
    refine ⟨g, h1, h2, fun hd => ?_⟩
    cases hr : g.run with
    | true => rfl
    | false => rw [h3 hr] at hd; cases hd
  have hraw : ∀ g ∈ grp us, g.run = true → g.raw = List.replicate a 42 ∨ g.raw = List.replicate b 95 := fun g hg hr => by
    rcases h.mem g (grp_run g hg hr) with ⟨_, k⟩ | ⟨k, _⟩
    · exact k
    · rw [hr] at k; cases k
  have hne : ∀ {l : List Grp}, GOK l → ∀ g ∈ l, g.raw ≠ [] := by
    intro l
    induction l with
    | nil => intro _ g hg; cases hg
    | cons x l ih =>
      intro h g hg
      rcases List.mem_cons.mp hg with rfl | hg
      · exact h.1
      · exact ih h.2.2 g hg
  have hmk : ∀ g ∈ grp us, g.run = true → ∀ c ∈ g.raw, isMk c = true := fun g hg hr c hc => by
    rcases hraw g hg hr with k | k <;> rw [k] at hc <;> rw [(List.mem_replicate.mp hc).2] <;> rfl
  have hadj : ∀ {l : List Grp}, GOK l → ∀ (k : Nat) (x y : Grp), l[k]? = some x → l[k + 1]? = some y → x.run = true → y.raw.headD 0 ≠ x.raw.headD 0 ∨ y.raw = [] := by
    intro l
    induction l with
    | nil => intro _ k x y hx; simp at hx
    | cons z l ih =>
      intro h k x y hx hy hr
      cases k with
      | succ k => exact ih h.2.2 k x y (by simpa using hx) (by simpa using hy) hr
      | zero =>
        simp at hx; subst hx
        obtain ⟨hz, h2, _⟩ := h
        rw [if_pos hr] at h2
        obtain ⟨m, n, _, e1, e2⟩ := h2
        cases l with
        | nil => simp at hy
        | cons y' l =>
          simp at hy; subst hy
          cases hy : y'.raw with
          | nil => exact .inr rfl
          | cons c r =>
            left
            intro e
            cases n with
            | zero => simp at e1; exact hz e1
            | succ n =>
              rw [e1] at e
              simp at e
              apply e2
              rw [flat_cons, hy]
              simp [e, List.replicate_succ]
  refine ⟨fun p hp => ?_, fun p hp hd => ?_, fun p hp q hq hd hd2 he => ?_, fun o p q h1 h2 hd hd2 => ?_, fun o p k q h1 h2 h3 hd hd2 hd3 => ?_, fun p hp => ?_⟩
  · obtain ⟨k, hk⟩ := List.getElem?_of_mem hp
    obtain ⟨g, h1, h2, _⟩ := hget hk
    rw [h2]; exact hne hgok g (List.mem_of_getElem? h1)
  · obtain ⟨k, hk⟩ := List.getElem?_of_mem hp
    obtain ⟨g, h1, h2, h3⟩ := hget hk
    rw [h2]
    rcases hraw g (List.mem_of_getElem? h1) (h3 hd) with e | e
    · exact ⟨42, a, rfl, ha, e⟩
    · exact ⟨95, b, rfl, hb, e⟩
  · obtain ⟨k, hk⟩ := List.getElem?_of_mem hp
    obtain ⟨g, h1, h2, h3⟩ := hget hk
    obtain ⟨k', hk'⟩ := List.getElem?_of_mem hq
    obtain ⟨g', h1', h2', h3'⟩ := hget hk'
    rw [h2, h2'] at he ⊢
    have ra := (rep_head (n := a) (m := 42) (by omega)).2
    have rb := (rep_head (n := b) (m := 95) (by omega)).2
    rcases hraw g (List.mem_of_getElem? h1) (h3 hd) with e | e <;> rcases hraw g' (List.mem_of_getElem? h1') (h3' hd2) with e' | e' <;> rw [e, e'] at he ⊢
    · rw [ra, rb] at he; omega
    · rw [ra, rb] at he; omega
  · obtain ⟨g, g1, g2, g3⟩ := hget h1
    obtain ⟨g', g1', g2', g3'⟩ := hget h2
    rw [g2, g2']
    rcases hadj hgok o g g' g1 g1' (g3 hd) with e | e
    · exact Ne.symm e
    · exact absurd e (hne hgok g' (List.mem_of_getElem? g1'))
  · obtain ⟨gj, j1, j2, j3⟩ := hget h1
    obtain ⟨gx, x1, x2, x3⟩ := hget h3
    obtain ⟨gk, k1, k2, k3⟩ := hget h2
    obtain ⟨A, g, B, e1, e2, e3⟩ := ann_at h2
    have eg : gk = g := by
      rw [e1, List.getElem?_append_right (by omega), e2, Nat.sub_self] at k1
      simpa using k1.symm
    subst eg
    have hA : ∃ A', A = A' ++ [gj] := by
      have hl : o < A.length := by omega
      rw [e1, List.getElem?_append_left hl] at j1
      refine ⟨A.take o, ?_⟩
      have := List.take_add_one (l := A) (i := o)
      rw [j1, List.take_of_length_le (by omega)] at this
      simpa using this
    obtain ⟨A', rfl⟩ := hA
    have hB : ∃ B', B = gx :: B' := by
      rw [e1, List.getElem?_append_right (by omega)] at x1
      have : o + 2 - (A' ++ [gj]).length = 1 := by omega
      rw [this] at x1
      cases B with
      | nil => simp at x1
      | cons y B' => simp at x1; exact ⟨B', by rw [x1]⟩
    obtain ⟨B', rfl⟩ := hB
    have hgj : gj ∈ grp us := by rw [e1]; simp
    have hgx : gx ∈ grp us := by rw [e1]; simp
    have nj := List.length_pos_iff.mpr (hne hgok gj hgj)
    have nx := hne hgok gx hgx
    have hfA : (flat (A' ++ [gj])).length = (flat A').length + gj.raw.length := by rw [flat_app]; simp [flat]
    have htt : t = flat A' ++ (gj.raw ++ (gk.raw ++ flat (gx :: B'))) := by rw [ht, e1, flat_app, flat_app, flat_cons]; simp [flat]
    have htt2 : t = flat (A' ++ [gj]) ++ (gk.raw ++ flat (gx :: B')) := by rw [htt, flat_app]; simp [flat]
    have hbef : isMk (chBefore t (flat (A' ++ [gj])).length) = true := by
      unfold chBefore
      rw [if_neg (by omega), hfA]
      refine hmk gj hgj (j3 hd) _ ?_
      rw [htt]
      exact mem_mid (by omega) (by omega)
    have hbeh : isMk (chBehind t ((flat (A' ++ [gj])).length + gk.raw.length)) = true := by
      unfold chBehind
      refine hmk gx hgx (x3 hd3) _ ?_
      rw [htt2, getD_behind, flat_cons]
      cases hx : gx.raw with
      | nil => exact absurd hx nx
      | cons c r => simp
    obtain ⟨f1, f2⟩ := mid_flags (m := gk.raw.headD 0) hbef hbeh
    rw [Nat.zero_add] at e3
    have hkr := k3 hd2
    rw [e3]
    refine ⟨?_, ?_⟩
    · show (gk.run && canO (gk.raw.headD 0) _ _) = true
      rw [f1, hkr]; rfl
    · show (gk.run && canC (gk.raw.headD 0) _ _) = true
      rw [f2, hkr]; rfl
  · obtain ⟨k, hk⟩ := List.getElem?_of_mem hp
    obtain ⟨g, h1, h2, _⟩ := hget hk
    rw [h2]
    refine ends_of fun hc => ?_
    cases hr : g.run with
    | true =>
      rcases hraw g (List.mem_of_getElem? h1) hr with e | e <;> rw [e] at hc <;> have := (List.mem_replicate.mp hc).2 <;> omega
    | false =>
      have := grp_chars h g (List.mem_of_getElem? h1) hr 38 hc
      omega
end P1
end Mine
end

/-! W24 -/
section
open PySem PySem.W PyProof.Rows
set_option linter.unusedVariables false
set_option linter.unusedSimpArgs false
namespace Mine
local macro_rules | `(tactic| one_place) => `(tactic| first | assumption | (simp only [Loc.set, params_cons, params_nil, String.reduceEq, if_true, if_false, reduceIte]; first | rfl | assumption))
local macro_rules | `(tactic| one_item) => `(tactic| first | assumption | exact get_last | (apply get_app; (one_item)) | (apply get_set_eq; (one_item)) | (apply get_set_ne; (first | assumption | omega); (one_item)))
local macro_rules | `(tactic| leaf_len) => `(tactic| first | assumption | rfl | (focus (simp; done)))
local macro_rules | `(tactic| l_ints) => `(tactic| first | assumption | (apply idx_list; (one_item); rfl; (assumption)) | (apply idx_tuple; (one_item); rfl; (assumption)) | (apply idx_list (k := 0); (one_item); rfl; rfl) | (apply idx_tuple (k := 0); (one_item); rfl; rfl) | (apply idx_tuple (k := 1); (one_item); rfl; rfl) | exact idx_str rfl (by assumption))
local macro_rules | `(tactic| pv_eval) => `(tactic| first
  | exact e_int | exact e_str | exact e_bool | exact e_non | exact e_nil
  | (apply e_var; (one_place))
  | (apply e_attr; (pv_eval); (one_item); (leaf_len))
  | (apply e_dget; (pv_eval); (one_item); (leaf_len))
  | (apply e_dhas; (pv_eval); (one_item); (leaf_len))
  | (apply e_dhasnt; (pv_eval); (one_item); (leaf_len))
  | (apply e_dgetd; (pv_eval); (one_item); (pv_eval); (leaf_len))
  | (apply e_sub; (pv_eval); (pv_eval); (l_ints))
  | (apply e_cmp; (pv_eval); (pv_eval); (leaf_len))
  | (apply e_bin; (pv_eval); (pv_eval); (leaf_len))
  | (apply e_lnot; (pv_eval); (one_sign))
  | (apply e_neg; (pv_eval))
  | (apply e_isNone; (pv_eval))
  | (apply e_ands; (modx_arm))
  | (apply e_ors; (modx_arm))
  | (apply e_iteT; (pv_eval); (one_sign); (pv_eval))
  | (apply e_iteF; (pv_eval); (one_sign); (pv_eval))
  | (apply e_list; (mod_arm))
  | (apply e_tuple; (mod_arm))
  | (apply e_dict; (o_shape))
  | exact e_tdict
  | (apply e_bcall; (mod_arm); (first | assumption | (apply len_list; (one_item)) | rfl))
  | (apply e_call; (mod_arm); (assumption))
  | (apply e_slice; (pv_eval); (pv_eval); (pv_eval); (assumption))
  | (apply e_bmeth; (pv_eval); (first | assumption | (apply mOk_str; (focus (simp; done))) | (apply mOk_list; (one_item); (focus (simp; done)))); (mod_arm); (first | assumption | rfl)))
local macro_rules | `(tactic| modx_arm) => `(tactic| first
  | (apply b_last; (pv_eval))
  | (apply b_go; (pv_eval); (one_sign); (modx_arm))
  | (apply b_stop; (pv_eval); (one_sign)))
local macro_rules | `(tactic| mod_arm) => `(tactic| first | exact l_nil | (apply l_cons; (pv_eval); (mod_arm)))
local macro_rules | `(tactic| o_shape) => `(tactic| first | exact kv_nil | (apply kv_cons; (pv_eval); (o_shape)))
local macro_rules | `(tactic| one_sign) => `(tactic| first | rfl | assumption | exact (truthy_list (by one_item)).trans rfl | (refine congrArg some ?_; first | (apply decide_eq_true; (omega)) | (apply decide_eq_false; (omega)) | assumption | (focus (simp; done)) | (focus (simp; omega)) | (focus (simp [*]; done))))
namespace P1
variable {d : Nat}
/-! the law's own reading -/
structure OI where
  s : List Nat
  o : Option Nat
def OI.ri (i : OI) : RI := match i.o with
  | some _ => .opn i.s
  | none => .str i.s
def opIdx : Nat → List OI → List (Nat × Nat)
  | _, [] => []
  | n, i :: r => match i.o with
    | some k => (k, n) :: opIdx (n + 1) r
    | none => opIdx (n + 1) r
theorem opIdx_app : ∀ {A B : List OI} {n : Nat}, opIdx n (A ++ B) = opIdx n A ++ opIdx (n + A.length) B
  | [], B, n => by simp [opIdx]
  | i :: A, B, n => by
    rw [List.cons_append, opIdx, opIdx]
    cases i.o with
    | none => dsimp only; rw [opIdx_app, List.length_cons]; congr 2; omega
    | some k => dsimp only; rw [opIdx_app, List.length_cons, List.cons_append]; congr 3; omega
theorem opIdx_mem : ∀ {A : List OI} {n : Nat} {e : Nat × Nat}, e ∈ opIdx n A → ∃ y ∈ A, y.o = some e.1
  | [], _, _, h => by cases h
  | i :: A, n, e, h => by
    rw [opIdx] at h
    cases hi : i.o with
    | none => rw [hi] at h; obtain ⟨y, h1, h2⟩ := opIdx_mem h; exact ⟨y, by simp [h1], h2⟩
    | some k =>
      rw [hi] at h
      rcases List.mem_cons.mp h with rfl | h
      · exact ⟨i, by simp, hi⟩
      · obtain ⟨y, h1, h2⟩ := opIdx_mem h; exact ⟨y, by simp [h1], h2⟩
theorem last_split {P : OI → Prop} : ∀ (l : List OI), (∀ i ∈ l, ¬ P i) ∨ ∃ A i C, l = A ++ i :: C ∧ P i ∧ ∀ y ∈ C, ¬ P y
  | [] => .inl (by simp)
  | x :: r => by
    rcases last_split (P := P) r with h | ⟨A, i, C, h1, h2, h3⟩
    · by_cases hx : P x
      · exact .inr ⟨[], x, r, rfl, hx, h⟩
      · exact .inl fun i hi => by
          rcases List.mem_cons.mp hi with rfl | hi
          · exact hx
          · exact h i hi
    · exact .inr ⟨x :: A, i, C, by rw [h1]; rfl, h2, h3⟩
def rmI (l : List OI) : MS := rms (l.map OI.ri).reverse
theorem rmI_snoc {l : List OI} {i : OI} : rmI (l ++ [i]) = match i.o with
    | some _ => push (rmI l) i.s
    | none => app (rmI l) i.s := by
  unfold rmI
  rw [List.map_append, List.reverse_append]
  show rms (i.ri :: (l.map OI.ri).reverse) = _
  unfold OI.ri
  cases i.o <;> rfl
theorem tellR_app : ∀ {a b : List RI}, tellR (a ++ b) = tellR b ++ tellR a
  | [], b => by simp [tellR]
  | .opn r :: a, b => by simp [tellR, tellR_app]
  | .str s :: a, b => by simp [tellR, tellR_app]
theorem tellI_eq : ∀ {l : List OI}, tellR (l.map OI.ri).reverse = (l.map (·.s)).flatten
  | [] => rfl
  | i :: l => by
    rw [List.map_cons, List.reverse_cons, tellR_app, tellI_eq]
    have : tellR [i.ri] = i.s := by unfold OI.ri; cases i.o <;> simp [tellR]
    rw [this]; simp
theorem flat_rmI {l : List OI} : flatM (rmI l) = (l.map (·.s)).flatten := by unfold rmI; rw [flat_rms, tellI_eq]
theorem pop_rmI_none {l : List OI} {x c : List Nat} (h : ∀ i ∈ l, ¬ (i.o.isSome = true ∧ i.s = x)) : pop x (rmI l) c = none := by
  unfold rmI
  refine pop_none fun it hit => ?_
  rw [List.mem_reverse] at hit
  obtain ⟨i, hi, rfl⟩ := List.mem_map.mp hit
  unfold OI.ri
  cases ho : i.o with
  | none => intro q; cases q
  | some k => intro q; injection q with q; exact h i hi ⟨by rw [ho]; rfl, q⟩
theorem pop_rmI_at {A C : List OI} {i : OI} {x : List Nat} (hi : i.o.isSome = true ∧ i.s = x) (h : ∀ y ∈ C, ¬ (y.o.isSome = true ∧ y.s = x)) : pop x (rmI (A ++ i :: C)) [] = some (app (rmI A) (wr x (C.map (·.s)).flatten)) := by
  unfold rmI
  have hri : i.ri = .opn x := by
    obtain ⟨h1, h2⟩ := hi
    unfold OI.ri
    cases ho : i.o with
    | none => rw [ho] at h1; cases h1
    | some k => dsimp only; rw [h2]
  rw [List.map_append, List.map_cons, hri, List.reverse_append, List.reverse_cons, List.append_assoc, List.singleton_append, pop_at, tellI_eq, List.append_nil]
  intro it hit
  rw [List.mem_reverse] at hit
  obtain ⟨y, hy, rfl⟩ := List.mem_map.mp hit
  unfold OI.ri
  cases ho : y.o with
  | none => intro q; cases q
  | some k => intro q; injection q with q; exact h y hy ⟨by rw [ho]; rfl, q⟩
/-! the list of what fits -/
theorem comp_filter {n : Nat} {ℓ : Loc} {σ : St} {x : String} {Q : Nat → Bool} {cond : Loc → St → Option (Bool × St)} {elt : Loc → St → Option (V × St)} (hc : ∀ j : Nat, j < n → cond (ℓ.set x (.int (j : Nat))) σ = some (Q j, σ)) (he : ∀ j : Nat, elt (ℓ.set x (.int (j : Nat))) σ = some (.int (j : Nat), σ)) :
    ∀ (rem i : Nat) (acc : List V), i + rem = n → compGo (.rng 0 (n : Nat)) (.one x) ℓ n cond elt rem i acc σ = some (acc ++ ((List.range' i rem).filter Q).map (fun (j : Nat) => V.int (j : Nat)), σ)
  | 0, i, acc, h => by simp [compGo, Src.size]
  | rem + 1, i, acc, h => by
    have hs : (Src.rng 0 (n : Nat)).size σ = some n := by simp [Src.size]
    have hb : (Src.rng 0 (n : Nat)).bind σ ℓ (.one x) i = some (ℓ.set x (.int (i : Nat))) := by simp [Src.bind]
    rw [compGo, if_pos hs]
    simp only [hb, hc i (by omega), Option.bind_eq_bind, Option.bind_some]
    rw [List.range'_succ]
    cases hq : Q i with
    | true =>
      simp only [if_true, he, Option.bind_some]
      rw [comp_filter hc he rem (i + 1) _ (by omega), List.filter_cons, if_pos hq]
      simp
    | false =>
      simp only [Bool.false_eq_true, if_false]
      rw [comp_filter hc he rem (i + 1) _ (by omega), List.filter_cons, if_neg (by simp [hq])]
theorem filter_last {n f : Nat} {Q : Nat → Bool} (hf : f < n) (hq : Q f = true) (h : ∀ j, f < j → j < n → Q j = false) : ((List.range' 0 n).filter Q).getLast? = some f := by
  have e : List.range' 0 n = (List.range' 0 f ++ [f]) ++ List.range' (f + 1) (n - f - 1) := by
    have h1 : List.range' 0 f ++ [f] = List.range' 0 (f + 1) := by rw [List.range'_concat]; simp
    rw [h1]
    have := List.range'_append (s := 0) (m := f + 1) (n := n - f - 1) (step := 1)
    rw [show 0 + 1 * (f + 1) = f + 1 by omega] at this
    rw [this]; congr 1; omega
  rw [e, List.filter_append, List.filter_append]
  have h2 : (List.range' (f + 1) (n - f - 1)).filter Q = [] := by
    rw [List.filter_eq_nil_iff]
    intro j hj
    rw [List.mem_range'_1] at hj
    rw [h j (by omega) (by omega)]; simp
  rw [h2, List.append_nil, List.filter_cons, if_pos hq]
  simp
theorem filter_none {n : Nat} {Q : Nat → Bool} (h : ∀ j, j < n → Q j = false) : (List.range' 0 n).filter Q = [] := by
  rw [List.filter_eq_nil_iff]
  intro j hj
  rw [List.mem_range'_1] at hj
  rw [h j (by omega)]; simp
theorem b_and2 {cf : CallF} {ℓ : Loc} {σ σ1 : St} {e1 e2 : E} {b1 b2 : Bool} (h1 : evalE cf e1 ℓ σ = some (.bool b1, σ1)) (h2 : evalE cf e2 ℓ σ1 = some (.bool b2, σ1)) : evalE cf (.ands (.cons e1 (.cons e2 .nil))) ℓ σ = some (.bool (b1 && b2), σ1) := by
  cases b1
  · exact e_ands (b_stop h1 rfl)
  · exact e_ands (b_go h1 rfl (b_last h2))
theorem b_or2 {cf : CallF} {ℓ : Loc} {σ σ1 : St} {e1 e2 : E} {b1 b2 : Bool} (h1 : evalE cf e1 ℓ σ = some (.bool b1, σ1)) (h2 : evalE cf e2 ℓ σ1 = some (.bool b2, σ1)) : evalE cf (.ors (.cons e1 (.cons e2 .nil))) ℓ σ = some (.bool (b1 || b2), σ1) := by
  cases b1
  · exact e_ors (b_go h1 rfl (b_last h2))
  · exact e_ors (b_stop h1 rfl)
theorem idx_lastS {σ : St} {s : List Nat} {c : Nat} (h : s.getLast? = some c) : index σ (.str s) (.int (-1)) = some (.str [c]) := by
  have hne : s ≠ [] := by rintro rfl; cases h
  have hl : 0 < s.length := List.length_pos_iff.mpr hne
  have h2 : (0 : Int) ≤ -1 + s.length := by omega
  have h3 : (-1 + (s.length : Int)).toNat = s.length - 1 := by omega
  rw [List.getLast?_eq_getElem?] at h
  simp only [index, seqIdx, show ¬ (0 : Int) ≤ -1 by decide, if_false, if_pos h2, Option.bind_eq_bind, Option.bind_some, h3, h]
/-- the signs on both sides of a piece, as the text has them -/
theorem piece_chars {us : List Grp} {t : List Nat} (ht : t = flat us) (hne : ∀ g ∈ us, g.raw ≠ []) {A C : List Grp} {g : Grp} (e : us = A ++ g :: C) :
    chBefore t (flat A).length = (if A = [] then 10 else (((A.getLast?).map (fun g => (g.raw.getLast?).getD 10)).getD 10)) ∧ chBehind t ((flat A).length + g.raw.length) = ((C.head?.map (fun g => g.raw.headD 10)).getD 10) := by
  refine ⟨?_, ?_⟩
  · by_cases hA : A = []
    · subst hA; simp [chBefore, flat]
    · rw [if_neg hA]
      obtain ⟨A', h, rfl⟩ : ∃ A' h, A = A' ++ [h] := ⟨A.dropLast, A.getLast hA, (List.dropLast_concat_getLast hA).symm⟩
      have hh := hne h (by rw [e]; simp)
      have hl := List.length_pos_iff.mpr hh
      have hfA : flat (A' ++ [h]) = flat A' ++ h.raw := by rw [flat_app]; simp [flat]
      have htt : t = flat A' ++ (h.raw ++ (g.raw ++ flat C)) := by rw [ht, e, flat_app, hfA, flat_cons]; simp
      unfold chBefore
      rw [hfA, List.length_append, if_neg (by omega), htt, getD_mid (by omega) (by omega)]
      simp only [List.getLast?_concat, Option.map_some, Option.getD_some]
      rw [List.getLast?_eq_getElem?, List.getD_eq_getElem?_getD]
      congr 2; omega
  · have htt : t = flat A ++ (g.raw ++ flat C) := by rw [ht, e, flat_app, flat_cons]
    unfold chBehind
    rw [htt, getD_behind]
    cases C with
    | nil => rfl
    | cons y C =>
      have hy := hne y (by rw [e]; simp)
      rw [flat_cons]
      cases hr : y.raw with
      | nil => exact absurd hr hy
      | cons c r => simp [hr]
end P1
end Mine
end

/-! W25 -/
section
open PySem PySem.W PyProof.Rows
set_option linter.unusedVariables false
set_option linter.unusedSimpArgs false
namespace Mine
local macro_rules | `(tactic| one_place) => `(tactic| first | assumption | (simp only [Loc.set, params_cons, params_nil, String.reduceEq, if_true, if_false, reduceIte]; first | rfl | assumption))
local macro_rules | `(tactic| one_item) => `(tactic| first | assumption | exact get_last | (apply get_app; (one_item)) | (apply get_set_eq; (one_item)) | (apply get_set_ne; (first | assumption | omega); (one_item)))
local macro_rules | `(tactic| leaf_len) => `(tactic| first | assumption | rfl | (focus (simp; done)))
local macro_rules | `(tactic| l_ints) => `(tactic| first | assumption | (apply idx_list; (one_item); rfl; (assumption)) | (apply idx_tuple; (one_item); rfl; (assumption)) | (apply idx_list (k := 0); (one_item); rfl; rfl) | (apply idx_tuple (k := 0); (one_item); rfl; rfl) | (apply idx_tuple (k := 1); (one_item); rfl; rfl) | exact idx_str rfl (by assumption))
local macro_rules | `(tactic| pv_eval) => `(tactic| first
  | exact e_int | exact e_str | exact e_bool | exact e_non | exact e_nil
  | (apply e_var; (one_place))
  | (apply e_attr; (pv_eval); (one_item); (leaf_len))
  | (apply e_dget; (pv_eval); (one_item); (leaf_len))
  | (apply e_dhas; (pv_eval); (one_item); (leaf_len))
  | (apply e_dhasnt; (pv_eval); (one_item); (leaf_len))
  | (apply e_dgetd; (pv_eval); (one_item); (pv_eval); (leaf_len))
  | (apply e_sub; (pv_eval); (pv_eval); (l_ints))
  | (apply e_cmp; (pv_eval); (pv_eval); (leaf_len))
  | (apply e_bin; (pv_eval); (pv_eval); (leaf_len))
  | (apply e_lnot; (pv_eval); (one_sign))
  | (apply e_neg; (pv_eval))
  | (apply e_isNone; (pv_eval))
  | (apply e_ands; (modx_arm))
  | (apply e_ors; (modx_arm))
  | (apply e_iteT; (pv_eval); (one_sign); (pv_eval))
  | (apply e_iteF; (pv_eval); (one_sign); (pv_eval))
  | (apply e_list; (mod_arm))
  | (apply e_tuple; (mod_arm))
  | (apply e_dict; (o_shape))
  | exact e_tdict
  | (apply e_bcall; (mod_arm); (first | assumption | (apply len_list; (one_item)) | rfl))
  | (apply e_call; (mod_arm); (assumption))
  | (apply e_slice; (pv_eval); (pv_eval); (pv_eval); (assumption))
  | (apply e_bmeth; (pv_eval); (first | assumption | (apply mOk_str; (focus (simp; done))) | (apply mOk_list; (one_item); (focus (simp; done)))); (mod_arm); (first | assumption | rfl)))
local macro_rules | `(tactic| modx_arm) => `(tactic| first
  | (apply b_last; (pv_eval))
  | (apply b_go; (pv_eval); (one_sign); (modx_arm))
  | (apply b_stop; (pv_eval); (one_sign)))
local macro_rules | `(tactic| mod_arm) => `(tactic| first | exact l_nil | (apply l_cons; (pv_eval); (mod_arm)))
local macro_rules | `(tactic| o_shape) => `(tactic| first | exact kv_nil | (apply kv_cons; (pv_eval); (o_shape)))
local macro_rules | `(tactic| one_sign) => `(tactic| first | rfl | assumption | exact (truthy_list (by one_item)).trans rfl | (refine congrArg some ?_; first | (apply decide_eq_true; (omega)) | (apply decide_eq_false; (omega)) | assumption | (focus (simp; done)) | (focus (simp; omega)) | (focus (simp [*]; done))))
namespace P1
variable {d : Nat}
def mkU (S B : List Nat) (pcs : List (List Nat)) : List Grp := pcs.map fun x => ⟨x, x == S || x == B⟩
/-- a piece and the signs beside it -/
theorem ref_at {a b : Nat} (ha : a = 1 ∨ a = 2) (hb : b = 1 ∨ b = 2) {pcs : List (List Nat)} (hU : UOK a b (mkU (List.replicate a 42) (List.replicate b 95) pcs)) {k : Nat} {x : List Nat} (hx : pcs[k]? = some x) :
    ∃ p q, p ∈ chs ∧ q ∈ chs ∧ ((k = 0 ∧ p = 10) ∨ (0 < k ∧ ∃ y, pcs[k - 1]? = some y ∧ y.getLast? = some p)) ∧ ((k + 1 = pcs.length ∧ q = 10) ∨ (k + 1 < pcs.length ∧ ∃ y, pcs[k + 1]? = some y ∧ y[0]? = some q)) ∧
      (ann (flat (mkU (List.replicate a 42) (List.replicate b 95) pcs)) 0 (mkU (List.replicate a 42) (List.replicate b 95) pcs))[k]? = some ⟨x, (x == List.replicate a 42 || x == List.replicate b 95) && opF (x.headD 0) p q, (x == List.replicate a 42 || x == List.replicate b 95) && clF (x.headD 0) p q⟩ := by
  generalize hus : mkU (List.replicate a 42) (List.replicate b 95) pcs = us at *
  have hlen : us.length = pcs.length := by rw [← hus]; simp [mkU]
  have hk : k < pcs.length := (List.getElem?_eq_some_iff.mp hx).1
  have hget : ∀ j : Nat, us[j]? = (pcs[j]?).map fun x => (⟨x, x == List.replicate a 42 || x == List.replicate b 95⟩ : Grp) := fun j => by rw [← hus]; simp [mkU]
  have hraw : ∀ g ∈ us, g.raw ≠ [] ∧ ∀ c ∈ g.raw, c ∈ chs := by
    intro g hg
    have r1 : ∀ n m, 1 ≤ n → m ∈ chs → List.replicate n m ≠ [] ∧ ∀ c ∈ List.replicate n m, c ∈ chs := fun n m hn hm => ⟨by cases n <;> simp_all, fun c hc => by rw [(List.mem_replicate.mp hc).2]; exact hm⟩
    rcases hU.mem g hg with ⟨_, e | e⟩ | ⟨_, e | e | e⟩ <;> rw [e]
    · exact r1 a 42 (by omega) (by decide)
    · exact r1 b 95 (by omega) (by decide)
    · exact ⟨by simp, by intro c hc; simp at hc; subst hc; decide⟩
    · exact ⟨by simp, by intro c hc; simp at hc; subst hc; decide⟩
    · exact ⟨by simp, by intro c hc; simp at hc; subst hc; decide⟩
  obtain ⟨pa, hpa⟩ : ∃ pa, (ann (flat us) 0 us)[k]? = some pa := ⟨_, List.getElem?_eq_getElem (by rw [ann_len, hlen]; exact hk)⟩
  obtain ⟨A, g, C, e1, e2, e3⟩ := ann_at hpa
  have hg : g = ⟨x, x == List.replicate a 42 || x == List.replicate b 95⟩ := by
    have h1 := hget k
    rw [hx, e1, List.getElem?_append_right (by omega), e2, Nat.sub_self] at h1
    simpa using h1
  subst hg
  obtain ⟨c1, c2⟩ := piece_chars rfl (fun g hg => (hraw g hg).1) e1
  rw [Nat.zero_add] at e3
  dsimp only at e3 c2
  -- before
  have hb1 : ∃ p, chBefore (flat us) (flat A).length = p ∧ p ∈ chs ∧ ((k = 0 ∧ p = 10) ∨ (0 < k ∧ ∃ y, pcs[k - 1]? = some y ∧ y.getLast? = some p)) := by
    refine ⟨_, rfl, ?_⟩
    rw [c1]
    by_cases hA : A = []
    · rw [if_pos hA]
      subst hA
      exact ⟨by decide, .inl ⟨by simpa using e2.symm, rfl⟩⟩
    · rw [if_neg hA]
      obtain ⟨h, hh⟩ : ∃ h, A.getLast? = some h := ⟨_, List.getLast?_eq_some_getLast hA⟩
      have hm : h ∈ us := by rw [e1]; exact List.mem_append_left _ (List.mem_of_getLast? hh)
      obtain ⟨n1, n2⟩ := hraw h hm
      obtain ⟨c, hc⟩ : ∃ c, h.raw.getLast? = some c := ⟨_, List.getLast?_eq_some_getLast n1⟩
      rw [hh]
      simp only [Option.map_some, Option.getD_some, hc]
      have hA0 := List.length_pos_iff.mpr hA
      refine ⟨n2 c (List.mem_of_getLast? hc), .inr ⟨by omega, h.raw, ?_, hc⟩⟩
      have h1 := hget (k - 1)
      rw [e1, List.getElem?_append_left (by omega)] at h1
      rw [List.getLast?_eq_getElem?, show A.length - 1 = k - 1 by omega] at hh
      rw [hh] at h1
      cases hp : pcs[k - 1]? with
      | none => rw [hp] at h1; cases h1
      | some y => rw [hp] at h1; simp at h1; rw [h1]
  -- behind
  have hb2 : ∃ q, chBehind (flat us) ((flat A).length + x.length) = q ∧ q ∈ chs ∧ ((k + 1 = pcs.length ∧ q = 10) ∨ (k + 1 < pcs.length ∧ ∃ y, pcs[k + 1]? = some y ∧ y[0]? = some q)) := by
    refine ⟨_, rfl, ?_⟩
    rw [c2]
    have hl : us.length = A.length + (C.length + 1) := by rw [e1]; simp
    cases C with
    | nil => exact ⟨by decide, .inl ⟨by simp at hl; omega, rfl⟩⟩
    | cons y C =>
      have hm : y ∈ us := by rw [e1]; simp
      obtain ⟨n1, n2⟩ := hraw y hm
      simp only [List.head?_cons, Option.map_some, Option.getD_some]
      simp at hl
      cases hr : y.raw with
      | nil => exact absurd hr n1
      | cons c r =>
        refine ⟨n2 c (by rw [hr]; simp), .inr ⟨by omega, y.raw, ?_, by rw [hr]; rfl⟩⟩
        have h1 := hget (k + 1)
        rw [e1, List.getElem?_append_right (by omega), show k + 1 - A.length = 1 by omega] at h1
        simp only [List.getElem?_cons_succ, List.getElem?_cons_zero] at h1
        cases hp : pcs[k + 1]? with
        | none => rw [hp] at h1; cases h1
        | some z => rw [hp] at h1; simp at h1; rw [h1]
  obtain ⟨p, hp1, hp2, hp3⟩ := hb1
  obtain ⟨q, hq1, hq2, hq3⟩ := hb2
  refine ⟨p, q, hp2, hq2, hp3, hq3, ?_⟩
  rw [hpa, e3, hp1, hq1, canO_eq hp2 hq2, canC_eq hp2 hq2]
end P1
end Mine
end

/-! W26 -/
section
open PySem PySem.W PyProof.Rows
set_option linter.unusedVariables false
set_option linter.unusedSimpArgs false
namespace Mine
local macro_rules | `(tactic| one_place) => `(tactic| first | assumption | (simp only [Loc.set, params_cons, params_nil, String.reduceEq, if_true, if_false, reduceIte]; first | rfl | assumption))
local macro_rules | `(tactic| one_item) => `(tactic| first | assumption | exact get_last | (apply get_app; (one_item)) | (apply get_set_eq; (one_item)) | (apply get_set_ne; (first | assumption | omega); (one_item)))
local macro_rules | `(tactic| leaf_len) => `(tactic| first | assumption | rfl | (focus (simp; done)))
local macro_rules | `(tactic| l_ints) => `(tactic| first | assumption | (apply idx_list; (one_item); rfl; (assumption)) | (apply idx_tuple; (one_item); rfl; (assumption)) | (apply idx_list (k := 0); (one_item); rfl; rfl) | (apply idx_tuple (k := 0); (one_item); rfl; rfl) | (apply idx_tuple (k := 1); (one_item); rfl; rfl) | exact idx_str rfl (by assumption))
local macro_rules | `(tactic| pv_eval) => `(tactic| first
  | exact e_int | exact e_str | exact e_bool | exact e_non | exact e_nil
  | (apply e_var; (one_place))
  | (apply e_attr; (pv_eval); (one_item); (leaf_len))
  | (apply e_dget; (pv_eval); (one_item); (leaf_len))
  | (apply e_dhas; (pv_eval); (one_item); (leaf_len))
  | (apply e_dhasnt; (pv_eval); (one_item); (leaf_len))
  | (apply e_dgetd; (pv_eval); (one_item); (pv_eval); (leaf_len))
  | (apply e_sub; (pv_eval); (pv_eval); (l_ints))
  | (apply e_cmp; (pv_eval); (pv_eval); (leaf_len))
  | (apply e_bin; (pv_eval); (pv_eval); (leaf_len))
  | (apply e_lnot; (pv_eval); (one_sign))
  | (apply e_neg; (pv_eval))
  | (apply e_isNone; (pv_eval))
  | (apply e_ands; (modx_arm))
  | (apply e_ors; (modx_arm))
  | (apply e_iteT; (pv_eval); (one_sign); (pv_eval))
  | (apply e_iteF; (pv_eval); (one_sign); (pv_eval))
  | (apply e_list; (mod_arm))
  | (apply e_tuple; (mod_arm))
  | (apply e_dict; (o_shape))
  | exact e_tdict
  | (apply e_bcall; (mod_arm); (first | assumption | (apply len_list; (one_item)) | rfl))
  | (apply e_call; (mod_arm); (assumption))
  | (apply e_slice; (pv_eval); (pv_eval); (pv_eval); (assumption))
  | (apply e_bmeth; (pv_eval); (first | assumption | (apply mOk_str; (focus (simp; done))) | (apply mOk_list; (one_item); (focus (simp; done)))); (mod_arm); (first | assumption | rfl)))
local macro_rules | `(tactic| modx_arm) => `(tactic| first
  | (apply b_last; (pv_eval))
  | (apply b_go; (pv_eval); (one_sign); (modx_arm))
  | (apply b_stop; (pv_eval); (one_sign)))
local macro_rules | `(tactic| mod_arm) => `(tactic| first | exact l_nil | (apply l_cons; (pv_eval); (mod_arm)))
local macro_rules | `(tactic| o_shape) => `(tactic| first | exact kv_nil | (apply kv_cons; (pv_eval); (o_shape)))
local macro_rules | `(tactic| one_sign) => `(tactic| first | rfl | assumption | exact (truthy_list (by one_item)).trans rfl | (refine congrArg some ?_; first | (apply decide_eq_true; (omega)) | (apply decide_eq_false; (omega)) | assumption | (focus (simp; done)) | (focus (simp; omega)) | (focus (simp [*]; done))))
namespace P1
variable {d : Nat}
theorem isIn_ref {σ : St} {x : List Nat} {y : Nat} {l : List (List Nat)} (h : σ[y]? = some (.tuple (l.map V.str))) : cmpOp σ .isin (.str x) (.ref y) = some (l.contains x) := by
  have h1 := seq_ofT h
  have h2 : allStrs (l.map V.str) = some l := allStrs_map
  cases x with
  | nil => simp only [cmpOp, isIn, h1, h2, Option.bind_eq_bind, Option.bind_some]
  | cons c r => cases r <;> simp only [cmpOp, isIn, h1, h2, Option.bind_eq_bind, Option.bind_some]
theorem con2 {p a b : Nat} : ([a, b] : List Nat).contains p = (p == a || p == b) := by simp only [List.contains_cons, List.contains_nil, Bool.or_false]
theorem con3 {p a b c : Nat} : ([a, b, c] : List Nat).contains p = (p == a || p == b || p == c) := by simp only [List.contains_cons, List.contains_nil, Bool.or_false, Bool.or_assoc]
theorem eq1 {σ : St} {p a : Nat} : cmpOp σ .eq (.str [p]) (.str [a]) = some (p == a) := by
  show some ([p] == [a]) = _
  congr 1
  by_cases h : p = a
  · subst h; simp
  · simp [h]
theorem ne1 {σ : St} {p a : Nat} : cmpOp σ .ne (.str [p]) (.str [a]) = some (p != a) := by
  have e : ([p] == [a]) = (p == a) := by
    by_cases h : p = a
    · subst h; simp
    · simp [h]
  show some (!([p] == [a])) = some (!(p == a))
  rw [e]
abbrev rbody : S := match f_law.body with | .seq _ (.seq _ (.seq _ (.seq _ (.seq _ (.seq (.forS _ _ b) _))))) => b | s => s
abbrev rtail : S := match rbody with | .seq _ (.seq _ (.seq _ (.seq _ (.seq _ (.seq _ (.seq _ (.seq _ s))))))) => s | s => s
set_option maxHeartbeats 1000000 in
theorem s_flags {cf : CallF} {a b : Nat} (ha : a = 1 ∨ a = 2) (hb : b = 1 ∨ b = 2) {pcs : List (List Nat)} {k pcA : Nat} {x : List Nat} {p q : Nat} {ℓ : Loc} {σ : St} (hpc : σ[pcA]? = some (.list (pcs.map .str))) (hx : pcs[k]? = some x) (lp : ℓ "pieces" = some (.ref pcA)) (ls : ℓ "stars" = some (.str (List.replicate a 42))) (lb : ℓ "bars" = some (.str (List.replicate b 95))) (lk : ℓ "k" = some (.int (k : Nat)))
    (hbef : (k = 0 ∧ p = 10) ∨ (0 < k ∧ ∃ y, pcs[k - 1]? = some y ∧ y.getLast? = some p)) (hbeh : (k + 1 = pcs.length ∧ q = 10) ∨ (k + 1 < pcs.length ∧ ∃ y, pcs[k + 1]? = some y ∧ y[0]? = some q)) :
    ∃ ℓ8 σ8, (∀ R, execS cf rtail ℓ8 σ8 = R → execS cf rbody ℓ σ = R) ∧ Fr [] σ σ8 ∧ ℓ8 "piece" = some (.str x) ∧ ℓ8 "opens" = some (.bool ((x == List.replicate a 42 || x == List.replicate b 95) && opF (x.headD 0) p q)) ∧ ℓ8 "closes" = some (.bool ((x == List.replicate a 42 || x == List.replicate b 95) && clF (x.headD 0) p q)) ∧
      (∀ y, y ∉ ["piece", "before", "behind", "left", "right", "opens", "closes"] → ℓ8 y = ℓ y) := by
  have hxv : (pcs.map V.str)[k]? = some (.str x) := by simp [hx]
  have hix := idx_list (z := (k : Nat)) hpc rfl hxv
  have hlen : builtinF σ "len" [.ref pcA] = some (.int (pcs.length : Nat), σ) := by rw [len_list hpc, List.length_map]
  have hk : k < pcs.length := (List.getElem?_eq_some_iff.mp hx).1
  have s2 : evalE cf (.ite (.cmp .gt (.var "k") (.int 0)) (.sub (.sub (.var "pieces") (.bin .sub (.var "k") (.int 1))) (.neg (.int 1))) (.str [10])) (ℓ.set "piece" (.str x)) σ = some (.str [p], σ) := by
    rcases hbef with ⟨rfl, rfl⟩ | ⟨h0, y, hy, hyl⟩
    · have hg : cmpOp σ .gt (.int ((0 : Nat) : Int)) (.int 0) = some false := rfl
      exact e_iteF (v := .bool false) (by pv_eval) rfl e_str
    · have hg : cmpOp σ .gt (.int (k : Nat)) (.int 0) = some true := congrArg some (decide_eq_true (by omega))
      have i1 : index σ (.ref pcA) (.int ((k : Int) - 1)) = some (.str y) := idx_list hpc (k := k - 1) (by omega) (by simp [hy])
      have i2 : index σ (.str y) (.int (-1)) = some (.str [p]) := idx_lastS hyl
      exact e_iteT (v := .bool true) (by pv_eval) rfl (by pv_eval)
  have s3 : evalE cf (.ite (.cmp .lt (.bin .add (.var "k") (.int 1)) (.bcall "len" (.cons (.var "pieces") .nil))) (.sub (.sub (.var "pieces") (.bin .add (.var "k") (.int 1))) (.int 0)) (.str [10])) ((ℓ.set "piece" (.str x)).set "before" (.str [p])) σ = some (.str [q], σ) := by
    rcases hbeh with ⟨h0, rfl⟩ | ⟨h0, y, hy, hyl⟩
    · have hg : cmpOp σ .lt (.int ((k : Int) + 1)) (.int (pcs.length : Nat)) = some false := congrArg some (decide_eq_false (by omega))
      exact e_iteF (v := .bool false) (by pv_eval) rfl e_str
    · have hg : cmpOp σ .lt (.int ((k : Int) + 1)) (.int (pcs.length : Nat)) = some true := congrArg some (decide_eq_true (by omega))
      have i1 : index σ (.ref pcA) (.int ((k : Int) + 1)) = some (.str y) := idx_list hpc (k := k + 1) (by omega) (by simp [hy])
      have i2 : index σ (.str y) (.int 0) = some (.str [q]) := idx_str (k := 0) rfl hyl
      exact e_iteT (v := .bool true) (by pv_eval) rfl (by pv_eval)
  let ℓ3 := ((ℓ.set "piece" (.str x)).set "before" (.str [p])).set "behind" (.str [q])
  have notin2 : ∀ (c : Nat) (σ : St), cmpOp σ .notin (.str [c]) (.str [32, 10]) = some (!(c == 32 || c == 10)) := fun c σ => by
    show some (!([32, 10] : List Nat).contains c) = _; rw [con2]
  have n1 := notin2 q σ
  have n2 := notin2 p σ
  have q97 : cmpOp σ .eq (.str [q]) (.str [97]) = some (q == 97) := eq1
  have p97 : cmpOp σ .eq (.str [p]) (.str [97]) = some (p == 97) := eq1
  have q97' : cmpOp σ .ne (.str [q]) (.str [97]) = some (q != 97) := ne1
  have p97' : cmpOp σ .ne (.str [p]) (.str [97]) = some (p != 97) := ne1
  have s4 : evalE cf (.ands (.cons (.cmp .notin (.var "behind") (.str [32, 10])) (.cons (.ors (.cons (.cmp .eq (.var "behind") (.str [97])) (.cons (.cmp .ne (.var "before") (.str [97])) .nil))) .nil))) ℓ3 σ = some (.bool (leftF p q), σ) :=
    b_and2 (e_cmp (e_var (by one_place)) e_str n1) (b_or2 (e_cmp (e_var (by one_place)) e_str q97) (e_cmp (e_var (by one_place)) e_str p97'))
  have s5 : evalE cf (.ands (.cons (.cmp .notin (.var "before") (.str [32, 10])) (.cons (.ors (.cons (.cmp .eq (.var "before") (.str [97])) (.cons (.cmp .ne (.var "behind") (.str [97])) .nil))) .nil))) (ℓ3.set "left" (.bool (leftF p q))) σ = some (.bool (rightF p q), σ) :=
    b_and2 (e_cmp (e_var (by one_place)) e_str n2) (b_or2 (e_cmp (e_var (by one_place)) e_str p97) (e_cmp (e_var (by one_place)) e_str q97'))
  let ℓ5 := (ℓ3.set "left" (.bool (leftF p q))).set "right" (.bool (rightF p q))
  let σ6 := σ ++ [O.tuple [.str (List.replicate a 42), .str (List.replicate b 95)]]
  have in6 : cmpOp σ6 .isin (.str x) (.ref σ.length) = some (x == List.replicate a 42 || x == List.replicate b 95) := by
    rw [isIn_ref (l := [List.replicate a 42, List.replicate b 95]) (show σ6[σ.length]? = some (O.tuple ([List.replicate a 42, List.replicate b 95].map V.str)) from get_last)]
    simp only [List.contains_cons, List.contains_nil, Bool.or_false]
  generalize hrun : (x == List.replicate a 42 || x == List.replicate b 95) = run at *
  have s6 : evalE cf (.ands (.cons (.cmp .isin (.var "piece") (.tuple (.cons (.var "stars") (.cons (.var "bars") .nil)))) (.cons (.var "left") .nil))) ℓ5 σ = some (.bool (run && leftF p q), σ6) :=
    b_and2 (e_cmp (e_var (by one_place)) (e_tuple (l_cons (e_var (by one_place)) (l_cons (e_var (by one_place)) l_nil))) in6) (e_var (by one_place))
  let ℓ6 := ℓ5.set "opens" (.bool (run && leftF p q))
  let σ7 := σ6 ++ [O.tuple [.str (List.replicate a 42), .str (List.replicate b 95)]]
  have in7 : cmpOp σ7 .isin (.str x) (.ref σ6.length) = some run := by
    rw [isIn_ref (l := [List.replicate a 42, List.replicate b 95]) (show σ7[σ6.length]? = some (O.tuple ([List.replicate a 42, List.replicate b 95].map V.str)) from get_last), ← hrun]
    simp only [List.contains_cons, List.contains_nil, Bool.or_false]
  have s7 : evalE cf (.ands (.cons (.cmp .isin (.var "piece") (.tuple (.cons (.var "stars") (.cons (.var "bars") .nil)))) (.cons (.var "right") .nil))) ℓ6 σ6 = some (.bool (run && rightF p q), σ7) :=
    b_and2 (e_cmp (e_var (by one_place)) (e_tuple (l_cons (e_var (by one_place)) (l_cons (e_var (by one_place)) l_nil))) in7) (e_var (by one_place))
  let ℓ7 := ℓ6.set "closes" (.bool (run && rightF p q))
  have f7 : Fr [] σ σ7 := Fr.app.trans Fr.app
  have heq : cmpOp σ7 .eq (.str x) (.str (List.replicate b 95)) = some (x == List.replicate b 95) := rfl
  have in3 : ∀ c : Nat, cmpOp σ7 .isin (.str [c]) (.str [46, 42, 95]) = some (c == 46 || c == 42 || c == 95) := fun c => by
    show some (([46, 42, 95] : List Nat).contains c) = _; rw [con3]
  have in3p := in3 p
  have in3q := in3 q
  have rb := (rep_head (n := b) (m := 95) (by omega)).2
  have ra := (rep_head (n := a) (m := 42) (by omega)).2
  have hpre : ∀ (ℓ8 : Loc), execS cf (.ifS (.cmp .eq (.var "piece") (.var "bars")) (.seq (.assign (.one "opens") (.ands (.cons (.var "left") (.cons (.ors (.cons (.lnot (.var "right")) (.cons (.cmp .isin (.var "before") (.str [46, 42, 95])) .nil))) .nil)))) (.seq (.assign (.one "closes") (.ands (.cons (.var "right") (.cons (.ors (.cons (.lnot (.var "left")) (.cons (.cmp .isin (.var "behind") (.str [46, 42, 95])) .nil))) .nil)))) .done)) .done) ℓ7 σ7 = some (.next, ℓ8, σ7) →
      ∀ R, execS cf rtail ℓ8 σ7 = R → execS cf rbody ℓ σ = R := fun ℓ8 h8 R k =>
    seqN (x_assign (by pv_eval)) (seqN (x_assign s2) (seqN (x_assign s3) (seqN (x_assign s4) (seqN (x_assign s5) (seqN (x_assign s6) (seqN (x_assign s7) (seqN h8 k)))))))
  have hother : ∀ y, y ∉ ["piece", "before", "behind", "left", "right", "opens", "closes"] → ℓ7 y = ℓ y := by
    intro y hy
    simp only [List.mem_cons, List.not_mem_nil, or_false, not_or] at hy
    obtain ⟨h1, h2, h3, h4, h5, h6, h7⟩ := hy
    simp only [ℓ7, ℓ6, ℓ5, ℓ3, Loc.set, h1, h2, h3, h4, h5, h6, h7, if_false]
  cases hB : (x == List.replicate b 95) with
  | true =>
    have hxB : x = List.replicate b 95 := eq_of_beq hB
    have hrt : run = true := by rw [← hrun, hB]; simp
    have e1 : evalE cf (.ands (.cons (.var "left") (.cons (.ors (.cons (.lnot (.var "right")) (.cons (.cmp .isin (.var "before") (.str [46, 42, 95])) .nil))) .nil))) ℓ7 σ7 = some (.bool (leftF p q && (!rightF p q || (p == 46 || p == 42 || p == 95))), σ7) :=
      b_and2 (e_var (by one_place)) (b_or2 (e_lnot (e_var (by one_place)) rfl) (e_cmp (e_var (by one_place)) e_str in3p))
    have e2 : evalE cf (.ands (.cons (.var "right") (.cons (.ors (.cons (.lnot (.var "left")) (.cons (.cmp .isin (.var "behind") (.str [46, 42, 95])) .nil))) .nil))) (ℓ7.set "opens" (.bool (leftF p q && (!rightF p q || (p == 46 || p == 42 || p == 95))))) σ7 = some (.bool (rightF p q && (!leftF p q || (q == 46 || q == 42 || q == 95))), σ7) :=
      b_and2 (e_var (by one_place)) (b_or2 (e_lnot (e_var (by one_place)) rfl) (e_cmp (e_var (by one_place)) e_str in3q))
    rw [hB] at heq
    refine ⟨_, σ7, hpre _ (x_ifT (v := .bool true) (by pv_eval) rfl (seqN (x_assign e1) (seqN (x_assign e2) x_done))), f7, by one_place, ?_, ?_, fun y hy => ?_⟩
    · rw [hrt, hxB, rb, Bool.true_and]
      simp only [opF, if_true]
      one_place
    · rw [hrt, hxB, rb, Bool.true_and]
      simp only [clF, if_true]
      one_place
    · rw [← hother y hy]
      simp only [List.mem_cons, List.not_mem_nil, or_false, not_or] at hy
      obtain ⟨h1, h2, h3, h4, h5, h6, h7⟩ := hy
      simp only [Loc.set, h6, h7, if_false]
  | false =>
    rw [hB] at heq
    have hxm : run = true → x.headD 0 = 42 := fun h => by
      rw [← hrun, hB, Bool.or_false] at h
      rw [eq_of_beq h, ra]
    refine ⟨ℓ7, σ7, hpre _ (x_ifF (v := .bool false) (by pv_eval) rfl x_done), f7, by one_place, ?_, ?_, hother⟩
    · cases run with
      | false => one_place
      | true => rw [hxm rfl]; simp only [opF, show ¬ (42 : Nat) = 95 by decide, if_false]; one_place
    · cases run with
      | false => one_place
      | true => rw [hxm rfl]; simp only [clF, show ¬ (42 : Nat) = 95 by decide, if_false]; one_place
end P1
end Mine
end

/-! W27 -/
section
open PySem PySem.W PyProof.Rows
set_option linter.unusedVariables false
set_option linter.unusedSimpArgs false
namespace Mine
local macro_rules | `(tactic| one_place) => `(tactic| first | assumption | (simp only [Loc.set, params_cons, params_nil, String.reduceEq, if_true, if_false, reduceIte]; first | rfl | assumption))
local macro_rules | `(tactic| one_item) => `(tactic| first | assumption | exact get_last | (apply get_app; (one_item)) | (apply get_set_eq; (one_item)) | (apply get_set_ne; (first | assumption | omega); (one_item)))
local macro_rules | `(tactic| leaf_len) => `(tactic| first | assumption | rfl | (focus (simp; done)))
local macro_rules | `(tactic| l_ints) => `(tactic| first | assumption | (apply idx_list; (one_item); rfl; (assumption)) | (apply idx_tuple; (one_item); rfl; (assumption)) | (apply idx_list (k := 0); (one_item); rfl; rfl) | (apply idx_tuple (k := 0); (one_item); rfl; rfl) | (apply idx_tuple (k := 1); (one_item); rfl; rfl) | exact idx_str rfl (by assumption))
local macro_rules | `(tactic| pv_eval) => `(tactic| first
  | exact e_int | exact e_str | exact e_bool | exact e_non | exact e_nil
  | (apply e_var; (one_place))
  | (apply e_attr; (pv_eval); (one_item); (leaf_len))
  | (apply e_dget; (pv_eval); (one_item); (leaf_len))
  | (apply e_dhas; (pv_eval); (one_item); (leaf_len))
  | (apply e_dhasnt; (pv_eval); (one_item); (leaf_len))
  | (apply e_dgetd; (pv_eval); (one_item); (pv_eval); (leaf_len))
  | (apply e_sub; (pv_eval); (pv_eval); (l_ints))
  | (apply e_cmp; (pv_eval); (pv_eval); (leaf_len))
  | (apply e_bin; (pv_eval); (pv_eval); (leaf_len))
  | (apply e_lnot; (pv_eval); (one_sign))
  | (apply e_neg; (pv_eval))
  | (apply e_isNone; (pv_eval))
  | (apply e_ands; (modx_arm))
  | (apply e_ors; (modx_arm))
  | (apply e_iteT; (pv_eval); (one_sign); (pv_eval))
  | (apply e_iteF; (pv_eval); (one_sign); (pv_eval))
  | (apply e_list; (mod_arm))
  | (apply e_tuple; (mod_arm))
  | (apply e_dict; (o_shape))
  | exact e_tdict
  | (apply e_bcall; (mod_arm); (first | assumption | (apply len_list; (one_item)) | rfl))
  | (apply e_call; (mod_arm); (assumption))
  | (apply e_slice; (pv_eval); (pv_eval); (pv_eval); (assumption))
  | (apply e_bmeth; (pv_eval); (first | assumption | (apply mOk_str; (focus (simp; done))) | (apply mOk_list; (one_item); (focus (simp; done)))); (mod_arm); (first | assumption | rfl)))
local macro_rules | `(tactic| modx_arm) => `(tactic| first
  | (apply b_last; (pv_eval))
  | (apply b_go; (pv_eval); (one_sign); (modx_arm))
  | (apply b_stop; (pv_eval); (one_sign)))
local macro_rules | `(tactic| mod_arm) => `(tactic| first | exact l_nil | (apply l_cons; (pv_eval); (mod_arm)))
local macro_rules | `(tactic| o_shape) => `(tactic| first | exact kv_nil | (apply kv_cons; (pv_eval); (o_shape)))
local macro_rules | `(tactic| one_sign) => `(tactic| first | rfl | assumption | exact (truthy_list (by one_item)).trans rfl | (refine congrArg some ?_; first | (apply decide_eq_true; (omega)) | (apply decide_eq_false; (omega)) | assumption | (focus (simp; done)) | (focus (simp; omega)) | (focus (simp [*]; done))))
namespace P1
variable {d : Nat}
structure RL (σ0 : St) (pcA : Nat) (S B : List Nat) (pcs : List (List Nat)) (aps : List AP) (k : Nat) (ℓ : Loc) (σ : St) : Prop where
  w : ∃ (oA qA : Nat) (items : List OI) (tl : List Nat), ℓ "out" = some (.ref oA) ∧ ℓ "opened" = some (.ref qA) ∧ oA ≠ qA ∧ σ0.length ≤ oA ∧ σ0.length ≤ qA ∧ σ[oA]? = some (.list (items.map fun i => .str i.s)) ∧ σ[qA]? = some (.list (tl.map .ref)) ∧
    All2 (fun a (e : Nat × Nat) => σ[a]? = some (.tuple [.int (e.1 : Nat), .int (e.2 : Nat)])) tl (opIdx 0 items) ∧ (∀ i ∈ items, ∀ k', i.o = some k' → pcs[k']? = some i.s) ∧ rmI items = runM (aps.take k) ∧ items.length ≤ k
  lp : ℓ "pieces" = some (.ref pcA)
  ls : ℓ "stars" = some (.str S)
  lb : ℓ "bars" = some (.str B)
  fr : Fr [] σ0 σ
theorem not_tuple_of_list {σ : St} {n a : Nat} {vs ws : List V} (h : σ[n]? = some (.list vs)) (h' : σ[a]? = some (.tuple ws)) : n ≠ a := by
  rintro rfl; rw [h] at h'; cases h'
set_option maxHeartbeats 2000000 in
theorem s_reftail {cf : CallF} {σ0 σ8 : St} {ℓ8 : Loc} {pcA k oA qA : Nat} {S B x : List Nat} {pcs : List (List Nat)} {aps : List AP} {bo bc : Bool} {items : List OI} {tl : List Nat} (hpc : σ0[pcA]? = some (.list (pcs.map .str))) (hx : pcs[k]? = some x) (hk : k ≤ 1000) (fr : Fr [] σ0 σ8)
    (h0 : 0 < σ0.length) (lpi : ℓ8 "piece" = some (.str x)) (lop : ℓ8 "opens" = some (.bool bo)) (lcl : ℓ8 "closes" = some (.bool bc)) (lp : ℓ8 "pieces" = some (.ref pcA)) (ls : ℓ8 "stars" = some (.str S)) (lb : ℓ8 "bars" = some (.str B)) (lk : ℓ8 "k" = some (.int (k : Nat))) (lo : ℓ8 "out" = some (.ref oA)) (lq : ℓ8 "opened" = some (.ref qA))
    (hoq : oA ≠ qA) (ho0 : σ0.length ≤ oA) (hq0 : σ0.length ≤ qA) (go : σ8[oA]? = some (.list (items.map fun i => .str i.s))) (gq : σ8[qA]? = some (.list (tl.map .ref))) (htl : All2 (fun a (e : Nat × Nat) => σ8[a]? = some (.tuple [.int (e.1 : Nat), .int (e.2 : Nat)])) tl (opIdx 0 items))
    (hit : ∀ i ∈ items, ∀ k', i.o = some k' → pcs[k']? = some i.s) (hms : rmI items = runM (aps.take k)) (hil : items.length ≤ k) (hap : aps[k]? = some ⟨x, bo, bc⟩) (hxl : bc = true → x.length = 1 ∨ x.length = 2) (hbd : (items.map (·.s)).flatten.length ≤ 1000) :
    ∃ ℓ' σ', execS cf rtail ℓ8 σ8 = some (.next, ℓ', σ') ∧ RL σ0 pcA S B pcs aps (k + 1) ℓ' σ' := by
  have hpc8 := fr.get0 hpc
  have htk : aps.take (k + 1) = aps.take k ++ [⟨x, bo, bc⟩] := by rw [List.take_add_one, hap]; rfl
  have htll : tl.length = (opIdx 0 items).length := htl.length
  have hopl : (opIdx 0 items).length ≤ items.length := by
    have : ∀ {l : List OI} {n : Nat}, (opIdx n l).length ≤ l.length := by
      intro l
      induction l with
      | nil => intro n; simp [opIdx]
      | cons i l ih => intro n; rw [opIdx]; cases i.o <;> dsimp only <;> simp <;> have := @ih (n + 1) <;> omega
    exact this
  let n := tl.length
  let Q : Nat → Bool := fun j => match (opIdx 0 items)[j]? with
    | some e => (pcs[e.1]?.getD []) == x
    | none => false
  have hcond : ∀ j : Nat, j < n → evalC cf (.cmp .eq (.sub (.var "pieces") (.sub (.sub (.var "opened") (.var "j")) (.int 0))) (.var "piece")) ((ℓ8.only ["piece", "pieces", "opened"]).set "j" (.int (j : Nat))) σ8 = some (Q j, σ8) := by
    intro j hj
    obtain ⟨a, ha⟩ : ∃ a, tl[j]? = some a := ⟨_, List.getElem?_eq_getElem hj⟩
    obtain ⟨e, he, g⟩ := htl.get ha
    obtain ⟨y, hy, hyo⟩ := opIdx_mem (List.mem_of_getElem? he)
    have hp := hit y hy _ hyo
    have i1 : index σ8 (.ref qA) (.int (j : Nat)) = some (.ref a) := idx_list gq rfl (by simp [ha])
    have i2 : index σ8 (.ref a) (.int 0) = some (.int (e.1 : Nat)) := idx_tuple g (k := 0) rfl rfl
    have i3 : index σ8 (.ref pcA) (.int (e.1 : Nat)) = some (.str y.s) := idx_list hpc8 rfl (by simp [hp])
    have l1 : ((ℓ8.only ["piece", "pieces", "opened"]).set "j" (.int (j : Nat))) "pieces" = some (.ref pcA) := by simp [Loc.set, Loc.only, lp]
    have l2 : ((ℓ8.only ["piece", "pieces", "opened"]).set "j" (.int (j : Nat))) "opened" = some (.ref qA) := by simp [Loc.set, Loc.only, lq]
    have l3 : ((ℓ8.only ["piece", "pieces", "opened"]).set "j" (.int (j : Nat))) "piece" = some (.str x) := by simp [Loc.set, Loc.only, lpi]
    have l4 : ((ℓ8.only ["piece", "pieces", "opened"]).set "j" (.int (j : Nat))) "j" = some (.int (j : Nat)) := by simp [Loc.set]
    have hQ : Q j = (y.s == x) := by simp only [Q, he, hp, Option.getD_some]
    rw [hQ]
    have hc : cmpOp σ8 .eq (.str y.s) (.str x) = some (y.s == x) := rfl
    exact c_of (v := .bool (y.s == x)) (by simp) (e_cmp (e_sub (e_var l1) (e_sub (e_sub (e_var l2) (e_var l4) i1) e_int i2) i3) (e_var l3) hc) rfl
  have helt : ∀ j : Nat, evalE cf (.var "j") ((ℓ8.only ["piece", "pieces", "opened"]).set "j" (.int (j : Nat))) σ8 = some (.int (j : Nat), σ8) := fun j => e_var (by simp [Loc.set])
  let fit := (List.range' 0 n).filter Q
  let σ9 := σ8 ++ [O.list (fit.map fun (j : Nat) => V.int (j : Nat))]
  have hnl : builtinF σ8 "len" [.ref qA] = some (.int (n : Nat), σ8) := by rw [len_list gq, List.length_map]
  have hcomp : evalE cf (.comp ["piece", "pieces", "opened"] (.var "j") (.one "j") (.rng (.int 0) (.bcall "len" (.cons (.var "opened") .nil)) true) (.cmp .eq (.sub (.var "pieces") (.sub (.sub (.var "opened") (.var "j")) (.int 0))) (.var "piece"))) ℓ8 σ8 = some (.ref σ8.length, σ9) := by
    have e1 : evalSrc cf (.rng (.int 0) (.bcall "len" (.cons (.var "opened") .nil)) true) ℓ8 σ8 = some (.rng 0 (n : Nat), σ8) := src_rng e_int (by pv_eval) ⟨by decide, by show ((n : Nat) : Int).natAbs ≤ LIM; unfold LIM; omega⟩
    have e2 : (Src.rng 0 (n : Nat)).size σ8 = some n := by simp [Src.size]
    have e3 := comp_filter (n := n) (ℓ := ℓ8.only ["piece", "pieces", "opened"]) (σ := σ8) (x := "j") (Q := Q) (cond := fun ℓ σ => evalC cf (.cmp .eq (.sub (.var "pieces") (.sub (.sub (.var "opened") (.var "j")) (.int 0))) (.var "piece")) ℓ σ) (elt := fun ℓ σ => evalE cf (.var "j") ℓ σ) hcond helt n 0 [] (by omega)
    have hfl : (fit.map fun (j : Nat) => V.int (j : Nat)).length ≤ LIM := by
      rw [List.length_map]
      have : fit.length ≤ n := by
        have := List.length_filter_le Q (List.range' 0 n)
        simpa [fit] using this
      unfold LIM; omega
    rw [evalE]
    simp only [e1, e2, Option.bind_eq_bind, Option.bind_some, e3, List.nil_append]
    rw [if_pos hfl]
  have f9 : Fr [] σ0 σ9 := fr.trans Fr.app
  have go9 : σ9[oA]? = some (.list (items.map fun i => .str i.s)) := get_app go
  have gq9 : σ9[qA]? = some (.list (tl.map .ref)) := get_app gq
  have gf9 : σ9[σ8.length]? = some (.list (fit.map fun (j : Nat) => V.int (j : Nat))) := get_last
  have hkeepT : ∀ {σ' : St}, Fr [] σ9 σ' → All2 (fun a (e : Nat × Nat) => σ'[a]? = some (.tuple [.int (e.1 : Nat), .int (e.2 : Nat)])) tl (opIdx 0 items) := fun f => htl.mono fun a e g => f.get0 (get_app g)
  -- a match, or none
  have hsp := last_split (P := fun i => i.o.isSome = true ∧ i.s = x) items
  by_cases hmatch : bc = true ∧ ∃ A i C, items = A ++ i :: C ∧ (i.o.isSome = true ∧ i.s = x) ∧ ∀ y ∈ C, ¬ (y.o.isSome = true ∧ y.s = x)
  · obtain ⟨hbc, A, it, C, hAC, hP, hC⟩ := hmatch
    subst hbc
    obtain ⟨k', hk'⟩ := Option.isSome_iff_exists.mp hP.1
    let f := (opIdx 0 A).length
    have hidx : opIdx 0 items = opIdx 0 A ++ (k', A.length) :: opIdx (A.length + 1) C := by
      rw [hAC, opIdx_app, opIdx, hk']; simp
    have hfn : f < n := by
      have : n = f + (1 + (opIdx (A.length + 1) C).length) := by
        show tl.length = _
        rw [htll, hidx, List.length_append, List.length_cons]
        show f + _ = _; omega
      omega
    have hef : (opIdx 0 items)[f]? = some (k', A.length) := by rw [hidx, List.getElem?_append_right (Nat.le_refl _)]; simp [f]
    have hitm : it ∈ items := by rw [hAC]; simp
    have hQf : Q f = true := by
      have := hit it hitm _ hk'
      simp only [Q, hef, this, Option.getD_some, hP.2]; simp
    have hQn : ∀ j, f < j → j < n → Q j = false := by
      intro j h1 h2
      have hj : (opIdx 0 items)[j]? = (opIdx (A.length + 1) C)[j - f - 1]? := by
        rw [hidx, List.getElem?_append_right (by show f ≤ j; omega)]
        have : j - (opIdx 0 A).length = (j - f - 1) + 1 := by show j - f = _; omega
        rw [this, List.getElem?_cons_succ]; rfl
      cases he : (opIdx 0 items)[j]? with
      | none => simp only [Q, he]
      | some e =>
        rw [hj] at he
        obtain ⟨y, hy, hyo⟩ := opIdx_mem (List.mem_of_getElem? he)
        have hp := hit y (by rw [hAC]; simp [hy]) _ hyo
        simp only [Q, hj, he, hp, Option.getD_some]
        exact beq_eq_false_iff_ne.mpr fun q => hC y hy ⟨by rw [hyo]; rfl, q⟩
    have hflast : fit.getLast? = some f := filter_last hfn hQf hQn
    have hfne : fit ≠ [] := by intro q; rw [q] at hflast; cases hflast
    obtain ⟨af, haf⟩ : ∃ a, tl[f]? = some a := ⟨_, List.getElem?_eq_getElem hfn⟩
    obtain ⟨e, he, gaf⟩ := htl.get haf
    rw [hef] at he; cases he
    have gaf9 : σ9[af]? = some (.tuple [.int (k' : Nat), .int (A.length : Nat)]) := get_app gaf
    have i1 : index σ9 (.ref σ8.length) (.int (-1)) = some (.int (f : Nat)) := idx_last gf9 (by rw [List.getLast?_map, hflast]; rfl)
    have i2 : index σ9 (.ref qA) (.int (f : Nat)) = some (.ref af) := idx_list gq9 rfl (by simp [haf])
    have i3 : index σ9 (.ref af) (.int 1) = some (.int (A.length : Nat)) := idx_tuple gaf9 (k := 1) rfl rfl
    have htrf : truthy σ9 (.ref σ8.length) = some true := by rw [truthy_list gf9]; cases hf : fit with
      | nil => exact absurd hf hfne
      | cons a r => rfl
    let ct := (C.map (·.s)).flatten
    have hAl : A.length ≤ items.length := by rw [hAC]; simp
    have hflat : (items.map (·.s)).flatten = (A.map (·.s)).flatten ++ (it.s ++ ct) := by rw [hAC]; simp [ct]
    have hct : ct.length ≤ 1000 := by rw [hflat] at hbd; simp at hbd; omega
    -- the new piece of text
    let em := if x.length = 2 then ([123, 125] : List Nat) else [60, 62]
    have hends : evalE cf (.ite (.cmp .eq (.bcall "len" (.cons (.var "piece") .nil)) (.int 1)) (.str [60, 62]) (.str [123, 125])) (((ℓ8.set "fitting" (.ref σ8.length)).set "at" (.int (A.length : Nat)))) σ9 = some (.str em, σ9) := by
      have hlx : builtinF σ9 "len" [.str x] = some (.int x.length, σ9) := rfl
      rcases hxl rfl with h | h
      · have hq : cmpOp σ9 .eq (.int (x.length : Nat)) (.int 1) = some true := by rw [h]; rfl
        have he : em = [60, 62] := by simp [em, h]
        rw [he]
        exact e_iteT (v := .bool true) (by pv_eval) rfl e_str
      · have hq : cmpOp σ9 .eq (.int (x.length : Nat)) (.int 1) = some false := by rw [h]; rfl
        have he : em = [123, 125] := by simp [em, h]
        rw [he]
        exact e_iteF (v := .bool false) (by pv_eval) rfl e_str
    obtain ⟨c0, c1, hem, hwr⟩ : ∃ c0 c1, em = [c0, c1] ∧ wr x ct = [c0] ++ ct ++ [c1] := by
      rcases hxl rfl with h | h
      · exact ⟨60, 62, by simp [em, h], by simp [wr, h]⟩
      · exact ⟨123, 125, by simp [em, h], by simp [wr, h]⟩
    have hLm : (items.map fun i => V.str i.s).length ≤ LIM := by rw [List.length_map]; unfold LIM; omega
    let σ10 := σ9 ++ [O.list (A.map fun i => .str i.s)]
    have hsl1 : sliceOf σ9 (.ref oA) .none (.int (A.length : Nat)) = some (.ref σ9.length, σ10) := by
      have := slice_list (v := .none) (w := .int (A.length : Nat)) go9 rfl (bnd_nat (k := A.length) rfl (by rw [List.length_map]; exact hAl) hLm)
      rw [this]
      congr 4
      rw [cut_map, hAC]
      simp [cut]
    have go10 : σ10[oA]? = some (.list (items.map fun i => .str i.s)) := get_app go9
    let σ11 := σ10 ++ [O.list (C.map fun i => .str i.s)]
    have hsl2 : sliceOf σ10 (.ref oA) (.int ((A.length : Int) + 1)) .none = some (.ref σ10.length, σ11) := by
      have := slice_list (v := .int ((A.length : Int) + 1)) (w := .none) go10 (bnd_nat (k := A.length + 1) (by omega) (by rw [List.length_map, hAC, List.length_append, List.length_cons]; omega) hLm) rfl
      rw [this]
      congr 4
      rw [List.length_map, cut_map, hAC]
      unfold cut
      have : (A ++ it :: C).drop (A.length + 1) = C := by
        rw [show A ++ it :: C = (A ++ [it]) ++ C by simp, List.drop_left' (by simp)]
      rw [this, List.take_of_length_le (by simp; omega)]
    have hjoin : builtinM σ11 (.str []) "join" [.ref σ10.length] = some (.str ct, σ11) := by
      have := join_list (σ := σ11) (n := σ10.length) (l := C.map (·.s)) (vs := C.map fun i => .str i.s) get_last (by rw [show (C.map fun i => V.str i.s) = (C.map (·.s)).map V.str by simp]; exact allStrs_map) (by show ct.length ≤ LIM; unfold LIM; omega)
      exact this
    have a1 : binOp σ11 .add (.str [c0]) (.str ct) = some (.str ([c0] ++ ct), σ11) := by simp only [binOp]; rw [if_pos (by simp; unfold LIM; omega)]
    have a2 : binOp σ11 .add (.str ([c0] ++ ct)) (.str [c1]) = some (.str ([c0] ++ ct ++ [c1]), σ11) := by simp only [binOp]; rw [if_pos (by simp; unfold LIM; omega)]
    let σ12 := σ11 ++ [O.list [.str ([c0] ++ ct ++ [c1])]]
    let σ13 := σ12 ++ [O.list ((A.map fun i => .str i.s) ++ [.str ([c0] ++ ct ++ [c1])])]
    have a3 : binOp σ12 .add (.ref σ9.length) (.ref σ11.length) = some (.ref σ12.length, σ13) := by
      have q1 : getList σ12 (.ref σ9.length) = some (σ9.length, A.map fun i => .str i.s) := list_of (get_app (get_app get_last))
      have q2 : getList σ12 (.ref σ11.length) = some (σ11.length, [.str ([c0] ++ ct ++ [c1])]) := list_of get_last
      simp only [binOp, addLists, q1, q2, Option.bind_eq_bind, Option.bind_some]
      rw [if_pos (by rw [List.length_map]; simp; unfold LIM; omega)]
    let ℓ10 := (((ℓ8.set "fitting" (.ref σ8.length)).set "at" (.int (A.length : Nat))).set "ends" (.str em))
    have hi0 : index σ10 (.str em) (.int 0) = some (.str [c0]) := idx_str (k := 0) rfl (by rw [hem]; rfl)
    have hi1 : index σ11 (.str em) (.int 1) = some (.str [c1]) := idx_str (k := 1) rfl (by rw [hem]; rfl)
    have hout : evalE cf (.bin .add (.slice (.var "out") .nil (.var "at")) (.list (.cons (.bin .add (.bin .add (.sub (.var "ends") (.int 0)) (.bmeth (.str []) "join" (.cons (.slice (.var "out") (.bin .add (.var "at") (.int 1)) .nil) .nil))) (.sub (.var "ends") (.int 1))) .nil))) ℓ10 σ9 = some (.ref σ12.length, σ13) :=
      e_bin (e_slice (e_var (by one_place)) e_nil (e_var (by one_place)) hsl1) (e_list (l_cons (e_bin (e_bin (e_sub (e_var (by one_place)) e_int hi0) (e_bmeth e_str (mOk_str (by simp)) (l_cons (e_slice (e_var (by one_place)) (e_bin (e_var (by one_place)) e_int rfl) e_nil hsl2) l_nil) hjoin) a1) (e_sub (e_var (by one_place)) e_int hi1) a2) l_nil)) a3
    have f13 : Fr [] σ9 σ13 := ((Fr.app.trans Fr.app).trans Fr.app).trans Fr.app
    have gq13 := f13.get0 gq9
    have gf13 := f13.get0 gf9
    have i4 : index σ13 (.ref σ8.length) (.int (-1)) = some (.int (f : Nat)) := idx_last gf13 (by rw [List.getLast?_map, hflast]; rfl)
    let σ14 := σ13 ++ [O.list ((tl.take f).map .ref)]
    have hsl3 : sliceOf σ13 (.ref qA) .none (.int (f : Nat)) = some (.ref σ13.length, σ14) := by
      have := slice_list (v := .none) (w := .int (f : Nat)) gq13 rfl (bnd_nat (k := f) rfl (by rw [List.length_map]; omega) (by rw [List.length_map]; unfold LIM; omega))
      rw [this]
      congr 4
      rw [cut_map]; simp [cut]
    have hl12 : σ13.length = σ12.length + 1 := by simp [σ13]
    have hl9 : σ0.length ≤ σ12.length := by
      have h1 := f9.1
      have h2 : Fr [] σ9 σ12 := (Fr.app.trans Fr.app).trans Fr.app
      have := h2.1; omega
    refine ⟨_, σ14, seqN (x_assign hcomp) (seqN (x_ifT (v := .ref σ8.length) (e_ands (b_go (e_var (by one_place)) rfl (b_last (e_var (by one_place))))) htrf (seqN (x_assign (e_sub (e_sub (e_var (by one_place)) (e_sub (e_var (by one_place)) (e_neg e_int) i1) i2) e_int i3)) (seqN (x_assign hends) (seqN (x_assign hout) (seqN (x_assign (e_slice (e_var (by one_place)) e_nil (e_sub (e_var (by one_place)) (e_neg e_int) i4) hsl3)) x_done))))) x_done), ?_⟩
    refine ⟨⟨σ12.length, σ13.length, A ++ [⟨wr x ct, none⟩], tl.take f, by one_place, by one_place, by omega, hl9, by omega, ?_, get_last, ?_, fun i hi k2 hk2 => ?_, ?_, ?_⟩, by one_place, by one_place, by one_place, f9.trans (f13.trans Fr.app)⟩
    · have : σ14[σ12.length]? = some (.list ((A.map fun i => .str i.s) ++ [.str ([c0] ++ ct ++ [c1])])) := get_app get_last
      rw [this, hwr]; simp
    · have h1 : opIdx 0 (A ++ [⟨wr x ct, none⟩]) = (opIdx 0 items).take f := by
        rw [opIdx_app, hidx, List.take_left' rfl]
        simp [opIdx]
      rw [h1]
      exact (hkeepT (f13.trans Fr.app)).take f
    · rcases List.mem_append.mp hi with hi | hi
      · exact hit i (by rw [hAC]; simp [hi]) k2 hk2
      · rw [List.mem_singleton.mp hi] at hk2; cases hk2
    · rw [rmI_snoc, htk, runM_snoc, ← hms, hAC]
      unfold stepM
      rw [if_pos rfl, pop_rmI_at hP hC]
    · rw [hAC] at hil; simp at hil ⊢; omega
  · -- no match
    have hnone : bc = true → ∀ i ∈ items, ¬ (i.o.isSome = true ∧ i.s = x) := fun h => by
      rcases hsp with h1 | ⟨A, i, C, h1, h2, h3⟩
      · exact h1
      · exact absurd ⟨h, A, i, C, h1, h2, h3⟩ hmatch
    have hcnd : ∃ v, evalE cf (.ands (.cons (.var "closes") (.cons (.var "fitting") .nil))) (ℓ8.set "fitting" (.ref σ8.length)) σ9 = some (v, σ9) ∧ truthy σ9 v = some false := by
      cases hbc : bc with
      | false =>
        rw [hbc] at lcl
        exact ⟨.bool false, e_ands (b_stop (e_var (by one_place)) rfl), rfl⟩
      | true =>
        rw [hbc] at lcl
        have hfe : fit = [] := filter_none fun j hj => by
          cases he : (opIdx 0 items)[j]? with
          | none => simp only [Q, he]
          | some e =>
            obtain ⟨y, hy, hyo⟩ := opIdx_mem (List.mem_of_getElem? he)
            have hp := hit y hy _ hyo
            simp only [Q, he, hp, Option.getD_some]
            exact beq_eq_false_iff_ne.mpr fun q => hnone hbc y hy ⟨by rw [hyo]; rfl, q⟩
        exact ⟨.ref σ8.length, e_ands (b_go (e_var (by one_place)) rfl (b_last (e_var (by one_place)))), by rw [truthy_list gf9, hfe]; rfl⟩
    obtain ⟨v, hcv, hcf⟩ := hcnd
    have hstep : rmI (items ++ [⟨x, if bo = true then some k else none⟩]) = runM (aps.take (k + 1)) := by
      rw [rmI_snoc, htk, runM_snoc, ← hms]
      unfold stepM
      dsimp only
      cases hbc : bc with
      | false => cases bo <;> rfl
      | true =>
        rw [pop_rmI_none (hnone hbc)]
        cases bo <;> rfl
    have hitn : ∀ i ∈ items ++ [(⟨x, if bo = true then some k else none⟩ : OI)], ∀ k', i.o = some k' → pcs[k']? = some i.s := fun i hi k2 hk2 => by
      rcases List.mem_append.mp hi with hi | hi
      · exact hit i hi k2 hk2
      · rw [List.mem_singleton.mp hi] at hk2 ⊢
        dsimp only at hk2 ⊢
        cases bo with
        | true => simp only [if_true] at hk2; cases hk2; exact hx
        | false => cases hk2
    have ho9 : oA < σ9.length := get_lt go9
    have hq9l : qA < σ9.length := get_lt gq9
    cases hbo : bo with
    | false =>
      rw [hbo] at lop hstep hitn
      have happ : builtinM σ9 (.ref oA) "append" [.str x] = some (.none, σ9.set oA (.list ((items.map fun i => .str i.s) ++ [.str x]))) := app_list go9 ⟨by rw [List.length_map]; unfold LIM; omega, by omega⟩
      refine ⟨_, _, seqN (x_assign hcomp) (seqN (x_ifF hcv hcf (seqN (x_ifF (v := .bool false) (e_var (by one_place)) rfl x_done) (seqN (x_expr (by pv_eval)) x_done))) x_done), ?_⟩
      refine ⟨⟨oA, qA, items ++ [⟨x, none⟩], tl, by one_place, by one_place, hoq, ho0, hq0, by rw [get_set_eq go9]; simp, get_set_ne hoq gq9, ?_, hitn, hstep, by simp; omega⟩, by one_place, by one_place, by one_place, f9.setNew (.inr ho0)⟩
      have h1 : opIdx 0 (items ++ [⟨x, none⟩]) = opIdx 0 items := by rw [opIdx_app]; simp [opIdx]
      rw [h1]
      exact (hkeepT Fr.refl).mono fun a e g => get_set_ne (not_tuple_of_list go9 g) g
    | true =>
      rw [hbo] at lop hstep hitn
      let σ10 := σ9 ++ [O.tuple [.int (k : Nat), .int (items.length : Nat)]]
      have hlo : builtinF σ9 "len" [.ref oA] = some (.int (items.length : Nat), σ9) := by rw [len_list go9, List.length_map]
      have gq10 : σ10[qA]? = some (.list (tl.map .ref)) := get_app gq9
      have go10 : σ10[oA]? = some (.list (items.map fun i => .str i.s)) := get_app go9
      have happ1 : builtinM σ10 (.ref qA) "append" [.ref σ9.length] = some (.none, σ10.set qA (.list (tl.map .ref ++ [.ref σ9.length]))) := app_list gq10 ⟨by rw [List.length_map]; unfold LIM; omega, by omega⟩
      let σ11 := σ10.set qA (.list (tl.map .ref ++ [.ref σ9.length]))
      have go11 : σ11[oA]? = some (.list (items.map fun i => .str i.s)) := get_set_ne (Ne.symm hoq) go10
      have gq11 : σ11[qA]? = some (.list (tl.map .ref ++ [.ref σ9.length])) := get_set_eq gq10
      have happ2 : builtinM σ11 (.ref oA) "append" [.str x] = some (.none, σ11.set oA (.list ((items.map fun i => .str i.s) ++ [.str x]))) := app_list go11 ⟨by rw [List.length_map]; unfold LIM; omega, by omega⟩
      refine ⟨_, _, seqN (x_assign hcomp) (seqN (x_ifF hcv hcf (seqN (x_ifT (v := .bool true) (e_var (by one_place)) rfl (seqN (x_expr (e_bmeth (e_var (by one_place)) (mOk_list gq9 (by simp)) (l_cons (e_tuple (l_cons (e_var (by one_place)) (l_cons (e_bcall (l_cons (e_var (by one_place)) l_nil) hlo) l_nil))) l_nil) happ1)) x_done)) (seqN (x_expr (e_bmeth (e_var (by one_place)) (mOk_list go11 (by simp)) (l_cons (e_var (by one_place)) l_nil) happ2)) x_done))) x_done), ?_⟩
      refine ⟨⟨oA, qA, items ++ [⟨x, some k⟩], tl ++ [σ9.length], by one_place, by one_place, hoq, ho0, hq0, by rw [get_set_eq go11]; simp, by rw [get_set_ne hoq gq11]; simp, ?_, hitn, hstep, by simp; omega⟩, by one_place, by one_place, by one_place, ((f9.trans Fr.app).setNew (.inr hq0)).setNew (.inr ho0)⟩
      have h1 : opIdx 0 (items ++ [⟨x, some k⟩]) = opIdx 0 items ++ [(k, items.length)] := by rw [opIdx_app]; simp [opIdx]
      rw [h1]
      have kt : ∀ {a : Nat} {ws : List V}, σ10[a]? = some (.tuple ws) → (σ11.set oA (.list ((items.map fun i => .str i.s) ++ [.str x])))[a]? = some (.tuple ws) := fun g => by
        have g11 : σ11[_]? = _ := get_set_ne (not_tuple_of_list gq10 g) g
        exact get_set_ne (not_tuple_of_list go11 g11) g11
      exact All2.append ((hkeepT (σ' := σ10) Fr.app).mono fun a e g => kt g) (.cons (kt get_last) .nil)
end P1
end Mine
end

/-! W28 -/
section
open PySem PySem.W PyProof.Rows
set_option linter.unusedVariables false
set_option linter.unusedSimpArgs false
namespace Mine
local macro_rules | `(tactic| one_place) => `(tactic| first | assumption | (simp only [Loc.set, params_cons, params_nil, String.reduceEq, if_true, if_false, reduceIte]; first | rfl | assumption))
local macro_rules | `(tactic| one_item) => `(tactic| first | assumption | exact get_last | (apply get_app; (one_item)) | (apply get_set_eq; (one_item)) | (apply get_set_ne; (first | assumption | omega); (one_item)))
local macro_rules | `(tactic| leaf_len) => `(tactic| first | assumption | rfl | (focus (simp; done)))
local macro_rules | `(tactic| l_ints) => `(tactic| first | assumption | (apply idx_list; (one_item); rfl; (assumption)) | (apply idx_tuple; (one_item); rfl; (assumption)) | (apply idx_list (k := 0); (one_item); rfl; rfl) | (apply idx_tuple (k := 0); (one_item); rfl; rfl) | (apply idx_tuple (k := 1); (one_item); rfl; rfl) | exact idx_str rfl (by assumption))
local macro_rules | `(tactic| pv_eval) => `(tactic| first
  | exact e_int | exact e_str | exact e_bool | exact e_non | exact e_nil
  | (apply e_var; (one_place))
  | (apply e_attr; (pv_eval); (one_item); (leaf_len))
  | (apply e_dget; (pv_eval); (one_item); (leaf_len))
  | (apply e_dhas; (pv_eval); (one_item); (leaf_len))
  | (apply e_dhasnt; (pv_eval); (one_item); (leaf_len))
  | (apply e_dgetd; (pv_eval); (one_item); (pv_eval); (leaf_len))
  | (apply e_sub; (pv_eval); (pv_eval); (l_ints))
  | (apply e_cmp; (pv_eval); (pv_eval); (leaf_len))
  | (apply e_bin; (pv_eval); (pv_eval); (leaf_len))
  | (apply e_lnot; (pv_eval); (one_sign))
  | (apply e_neg; (pv_eval))
  | (apply e_isNone; (pv_eval))
  | (apply e_ands; (modx_arm))
  | (apply e_ors; (modx_arm))
  | (apply e_iteT; (pv_eval); (one_sign); (pv_eval))
  | (apply e_iteF; (pv_eval); (one_sign); (pv_eval))
  | (apply e_list; (mod_arm))
  | (apply e_tuple; (mod_arm))
  | (apply e_dict; (o_shape))
  | exact e_tdict
  | (apply e_bcall; (mod_arm); (first | assumption | (apply len_list; (one_item)) | rfl))
  | (apply e_call; (mod_arm); (assumption))
  | (apply e_slice; (pv_eval); (pv_eval); (pv_eval); (assumption))
  | (apply e_bmeth; (pv_eval); (first | assumption | (apply mOk_str; (focus (simp; done))) | (apply mOk_list; (one_item); (focus (simp; done)))); (mod_arm); (first | assumption | rfl)))
local macro_rules | `(tactic| modx_arm) => `(tactic| first
  | (apply b_last; (pv_eval))
  | (apply b_go; (pv_eval); (one_sign); (modx_arm))
  | (apply b_stop; (pv_eval); (one_sign)))
local macro_rules | `(tactic| mod_arm) => `(tactic| first | exact l_nil | (apply l_cons; (pv_eval); (mod_arm)))
local macro_rules | `(tactic| o_shape) => `(tactic| first | exact kv_nil | (apply kv_cons; (pv_eval); (o_shape)))
local macro_rules | `(tactic| one_sign) => `(tactic| first | rfl | assumption | exact (truthy_list (by one_item)).trans rfl | (refine congrArg some ?_; first | (apply decide_eq_true; (omega)) | (apply decide_eq_false; (omega)) | assumption | (focus (simp; done)) | (focus (simp; omega)) | (focus (simp [*]; done))))
namespace P1
variable {d : Nat}
theorem UOK_snoc {a b : Nat} {g : Grp} (hg : if g.run = true then (g.raw = List.replicate a 42 ∨ g.raw = List.replicate b 95) else g.raw = [97] ∨ g.raw = [32] ∨ g.raw = [46]) : ∀ {us : List Grp}, UOK a b us → (∀ l, us.getLast? = some l → l.run = true → g.raw ≠ l.raw) → UOK a b (us ++ [g])
  | [], _, _ => by
    refine ⟨?_, trivial⟩
    split at hg
    · rename_i hr; rw [if_pos hr]; exact ⟨hg, fun h e => by simp at e⟩
    · rename_i hr; rw [if_neg hr]; exact hg
  | x :: r, h, hl => by
    obtain ⟨h1, h2⟩ := h
    refine ⟨?_, ?_⟩
    · show if x.run = true then _ else _
      split
      · rename_i hx
        rw [if_pos hx] at h1
        refine ⟨h1.1, fun y hy => ?_⟩
        cases r with
        | nil =>
          simp at hy; subst hy
          exact hl x rfl hx
        | cons z r => exact h1.2 y (by simpa using hy)
      · rename_i hx; rw [if_neg hx] at h1; exact h1
    · refine UOK_snoc hg h2 fun l hl2 hr => ?_
      cases r with
      | nil => cases hl2
      | cons z r => exact hl l (by rw [List.getLast?_cons_cons]; exact hl2) hr
/-- the law's own reading, run through -/
theorem s_ref {cf : CallF} {a b : Nat} (ha : a = 1 ∨ a = 2) (hb : b = 1 ∨ b = 2) {pcs : List (List Nat)} (hU : UOK a b (mkU (List.replicate a 42) (List.replicate b 95) pcs)) (hlen : pcs.length ≤ 17) {pcA : Nat} {σ0 σ : St} {ℓ : Loc} (hpc : σ0[pcA]? = some (.list (pcs.map .str))) (h0 : 0 < σ0.length)
    (start : RL σ0 pcA (List.replicate a 42) (List.replicate b 95) pcs (ann (flat (mkU (List.replicate a 42) (List.replicate b 95) pcs)) 0 (mkU (List.replicate a 42) (List.replicate b 95) pcs)) 0 ℓ σ) :
    ∃ ℓ' σ', execS cf (.forS (.one "k") (.rng (.int 0) (.bcall "len" (.cons (.var "pieces") .nil)) true) rbody) ℓ σ = some (.next, ℓ', σ') ∧
      RL σ0 pcA (List.replicate a 42) (List.replicate b 95) pcs (ann (flat (mkU (List.replicate a 42) (List.replicate b 95) pcs)) 0 (mkU (List.replicate a 42) (List.replicate b 95) pcs)) pcs.length ℓ' σ' := by
  generalize hus : mkU (List.replicate a 42) (List.replicate b 95) pcs = us at *
  have hlu : us.length = pcs.length := by rw [← hus]; simp [mkU]
  have hrawl : ∀ g ∈ us, g.raw ≠ [] ∧ g.raw.length ≤ 2 := by
    intro g hg
    have r1 : ∀ n m, 1 ≤ n → n ≤ 2 → List.replicate n m ≠ ([] : List Nat) ∧ (List.replicate n m).length ≤ 2 := fun n m h1 h2 => ⟨by cases n <;> simp_all, by simpa using h2⟩
    rcases hU.mem g hg with ⟨_, e | e⟩ | ⟨_, e | e | e⟩ <;> rw [e]
    · exact r1 a 42 (by omega) (by omega)
    · exact r1 b 95 (by omega) (by omega)
    · simp
    · simp
    · simp
  have hne : ∀ p ∈ ann (flat us) 0 us, p.raw ≠ [] := by
    intro p hp
    obtain ⟨k, hk⟩ := List.getElem?_of_mem hp
    obtain ⟨g, h1, h2, _⟩ := ann_get hk
    rw [h2]; exact (hrawl g (List.mem_of_getElem? h1)).1
  have htot : (flat us).length ≤ 2 * us.length := by
    have : ∀ {l : List Grp}, (∀ g ∈ l, g.raw.length ≤ 2) → (flat l).length ≤ 2 * l.length := by
      intro l
      induction l with
      | nil => intro _; simp [flat]
      | cons g l ih =>
        intro h
        have h1 := ih fun g hg => h g (by simp [hg])
        have h2 := h g (by simp)
        rw [flat_cons]; simp; omega
    exact this fun g hg => (hrawl g hg).2
  have hlp : (Src.rng 0 (pcs.length : Nat)).size σ = some pcs.length := by simp [Src.size]
  have hbn : builtinF σ "len" [.ref pcA] = some (.int (pcs.length : Nat), σ) := by rw [len_list (start.fr.get0 hpc), List.length_map]
  have hsp := start.lp
  obtain ⟨fl, ℓ', σ', h1, rfl, h2⟩ := for_inv (src := .rng 0 (pcs.length : Nat)) (t := .one "k") (n := pcs.length) (b := fun ℓ σ => execS cf rbody ℓ σ) (fun k ℓ σ => RL σ0 pcA (List.replicate a 42) (List.replicate b 95) pcs (ann (flat us) 0 us) k ℓ σ)
    (fun fl ℓ σ => fl = .next ∧ RL σ0 pcA (List.replicate a 42) (List.replicate b 95) pcs (ann (flat us) 0 us) pcs.length ℓ σ) (fun k ℓ σ _ _ => by simp [Src.size]) (fun k ℓ σ hk I => by
      obtain ⟨x, hx⟩ : ∃ x, pcs[k]? = some x := ⟨_, List.getElem?_eq_getElem hk⟩
      obtain ⟨⟨oA, qA, items, tl, lo, lq, hoq, ho0, hq0, go, gq, htl, hit, hms, hil⟩, lp, ls, lb, fr⟩ := I
      obtain ⟨p, q, _, _, hbef, hbeh, hap⟩ := ref_at ha hb (by rw [hus]; exact hU) hx
      rw [hus] at hap
      have hbd : (Src.rng 0 (pcs.length : Nat)).bind σ ℓ (.one "k") k = some (ℓ.set "k" (.int (k : Nat))) := by simp [Src.bind]
      obtain ⟨ℓ8, σ8, hrun, f8, p1, p2, p3, p4⟩ := s_flags (cf := cf) ha hb (ℓ := ℓ.set "k" (.int (k : Nat))) (fr.get0 hpc) hx (by one_place) (by one_place) (by one_place) (by one_place) hbef hbeh
      have g8 : ∀ y v, y ∉ ["piece", "before", "behind", "left", "right", "opens", "closes"] → (ℓ.set "k" (.int (k : Nat))) y = some v → ℓ8 y = some v := fun y v h1 h2 => (p4 y h1).trans h2
      have hflen : (items.map (·.s)).flatten.length ≤ 1000 := by
        rw [← flat_rmI, hms]
        have h1 := run_len (l := (ann (flat us) 0 us).take k) (S := ([], [])) fun p hp => hne p (List.mem_of_mem_take hp)
        have h2 : ((((ann (flat us) 0 us).take k).map (·.raw)).flatten).length ≤ (((ann (flat us) 0 us).map (·.raw)).flatten).length := by
          conv => rhs; rw [← List.take_append_drop k (ann (flat us) 0 us)]
          rw [List.map_append, List.flatten_append, List.length_append]
          omega
        rw [ann_raw] at h2
        have e0 : flatM (([], []) : MS) = [] := by simp [flatM]
        rw [e0] at h1
        unfold runM
        simp only [List.length_nil] at h1
        omega
      have hxl : ((x == List.replicate a 42 || x == List.replicate b 95) && clF (x.headD 0) p q) = true → x.length = 1 ∨ x.length = 2 := fun h => by
        have h1 := (Bool.and_eq_true _ _ ▸ h).1
        rcases Bool.or_eq_true _ _ ▸ h1 with e | e <;> rw [eq_of_beq e, List.length_replicate] <;> omega
      obtain ⟨ℓ9, σ9, hx9, R9⟩ := s_reftail (cf := cf) (S := List.replicate a 42) (B := List.replicate b 95) (aps := ann (flat us) 0 us) hpc hx (by omega) (fr.trans f8) h0 p1 p2 p3 (g8 _ _ (by decide) (by one_place)) (g8 _ _ (by decide) (by one_place)) (g8 _ _ (by decide) (by one_place)) (g8 _ _ (by decide) (by one_place)) (g8 _ _ (by decide) (by one_place)) (g8 _ _ (by decide) (by one_place))
        hoq ho0 hq0 (f8.get0 go) (f8.get0 gq) (htl.mono fun a e g => f8.get0 g) hit hms hil hap hxl hflen
      exact ⟨_, .next, ℓ9, σ9, hbd, hrun _ hx9, .inl ⟨.inl rfl, R9⟩⟩) (fun ℓ σ hi => ⟨rfl, hi⟩) pcs.length 0 ℓ σ (by omega) start
  exact ⟨ℓ', σ', run_for (src_rng e_int (by pv_eval) ⟨by decide, by unfold LIM; omega⟩) hlp h1, h2⟩
end P1
end Mine
end

/-! W29 -/
section
open PySem PySem.W PyProof.Rows
set_option linter.unusedVariables false
set_option linter.unusedSimpArgs false
namespace Mine
local macro_rules | `(tactic| one_place) => `(tactic| first | assumption | (simp only [Loc.set, params_cons, params_nil, String.reduceEq, if_true, if_false, reduceIte]; first | rfl | assumption))
local macro_rules | `(tactic| one_item) => `(tactic| first | assumption | exact get_last | (apply get_app; (one_item)) | (apply get_set_eq; (one_item)) | (apply get_set_ne; (first | assumption | omega); (one_item)))
local macro_rules | `(tactic| leaf_len) => `(tactic| first | assumption | rfl | (focus (simp; done)))
local macro_rules | `(tactic| l_ints) => `(tactic| first | assumption | (apply idx_list; (one_item); rfl; (assumption)) | (apply idx_tuple; (one_item); rfl; (assumption)) | (apply idx_list (k := 0); (one_item); rfl; rfl) | (apply idx_tuple (k := 0); (one_item); rfl; rfl) | (apply idx_tuple (k := 1); (one_item); rfl; rfl) | exact idx_str rfl (by assumption))
local macro_rules | `(tactic| pv_eval) => `(tactic| first
  | exact e_int | exact e_str | exact e_bool | exact e_non | exact e_nil
  | (apply e_var; (one_place))
  | (apply e_attr; (pv_eval); (one_item); (leaf_len))
  | (apply e_dget; (pv_eval); (one_item); (leaf_len))
  | (apply e_dhas; (pv_eval); (one_item); (leaf_len))
  | (apply e_dhasnt; (pv_eval); (one_item); (leaf_len))
  | (apply e_dgetd; (pv_eval); (one_item); (pv_eval); (leaf_len))
  | (apply e_sub; (pv_eval); (pv_eval); (l_ints))
  | (apply e_cmp; (pv_eval); (pv_eval); (leaf_len))
  | (apply e_bin; (pv_eval); (pv_eval); (leaf_len))
  | (apply e_lnot; (pv_eval); (one_sign))
  | (apply e_neg; (pv_eval))
  | (apply e_isNone; (pv_eval))
  | (apply e_ands; (modx_arm))
  | (apply e_ors; (modx_arm))
  | (apply e_iteT; (pv_eval); (one_sign); (pv_eval))
  | (apply e_iteF; (pv_eval); (one_sign); (pv_eval))
  | (apply e_list; (mod_arm))
  | (apply e_tuple; (mod_arm))
  | (apply e_dict; (o_shape))
  | exact e_tdict
  | (apply e_bcall; (mod_arm); (first | assumption | (apply len_list; (one_item)) | rfl))
  | (apply e_call; (mod_arm); (assumption))
  | (apply e_slice; (pv_eval); (pv_eval); (pv_eval); (assumption))
  | (apply e_bmeth; (pv_eval); (first | assumption | (apply mOk_str; (focus (simp; done))) | (apply mOk_list; (one_item); (focus (simp; done)))); (mod_arm); (first | assumption | rfl)))
local macro_rules | `(tactic| modx_arm) => `(tactic| first
  | (apply b_last; (pv_eval))
  | (apply b_go; (pv_eval); (one_sign); (modx_arm))
  | (apply b_stop; (pv_eval); (one_sign)))
local macro_rules | `(tactic| mod_arm) => `(tactic| first | exact l_nil | (apply l_cons; (pv_eval); (mod_arm)))
local macro_rules | `(tactic| o_shape) => `(tactic| first | exact kv_nil | (apply kv_cons; (pv_eval); (o_shape)))
local macro_rules | `(tactic| one_sign) => `(tactic| first | rfl | assumption | exact (truthy_list (by one_item)).trans rfl | (refine congrArg some ?_; first | (apply decide_eq_true; (omega)) | (apply decide_eq_false; (omega)) | assumption | (focus (simp; done)) | (focus (simp; omega)) | (focus (simp [*]; done))))
namespace P1
theorem rep_ne {n m c : Nat} (hn : 1 ≤ n) (hm : m ≠ c) : ([c] == List.replicate n m) = false := by
  refine beq_eq_false_iff_ne.mpr fun e => ?_
  cases n with
  | zero => omega
  | succ n => rw [List.replicate_succ] at e; injection e with e _; exact hm e.symm
theorem mkU_snoc {a b : Nat} (ha : a = 1 ∨ a = 2) (hb : b = 1 ∨ b = 2) {pcs : List (List Nat)} (hU : UOK a b (mkU (List.replicate a 42) (List.replicate b 95) pcs)) {x y : List Nat} (hx : x = [97] ∨ x = [32] ∨ x = [46] ∨ x = List.replicate a 42 ∨ x = List.replicate b 95)
    (hy : y = [97] ∨ (y = x ∧ ((x == List.replicate a 42 || x == List.replicate b 95) = true → ∀ l, pcs.getLast? = some l → x ≠ l))) : UOK a b (mkU (List.replicate a 42) (List.replicate b 95) (pcs ++ [y])) := by
  have pl : ∀ c, c = 97 ∨ c = 32 ∨ c = 46 → ([c] == List.replicate a 42 || [c] == List.replicate b 95) = false := fun c hc => by
    rw [rep_ne (by omega) (by omega), rep_ne (by omega) (by omega)]; rfl
  have e : mkU (List.replicate a 42) (List.replicate b 95) (pcs ++ [y]) = mkU (List.replicate a 42) (List.replicate b 95) pcs ++ [⟨y, y == List.replicate a 42 || y == List.replicate b 95⟩] := by simp [mkU]
  rw [e]
  have hlast : ∀ l, (mkU (List.replicate a 42) (List.replicate b 95) pcs).getLast? = some l → l.run = true → pcs.getLast? = some l.raw ∧ (l.raw = List.replicate a 42 ∨ l.raw = List.replicate b 95) := by
    intro l hl hr
    unfold mkU at hl
    rw [List.getLast?_map] at hl
    obtain ⟨z, hz, rfl⟩ := Option.map_eq_some_iff.mp hl
    refine ⟨hz, ?_⟩
    rcases Bool.or_eq_true _ _ ▸ hr with q | q
    · exact .inl (eq_of_beq q)
    · exact .inr (eq_of_beq q)
  have hplain : ∀ c, c = 97 ∨ c = 32 ∨ c = 46 → UOK a b (mkU (List.replicate a 42) (List.replicate b 95) pcs ++ [⟨[c], [c] == List.replicate a 42 || [c] == List.replicate b 95⟩]) := fun c hc => by
    refine UOK_snoc ?_ hU fun l hl hr q => ?_
    · rw [pl c hc]
      simp only [Bool.false_eq_true, if_false]
      rcases hc with rfl | rfl | rfl <;> simp
    · obtain ⟨_, h2⟩ := hlast l hl hr
      have := pl c hc
      dsimp only at q
      rcases h2 with h2 | h2 <;> rw [← q] at h2 <;> rw [h2] at this <;> simp at this
  rcases hy with rfl | ⟨rfl, hy⟩
  · exact hplain 97 (.inl rfl)
  · rcases hx with rfl | rfl | rfl | hx
    · exact hplain 97 (.inl rfl)
    · exact hplain 32 (.inr (.inl rfl))
    · exact hplain 46 (.inr (.inr rfl))
    · have hrun : (y == List.replicate a 42 || y == List.replicate b 95) = true := by rcases hx with rfl | rfl <;> simp
      refine UOK_snoc ?_ hU fun l hl hr q => ?_
      · rw [hrun]; simp only [if_true]; exact hx
      · exact hy hrun l.raw (hlast l hl hr).1 q
abbrev lbody1 : S := match f_law.body with | .seq _ (.seq _ (.seq _ (.seq (.forS _ _ b) _))) => b | s => s
theorem fmodN {c : Int} {n : Nat} (hn : 0 < n) : ∃ j : Nat, c.fmod n = j ∧ j < n := by
  have h1 := Int.fmod_nonneg_of_pos c (b := n) (by omega)
  have h2 := Int.fmod_lt_of_pos c (b := n) (by omega)
  exact ⟨(c.fmod n).toNat, by omega, by omega⟩
set_option maxHeartbeats 1000000 in
theorem s_pieces {cf : CallF} {a b : Nat} (ha : a = 1 ∨ a = 2) (hb : b = 1 ∨ b = 2) {σ : St} {ℓ : Loc} {sA pA : Nat} {cs : List Int} (hs : σ[sA]? = some (.list (cs.map .int))) (hp : σ[pA]? = some (.list [])) (hne : sA ≠ pA) (hp0 : pA ≠ 0) (hcl : cs.length ≤ 16)
    (lp : ℓ "pieces" = some (.ref pA)) (ls : ℓ "stars" = some (.str (List.replicate a 42))) (lb : ℓ "bars" = some (.str (List.replicate b 95))) :
    ∃ ℓ' σ' pcs, forGo (.list sA) (.one "cell") cs.length (fun ℓ σ => execS cf lbody1 ℓ σ) cs.length 0 ℓ σ = some (.next, ℓ', σ') ∧ Fr [pA] σ σ' ∧ σ'[pA]? = some (.list (pcs.map .str)) ∧ pcs.length = cs.length ∧ UOK a b (mkU (List.replicate a 42) (List.replicate b 95) pcs) ∧
      ℓ' "pieces" = some (.ref pA) ∧ ℓ' "stars" = some (.str (List.replicate a 42)) ∧ ℓ' "bars" = some (.str (List.replicate b 95)) := by
  obtain ⟨fl, ℓ', σ', h1, rfl, fr, lp', ls', lb', pcs, g, hl, hU⟩ := for_inv (src := .list sA) (t := .one "cell") (n := cs.length) (b := fun ℓ σ => execS cf lbody1 ℓ σ)
    (fun i ℓ σ' => Fr [pA] σ σ' ∧ ℓ "pieces" = some (.ref pA) ∧ ℓ "stars" = some (.str (List.replicate a 42)) ∧ ℓ "bars" = some (.str (List.replicate b 95)) ∧ ∃ pcs : List (List Nat), σ'[pA]? = some (.list (pcs.map .str)) ∧ pcs.length = i ∧ UOK a b (mkU (List.replicate a 42) (List.replicate b 95) pcs))
    (fun fl ℓ σ' => fl = .next ∧ Fr [pA] σ σ' ∧ ℓ "pieces" = some (.ref pA) ∧ ℓ "stars" = some (.str (List.replicate a 42)) ∧ ℓ "bars" = some (.str (List.replicate b 95)) ∧ ∃ pcs : List (List Nat), σ'[pA]? = some (.list (pcs.map .str)) ∧ pcs.length = cs.length ∧ UOK a b (mkU (List.replicate a 42) (List.replicate b 95) pcs))
    (fun i ℓ σ' _ hi => by rw [size_list (hi.1.get hs (by simpa using hne)), List.length_map]) (fun i ℓ σ' hi hI => by
      obtain ⟨fr, l1, l2, l3, pcs, g, hl, hU⟩ := hI
      obtain ⟨c, hc⟩ : ∃ c, cs[i]? = some c := ⟨_, List.getElem?_eq_getElem hi⟩
      have hbd : (Src.list sA).bind σ' ℓ (.one "cell") i = some (ℓ.set "cell" (.int c)) := bind_list (fr.get hs (by simpa using hne)) (by simp [hc])
      let six : List (List Nat) := [[97], [97], [32], [46], List.replicate a 42, List.replicate b 95]
      let σ2 := σ' ++ [O.list (six.map .str)]
      obtain ⟨j, hj, hj6⟩ := fmodN (c := c) (n := 6) (by omega)
      obtain ⟨x, hx⟩ : ∃ x, six[j]? = some x := ⟨_, List.getElem?_eq_getElem (by simpa [six] using hj6)⟩
      have hxs : x = [97] ∨ x = [32] ∨ x = [46] ∨ x = List.replicate a 42 ∨ x = List.replicate b 95 := by
        have hm := List.mem_of_getElem? hx
        simp only [six, List.mem_cons, List.not_mem_nil, or_false] at hm
        rcases hm with h | h | h | h | h | h <;> simp [h]
      have hmod : binOp σ2 .mod (.int c) (.int 6) = some (.int (j : Nat), σ2) := by
        simp only [binOp]
        rw [if_pos (by unfold LIM; decide)]
        have : c.fmod 6 = (j : Int) := hj
        rw [this]
      have hix : index σ2 (.ref σ'.length) (.int (j : Nat)) = some (.str x) := idx_list (vs := six.map .str) get_last rfl (by rw [List.getElem?_map, hx]; rfl)
      have f2 : Fr [] σ' σ2 := Fr.app
      have g2 : σ2[pA]? = some (.list (pcs.map .str)) := f2.get0 g
      have hpiece : evalE cf (.sub (.list (.cons (.str [97]) (.cons (.str [97]) (.cons (.str [32]) (.cons (.str [46]) (.cons (.var "stars") (.cons (.var "bars") .nil))))))) (.bin .mod (.var "cell") (.int 6))) (ℓ.set "cell" (.int c)) σ' = some (.str x, σ2) :=
        e_sub (e_list (l_cons e_str (l_cons e_str (l_cons e_str (l_cons e_str (l_cons (e_var (by one_place)) (l_cons (e_var (by one_place)) l_nil))))))) (e_bin (e_var (by one_place)) e_int hmod) hix
      let ℓ1 := (ℓ.set "cell" (.int c)).set "piece" (.str x)
      -- what is appended
      obtain ⟨y, σ3, hev, f3, hy⟩ : ∃ y σ3, evalE cf (.ite (.ands (.cons (.var "pieces") (.cons (.cmp .isin (.var "piece") (.tuple (.cons (.var "stars") (.cons (.var "bars") .nil)))) (.cons (.cmp .eq (.var "piece") (.sub (.var "pieces") (.neg (.int 1)))) .nil)))) (.str [97]) (.var "piece")) ℓ1 σ2 = some (.str y, σ3) ∧ Fr [] σ2 σ3 ∧
          (y = [97] ∨ (y = x ∧ ((x == List.replicate a 42 || x == List.replicate b 95) = true → ∀ l, pcs.getLast? = some l → x ≠ l))) := by
        cases hpcs : pcs with
        | nil =>
          rw [hpcs] at g2
          exact ⟨x, σ2, e_iteF (v := .ref pA) (e_ands (b_stop (e_var (by one_place)) ((truthy_list g2).trans rfl))) ((truthy_list g2).trans rfl) (e_var (by one_place)), Fr.refl, .inr ⟨rfl, fun _ l hl => by cases hl⟩⟩
        | cons z zs =>
          have htr : truthy σ2 (.ref pA) = some true := by rw [truthy_list g2, hpcs]; rfl
          let σ3 := σ2 ++ [O.tuple [.str (List.replicate a 42), .str (List.replicate b 95)]]
          have hin : cmpOp σ3 .isin (.str x) (.ref σ2.length) = some (x == List.replicate a 42 || x == List.replicate b 95) := by
            rw [isIn_ref (l := [List.replicate a 42, List.replicate b 95]) (show σ3[σ2.length]? = some (O.tuple ([List.replicate a 42, List.replicate b 95].map V.str)) from get_last)]
            simp only [List.contains_cons, List.contains_nil, Bool.or_false]
          have hine : evalE cf (.cmp .isin (.var "piece") (.tuple (.cons (.var "stars") (.cons (.var "bars") .nil)))) ℓ1 σ2 = some (.bool (x == List.replicate a 42 || x == List.replicate b 95), σ3) :=
            e_cmp (e_var (by one_place)) (e_tuple (l_cons (e_var (by one_place)) (l_cons (e_var (by one_place)) l_nil))) hin
          have g3 : σ3[pA]? = some (.list (pcs.map .str)) := get_app g2
          cases hrun : (x == List.replicate a 42 || x == List.replicate b 95) with
          | false =>
            rw [hrun] at hine
            exact ⟨x, σ3, e_iteF (v := .bool false) (e_ands (b_go (e_var (by one_place)) htr (b_stop hine rfl))) rfl (e_var (by one_place)), Fr.app, .inr ⟨rfl, fun h => by cases h⟩⟩
          | true =>
            rw [hrun] at hine
            obtain ⟨w, hw⟩ : ∃ w, pcs.getLast? = some w := by rw [hpcs]; exact ⟨_, List.getLast?_eq_some_getLast (by simp)⟩
            have hil : index σ3 (.ref pA) (.int (-1)) = some (.str w) := idx_last g3 (by rw [List.getLast?_map, hw]; rfl)
            have heq : cmpOp σ3 .eq (.str x) (.str w) = some (x == w) := rfl
            rw [hpcs] at hw
            cases hxw : (x == w) with
            | true =>
              rw [hxw] at heq
              exact ⟨[97], σ3, e_iteT (v := .bool true) (e_ands (b_go (e_var (by one_place)) htr (b_go hine rfl (b_last (e_cmp (e_var (by one_place)) (e_sub (e_var (by one_place)) (e_neg e_int) hil) heq))))) rfl e_str, Fr.app, .inl rfl⟩
            | false =>
              rw [hxw] at heq
              exact ⟨x, σ3, e_iteF (v := .bool false) (e_ands (b_go (e_var (by one_place)) htr (b_go hine rfl (b_last (e_cmp (e_var (by one_place)) (e_sub (e_var (by one_place)) (e_neg e_int) hil) heq))))) rfl (e_var (by one_place)), Fr.app, .inr ⟨rfl, fun _ l hl q => by
                rw [hw] at hl; cases hl
                rw [q] at hxw; simp at hxw⟩⟩
      have g3 := f3.get0 g2
      have happ : builtinM σ3 (.ref pA) "append" [.str y] = some (.none, σ3.set pA (.list (pcs.map .str ++ [.str y]))) := app_list g3 ⟨by rw [List.length_map]; unfold LIM; omega, hp0⟩
      refine ⟨_, .next, _, _, hbd, seqN (x_assign hpiece) (seqN (x_expr (e_bmeth (e_var (by one_place)) (mOk_list g2 (by simp)) (l_cons hev l_nil) happ)) x_done), .inl ⟨.inl rfl, ((fr.trans (f2.mono (by simp))).trans (f3.mono (by simp))).trans (Fr.set (.inl (by simp))), by one_place, by one_place, by one_place, pcs ++ [y], by rw [get_set_eq g3]; simp, by simp [hl], mkU_snoc ha hb hU hxs hy⟩⟩)
    (fun ℓ σ' hi => ⟨rfl, hi⟩) cs.length 0 ℓ σ (by omega) ⟨Fr.refl, lp, ls, lb, [], hp, rfl, trivial⟩
  exact ⟨ℓ', σ', pcs, h1, fr, g, hl, hU, lp', ls', lb'⟩
end P1
end Mine
end

/-! W30 -/
section
open PySem PySem.W PyProof.Rows
set_option linter.unusedVariables false
set_option linter.unusedSimpArgs false
namespace Mine
local macro_rules | `(tactic| one_place) => `(tactic| first | assumption | (simp only [Loc.set, params_cons, params_nil, String.reduceEq, if_true, if_false, reduceIte]; first | rfl | assumption))
local macro_rules | `(tactic| one_item) => `(tactic| first | assumption | exact get_last | (apply get_app; (one_item)) | (apply get_set_eq; (one_item)) | (apply get_set_ne; (first | assumption | omega); (one_item)))
local macro_rules | `(tactic| leaf_len) => `(tactic| first | assumption | rfl | (focus (simp; done)))
local macro_rules | `(tactic| l_ints) => `(tactic| first | assumption | (apply idx_list; (one_item); rfl; (assumption)) | (apply idx_tuple; (one_item); rfl; (assumption)) | (apply idx_list (k := 0); (one_item); rfl; rfl) | (apply idx_tuple (k := 0); (one_item); rfl; rfl) | (apply idx_tuple (k := 1); (one_item); rfl; rfl) | exact idx_str rfl (by assumption))
local macro_rules | `(tactic| pv_eval) => `(tactic| first
  | exact e_int | exact e_str | exact e_bool | exact e_non | exact e_nil
  | (apply e_var; (one_place))
  | (apply e_attr; (pv_eval); (one_item); (leaf_len))
  | (apply e_dget; (pv_eval); (one_item); (leaf_len))
  | (apply e_dhas; (pv_eval); (one_item); (leaf_len))
  | (apply e_dhasnt; (pv_eval); (one_item); (leaf_len))
  | (apply e_dgetd; (pv_eval); (one_item); (pv_eval); (leaf_len))
  | (apply e_sub; (pv_eval); (pv_eval); (l_ints))
  | (apply e_cmp; (pv_eval); (pv_eval); (leaf_len))
  | (apply e_bin; (pv_eval); (pv_eval); (leaf_len))
  | (apply e_lnot; (pv_eval); (one_sign))
  | (apply e_neg; (pv_eval))
  | (apply e_isNone; (pv_eval))
  | (apply e_ands; (modx_arm))
  | (apply e_ors; (modx_arm))
  | (apply e_iteT; (pv_eval); (one_sign); (pv_eval))
  | (apply e_iteF; (pv_eval); (one_sign); (pv_eval))
  | (apply e_list; (mod_arm))
  | (apply e_tuple; (mod_arm))
  | (apply e_dict; (o_shape))
  | exact e_tdict
  | (apply e_bcall; (mod_arm); (first | assumption | (apply len_list; (one_item)) | rfl))
  | (apply e_call; (mod_arm); (assumption))
  | (apply e_slice; (pv_eval); (pv_eval); (pv_eval); (assumption))
  | (apply e_bmeth; (pv_eval); (first | assumption | (apply mOk_str; (focus (simp; done))) | (apply mOk_list; (one_item); (focus (simp; done)))); (mod_arm); (first | assumption | rfl)))
local macro_rules | `(tactic| modx_arm) => `(tactic| first
  | (apply b_last; (pv_eval))
  | (apply b_go; (pv_eval); (one_sign); (modx_arm))
  | (apply b_stop; (pv_eval); (one_sign)))
local macro_rules | `(tactic| mod_arm) => `(tactic| first | exact l_nil | (apply l_cons; (pv_eval); (mod_arm)))
local macro_rules | `(tactic| o_shape) => `(tactic| first | exact kv_nil | (apply kv_cons; (pv_eval); (o_shape)))
local macro_rules | `(tactic| one_sign) => `(tactic| first | rfl | assumption | exact (truthy_list (by one_item)).trans rfl | (refine congrArg some ?_; first | (apply decide_eq_true; (omega)) | (apply decide_eq_false; (omega)) | assumption | (focus (simp; done)) | (focus (simp; omega)) | (focus (simp [*]; done))))
namespace P1
theorem rep_one {n c : Nat} : (List.replicate n [c]).flatten = List.replicate n c := by
  induction n with
  | zero => rfl
  | succ n ih => rw [List.replicate_succ, List.flatten_cons, ih, List.replicate_succ]; rfl
theorem bound_min {n : Nat} {z : Nat} : bound n (z : Int) = min z n := by
  unfold bound; rw [if_neg (by omega)]; simp
theorem bnd_min {n dflt z : Nat} (hz : z ≤ 1000) : bnd n dflt (.int (z : Nat)) = some (min z n) := by
  show (if ((z : Nat) : Int).natAbs ≤ LIM then some (bound n (z : Int)) else none) = _
  rw [if_pos (by unfold LIM; omega), bound_min]
theorem s_cells {cf : CallF} {xs : List Int} (h : xs.length ≤ 63) :
    ∃ σ cA c0 rest, evalE cf (.bin .add (.slice (.var "script") .nil (.int 17)) (.slice (.list (.cons (.int 0) .nil)) (.bcall "len" (.cons (.slice (.var "script") .nil (.int 1)) .nil)) .nil)) (params ["script"] [.ref 0]) [.list (xs.map .int)] = some (.ref cA, σ) ∧ σ[cA]? = some (.list ((c0 :: rest).map V.int)) ∧ rest.length ≤ 16 := by
  let σ0 : St := [.list (xs.map .int)]
  let n := xs.length
  have hn : (xs.map V.int).length = n := by simp [n]
  have g0 : σ0[0]? = some (.list (xs.map .int)) := rfl
  let C1 := cut (xs.map V.int) 0 (min 17 n)
  let σ1 := σ0 ++ [O.list C1]
  have e1 : sliceOf σ0 (.ref 0) .none (.int 17) = some (.ref σ0.length, σ1) := slice_list g0 rfl (by rw [hn]; exact bnd_min (z := 17) (by decide))
  let σ2 := σ1 ++ [O.list [.int 0]]
  let C3 := cut (xs.map V.int) 0 (min 1 n)
  let σ3 := σ2 ++ [O.list C3]
  have e2 : sliceOf σ2 (.ref 0) .none (.int 1) = some (.ref σ2.length, σ3) := slice_list (get_app (get_app g0)) rfl (by rw [hn]; exact bnd_min (z := 1) (by decide))
  have hC3 : C3.length = min 1 n := by simp [C3, cut, n]
  have e3 : builtinF σ3 "len" [.ref σ2.length] = some (.int ((min 1 n : Nat) : Int), σ3) := by rw [len_list get_last, hC3]
  let C2 := cut [V.int 0] (min 1 n) 1
  let σ4 := σ3 ++ [O.list C2]
  have g1 : σ3[σ1.length]? = some (.list [.int 0]) := get_app get_last
  have e4 : sliceOf σ3 (.ref σ1.length) (.int ((min 1 n : Nat) : Int)) .none = some (.ref σ3.length, σ4) := slice_list g1 (bnd_nat (k := min 1 n) rfl (by simp; omega) (by unfold LIM; simp)) rfl
  let σ5 := σ4 ++ [O.list (C1 ++ C2)]
  have hC1 : C1.length ≤ 17 := by simp [C1, cut]; omega
  have hC2 : C2.length ≤ 1 := by simp [C2, cut]
  have e5 : binOp σ4 .add (.ref σ0.length) (.ref σ3.length) = some (.ref σ4.length, σ5) := by
    have q1 : getList σ4 (.ref σ0.length) = some (σ0.length, C1) := list_of (get_app (get_app (get_app get_last)))
    have q2 : getList σ4 (.ref σ3.length) = some (σ3.length, C2) := list_of get_last
    simp only [binOp, addLists, q1, q2, Option.bind_eq_bind, Option.bind_some]
    rw [if_pos (by unfold LIM; omega)]
  have hCL : ∃ c0 rest, C1 ++ C2 = (c0 :: rest).map V.int ∧ rest.length ≤ 16 := by
    cases hxs : xs with
    | nil =>
      refine ⟨0, [], ?_, by simp⟩
      simp [C1, C2, n, hxs, cut]
    | cons x r =>
      refine ⟨x, r.take 16, ?_, by simp; omega⟩
      have hn1 : 1 ≤ n := by simp [n, hxs]
      have h2 : C2 = [] := by
        simp only [C2, cut]
        rw [show min 1 n = 1 by omega]; rfl
      rw [h2, List.append_nil]
      simp only [C1, cut, hxs, n, List.drop_zero, Nat.sub_zero]
      rw [← List.map_take]
      congr 1
      rw [List.length_cons]
      by_cases h16 : r.length ≤ 16
      · rw [List.take_of_length_le (by simp; omega), List.take_of_length_le h16]
      · rw [show min 17 (r.length + 1) = 16 + 1 by omega, List.take_succ_cons]
  obtain ⟨c0, rest, hcl, hr⟩ := hCL
  exact ⟨σ5, σ4.length, c0, rest, e_bin (e_slice (e_var (by one_place)) e_nil e_int e1) (e_slice (e_list (l_cons e_int l_nil)) (e_bcall (l_cons (e_slice (e_var (by one_place)) e_nil e_int e2) l_nil) e3) e_nil e4) e5, by rw [← hcl]; exact get_last, hr⟩
set_option maxHeartbeats 1000000 in
theorem law_true (xs : List Int) (h : xs.length ≤ 63) : ∃ σ', callN prog 40 "law" [.ref 0] [.list (xs.map .int)] = some (.bool true, σ') := by
  obtain ⟨σ5, cA, c0, rest, hcells, gc5, hrl⟩ := s_cells (cf := callN prog 39) h
  obtain ⟨j0, hj0, hj0l⟩ := fmodN (c := c0) (n := 2) (by omega)
  obtain ⟨j1, hj1, hj1l⟩ := fmodN (c := c0.fdiv 2) (n := 2) (by omega)
  obtain ⟨a, ha, haj⟩ : ∃ a, (a = 1 ∨ a = 2) ∧ a = 1 + j0 := ⟨1 + j0, by omega, rfl⟩
  obtain ⟨b, hb, hbj⟩ : ∃ b, (b = 1 ∨ b = 2) ∧ b = 1 + j1 := ⟨1 + j1, by omega, rfl⟩
  let ℓ1 := (params ["script"] [.ref 0]).set "cells" (.ref cA)
  have ix0 : index σ5 (.ref cA) (.int 0) = some (.int c0) := idx_list gc5 (k := 0) rfl rfl
  have m0 : binOp σ5 .mod (.int c0) (.int 2) = some (.int (j0 : Nat), σ5) := by
    simp only [binOp]
    rw [if_pos (by unfold LIM; decide)]
    have : c0.fmod 2 = (j0 : Int) := hj0
    rw [this]
  have d0 : binOp σ5 .fdiv (.int c0) (.int 2) = some (.int (c0.fdiv 2), σ5) := by
    simp only [binOp]; rw [if_pos (by unfold LIM; decide)]
  have m1 : binOp σ5 .mod (.int (c0.fdiv 2)) (.int 2) = some (.int (j1 : Nat), σ5) := by
    simp only [binOp]
    rw [if_pos (by unfold LIM; decide)]
    have : (c0.fdiv 2).fmod 2 = (j1 : Int) := hj1
    rw [this]
  have mulS : ∀ (c m : Nat), m ≤ 2 → binOp σ5 .mul (.str [c]) (.int (m : Nat)) = some (.str (List.replicate m c), σ5) := fun c m hm => by
    simp only [binOp]
    rw [if_pos (by unfold LIM; simp; omega), Int.toNat_natCast, rep_one]
  have ms := mulS 42 a (by omega)
  have mb := mulS 95 b (by omega)
  have a0 : binOp σ5 .add (.int 1) (.int (j0 : Nat)) = some (.int (a : Nat), σ5) := by simp only [binOp]; congr 3; omega
  have a1 : binOp σ5 .add (.int 1) (.int (j1 : Nat)) = some (.int (b : Nat), σ5) := by simp only [binOp]; congr 3; omega
  let σ6 := σ5 ++ [O.tuple [.str (List.replicate a 42), .str (List.replicate b 95)]]
  have hstars : evalE (callN prog 39) (.tuple (.cons (.bin .mul (.str [42]) (.bin .add (.int 1) (.bin .mod (.sub (.var "cells") (.int 0)) (.int 2)))) (.cons (.bin .mul (.str [95]) (.bin .add (.int 1) (.bin .mod (.bin .fdiv (.sub (.var "cells") (.int 0)) (.int 2)) (.int 2)))) .nil))) ℓ1 σ5 = some (.ref σ5.length, σ6) :=
    e_tuple (l_cons (e_bin e_str (e_bin e_int (e_bin (e_sub (e_var (by one_place)) e_int ix0) e_int m0) a0) ms) (l_cons (e_bin e_str (e_bin e_int (e_bin (e_bin (e_sub (e_var (by one_place)) e_int ix0) e_int d0) e_int m1) a1) mb) l_nil))
  let ℓ2 := (ℓ1.set "stars" (.str (List.replicate a 42))).set "bars" (.str (List.replicate b 95))
  have hbm : bindMany ℓ1 ["stars", "bars"] [.str (List.replicate a 42), .str (List.replicate b 95)] = some ℓ2 := rfl
  let σ7 := σ6 ++ [O.list []]
  let σ8 := σ7 ++ [O.list (rest.map .int)]
  have gc7 : σ7[cA]? = some (.list ((c0 :: rest).map V.int)) := get_app (get_app gc5)
  have hsl : sliceOf σ7 (.ref cA) (.int 1) .none = some (.ref σ7.length, σ8) := by
    have := slice_list (v := .int 1) (w := .none) gc7 (bnd_nat (k := 1) rfl (by simp) (by simp; unfold LIM; omega)) rfl
    rw [this]
    simp [cut, σ8]
    rw [List.take_of_length_le (by simp)]
  have gr8 : σ8[σ7.length]? = some (.list (rest.map .int)) := get_last
  have gp8 : σ8[σ6.length]? = some (.list []) := get_app get_last
  have hl7 : σ7.length = σ6.length + 1 := by simp [σ7]
  have hl6 : 0 < σ6.length := by simp [σ6]
  obtain ⟨ℓ9, σ9, pcs, hfor1, f9, gp9, hpl, hU, lp9, ls9, lb9⟩ := s_pieces (cf := callN prog 39) ha hb (ℓ := ℓ2.set "pieces" (.ref σ6.length)) gr8 gp8 (by omega) (by omega) hrl (by one_place) (by one_place) (by one_place)
  have hl9 : 0 < σ9.length := by have := get_lt gp9; omega
  let σ10 := σ9 ++ [O.list []]
  let σ11 := σ10 ++ [O.list []]
  let σ12 := σ11 ++ [O.tuple [.ref σ9.length, .ref σ10.length]]
  let ℓ12 := (ℓ9.set "out" (.ref σ9.length)).set "opened" (.ref σ10.length)
  have hl10 : σ10.length = σ9.length + 1 := by simp [σ10]
  obtain ⟨ℓ13, σ13, hfor2, R⟩ := s_ref (cf := callN prog 39) ha hb hU (by omega) (σ0 := σ9) (σ := σ12) (ℓ := ℓ12) gp9 hl9
    ⟨⟨σ9.length, σ10.length, [], [], by one_place, by one_place, by omega, Nat.le_refl _, by omega, get_app (get_app get_last), get_app get_last, .nil, by simp, rfl, by simp⟩, by one_place, by one_place, by one_place, (Fr.app.trans Fr.app).trans Fr.app⟩
  obtain ⟨⟨oA, qA, items, tl, lo, lq, hoq, ho0, hq0, go, gq, htl, hit, hms, hil⟩, lp, ls, lb, fr⟩ := R
  generalize hus : mkU (List.replicate a 42) (List.replicate b 95) pcs = us at *
  have hlu : us.length = pcs.length := by rw [← hus]; simp [mkU]
  -- the text
  let t := flat us
  have htp : pcs.flatten = t := by
    show pcs.flatten = flat us
    rw [← hus]; unfold flat mkU; rw [List.map_map]; congr 1
    show pcs = pcs.map _
    conv => lhs; rw [← List.map_id pcs]
    rfl
  have hraw2 : ∀ g ∈ us, g.raw.length ≤ 2 := by
    intro g hg
    rcases hU.mem g hg with ⟨_, e | e⟩ | ⟨_, e | e | e⟩ <;> rw [e] <;> simp <;> omega
  have htl2 : t.length ≤ 200 := by
    have : ∀ {l : List Grp}, (∀ g ∈ l, g.raw.length ≤ 2) → (flat l).length ≤ 2 * l.length := by
      intro l
      induction l with
      | nil => intro _; simp [flat]
      | cons g l ih =>
        intro h
        have h1 := ih fun g hg => h g (by simp [hg])
        have h2 := h g (by simp)
        rw [flat_cons]; simp; omega
    have := this hraw2
    show (flat us).length ≤ 200
    omega
  have gp13 := fr.get0 gp9
  have hj : builtinM σ13 (.str []) "join" [.ref σ6.length] = some (.str t, σ13) := by
    have := join_list gp13 allStrs_map (by rw [htp]; unfold LIM; omega)
    rw [htp] at this; exact this
  let σ14 := σ13 ++ [dText t]
  let σ15 := σ14 ++ [O.list [.ref σ13.length]]
  have hgr := grp_len (us := us)
  have hft : t = flat (grp us) := flat_grp.symm
  obtain ⟨r, rs, σ16, k, z, hfin, gr, hT, hk, hkl⟩ := s_final (d := 33) (σ := σ15) (tl := σ14.length) (tok := σ13.length) (t := t) (gs := grp us) get_last (get_app get_last) ⟨by simp [σ14], by have := get_lt gp13; omega⟩ hft (gok_grp (a := a) (b := b) (by omega) (by omega) hU) (aok_grp ha hb hU hft) (by omega) htl2
  have hrunE : runM (ann t 0 (grp us)) = runM (ann t 0 us) := run_grp
  have hitems : (items.map (·.s)).flatten = flatM (runM (ann t 0 (grp us))) := by
    rw [hrunE, ← flat_rmI, hms]
    congr 2
    show (ann t 0 us).take pcs.length = ann t 0 us
    rw [List.take_of_length_le (by rw [ann_len]; omega)]
  have hlenF : (flatM (runM (ann t 0 (grp us)))).length ≤ 1000 := by
    have h1 := run_len (l := ann t 0 (grp us)) (S := ([], [])) (aok_grp ha hb hU hft).ne
    rw [ann_raw, ← hft] at h1
    have e0 : flatM (([], []) : MS) = [] := by simp [flatM]
    rw [e0] at h1
    unfold runM
    simp only [List.length_nil] at h1
    omega
  have htold := s_told (d := 21) 17 (hT.up hk) gr hlenF
  have go16 : σ16[oA]? = some (.list (items.map fun i => .str i.s)) := hkl _ _ (get_app (get_app go)) (by simp)
  have hjo : builtinM σ16 (.str []) "join" [.ref oA] = some (.str (flatM (runM (ann t 0 (grp us)))), σ16) := by
    have := join_list (σ := σ16) (n := oA) (l := items.map (·.s)) (vs := items.map fun i => .str i.s) go16 (by rw [show (items.map fun i => V.str i.s) = (items.map (·.s)).map V.str by simp]; exact allStrs_map) (by rw [hitems]; unfold LIM; omega)
    rw [hitems] at this; exact this
  have heq : cmpOp σ16 .eq (.str (flatM (runM (ann t 0 (grp us))))) (.str (flatM (runM (ann t 0 (grp us))))) = some true := by
    show some (_ == _) = _
    simp
  refine ⟨σ16, call1 rfl rfl (runN (x_assign hcells) (runN (x_swapM hstars get_last hbm) (runN (x_assign (e_list l_nil)) (runN (run_for (src_slice (e_slice (e_var (by one_place)) e_int e_nil hsl)) (by rw [size_list gr8, List.length_map]) hfor1)
    (runN (x_swapM (e_tuple (l_cons (e_list l_nil) (l_cons (e_list l_nil) l_nil))) get_last rfl) (runN hfor2 (runR (run_ret (e_cmp (e_call (l_cons (e_call (l_cons (e_list (l_cons (e_dict (kv_cons e_str (kv_cons (e_bmeth e_str (mOk_str (by simp)) (l_cons (e_var lp) l_nil) hj) kv_nil))) l_nil)) (l_cons e_bool (l_cons e_int l_nil))) hfin) l_nil) htold) (e_bmeth e_str (mOk_str (by simp)) (l_cons (e_var lo) l_nil) hjo) heq)))))))))⟩
end P1
end Mine
end

/-! the head, the join, the claim -/
open PySem PySem.W PyProof.Rows
set_option maxRecDepth 100000
set_option maxHeartbeats 8000000
open_top hd for PySem.Challenge.rw_ci0015_01
open PySem.Calls
namespace Mine
def HT : HeadTab where
  ftab := [("token_depth", 43), ("is_entity_boundary", 55), ("finalize_emphasis_tokens", 171), ("_process_dense_emphasis", 185), ("_contains_emphasis_marker", 192), ("_clean_emphasis_token", 199), ("_emphasis_source_text", 206), ("_emphasis_source_length", 213),
    ("_split_text_token", 220), ("_next_delimiter_run", 227), ("_process_emphasis_delimiters", 234), ("_find_emphasis_opener", 241), ("_get_emphasis_use_length", 248), ("_get_emphasis_children", 255), ("_apply_emphasis_match", 262), ("_has_strong_enabled", 269),
    ("_has_emphasis_enabled", 276), ("_text_raw", 283), ("_has_emphasis_content", 290), ("_can_match_emphasis_delimiters", 297), ("_can_open_emphasis", 304), ("_can_close_emphasis", 311), ("_is_punctuation", 318), ("_merge_text_tokens", 325), ("_law_told", 332), ("law", 337),
    ("_Delimiter.__init__", 71), ("_DelimiterIndex.__init__", 124), ("_DelimiterIndex.current", 131), ("_DelimiterIndex.collapse", 138), ("_DelimiterIndex.deactivate", 145), ("_DelimiterIndex.deactivate_range", 152), ("_DelimiterIndex._find", 159)]
  ctab := [("_Delimiter", 106), ("_DelimiterIndex", 162)]
  itab := [("_Delimiter", 71, 106), ("_DelimiterIndex", 124, 162)]
  ptab := P1.ptab
noncomputable def KF (P : Params) : Frag := (_root_.hd.heap_39 P).filter (fun p => (fun a => a != 72) p.1)
theorem head_ok (P : Params) : headChk (KF P) 42 HT = true := by kernel_rfl
theorem nl_ok (P : Params) : (KF P).all (fun p => p.1 != 40 && !isListO p.2) = true := by kernel_rfl
theorem tab_ok (P : Params) : tabOfK (KF P) (Str.ofString "token_depth") = some (42, 40) := by kernel_rfl
theorem fa_ok (P : Params) : nsIn (KF P) mainGlobals (Str.ofString "law") = some (some (.ref 337)) := by kernel_rfl
theorem td_ok : (recsOf _root_.hd.view_39).any (fun d => d.name == Str.ofString "token_depth") = true := by kernel_rfl
theorem finish {w : World} {pr : Program} {loose : List Str} {mean : ExcName → Option Value} {s : Shared} {mg mb : Str → Option Value} {fa la : Addr} {vs : List Value} {xs : List Int} (KX : (_root_.hd.heap_39 w.params).In s.heap)
    (T : Top _root_.hd.view_39 loose mean mg mb s.heap) (hg : s.gens = #[]) (hL : s.heap.IsList la vs.toArray) (w1 : Well w.params s.heap (.ref la) (ofPy (.list (xs.map .int)))) (hI : IntsAre vs xs) (hc : xs.length ≤ 63)
    (hmg : mg (Str.ofString "law") = some (.ref fa)) {Q E : Value → Shared → Prop} (k : ∀ s', OldK s.heap s'.heap → s'.os = s.os → AllBare s'.gens → Q (.bool true) s') :
    wpAny (model pr w) callerA (call (.ref fa) [.ref la] []) Q E s := by
  have kin : (KF w.params).In s.heap := in_filter (fun a => a != 72) KX
  have := mg_of kin T.g (fa_ok w.params)
  rw [hmg] at this; cases this
  obtain ⟨d, hd, hn⟩ := List.any_eq_true.mp td_ok
  have hn : d.name = Str.ofString "token_depth" := by simpa using hn
  obtain ⟨a, o, fd, c, P, e1, e2, e3, e4, e5, e6⟩ := T.tab d hd
  rw [hn] at e1
  obtain ⟨rfl, rfl⟩ := tab_of kin T.g (tab_ok w.params) e1 e2 e3 e4 e5
  obtain ⟨σ', hrun⟩ := P1.law_true xs hc
  have gl : s.heap.get? la = some (W.listOf vs.toArray 0) := by
    obtain ⟨o, g1, g2, n, g3⟩ := hL
    unfold ofPy at w1
    cases w1 with
    | list h1 h2 => rw [h1] at g1; cases g1; cases g3; exact h1
  refine wpAny_call ?_
  refine join kin (nl_ok _) (head_ok _) (fun g fn h => h) T.g T.b T.builtins T.nolimit e5 e6 (by decide) T.bmain (.of_eq hg) gl (ints_VRs hI) (by rw [List.length_map, LIM_small]; omega) rfl hrun ⟨rfl, by decide, by decide⟩ ?_
  intro s' ρ wv q h1 h2 h3
  rw [show wv = .bool true from q]
  exact k s' h1 h2 h3
end Mine
theorem PySem.Challenge.cw_ci0015_01_holds : PySem.Challenge.rw_ci0015_01.Holds :=
  hd (by
  k_fill
  intro w s₀ s₁ mg mb G Y fa o pm cd doc dV kV ho hd hcd hD hmg hg args vals as hpre hlay hrd hwl hlo
  have KX := km_in_of Y
  km_tabs Y
  have X := (Ground.X G).1
  have V := (Ground.X G).2
  refine Ground.open G ?_
  intro T B D TE TW
  try (refine guard_noD D (by decide +kernel) ?_; clear D)
  km_lay T hmg ho hd cd
  wrow_args hpre hlay hrd hwl hlo
  refine Mine.finish KX T hg ‹Heap.IsList _ _ _› ‹Well _ _ _ _› ‹IntsAre _ _› (by omega) hmg fun s' h1 h2 h3 => ?_
  exact ⟨.inl ⟨.bool true, .bool true, [], rfl, raisesW_false (by wrow_none_raised), .bool true, by wrow_post, unshared_nil⟩, h1, h2, h3⟩)

